/-
  The row of FnUnmatchedSplitsAtAnyCut.
-/
import Derived.Test.Qxb6617603aRows
import Derived.Test.Qxb6617603aWalkF
import Derived.Test.Qxb6617603aOpen
import Derived.ProofKit
namespace Go.Proofs.Qxb6617603a.splits
open Go.ChangeShapes Go.WideShapes Go.ChangeAt Go.RowKit Go.Deep

theorem own : ownKnob Try.prog.godebug = none := by kernel_rfl
theorem laidOut : laidOutB Try.prog = true := by kernel_rfl

set_option maxRecDepth 100000 in
theorem lifted (os : Os) (started : os.Started) (H : Type) (enc : TypeId × Value → H) :
    ReturnsInHanded {} Try.checked os 4 .any (Rows.fnUnmatchedSplitsAtAnyCutSpec.pre6 enc Try.prog Try.f4 Rows.fnUnmatchedSplitsAtAnyCutRow.domain false) (Rows.fnUnmatchedSplitsAtAnyCutSpec.post enc Try.prog Try.f4 false true false false) := by
  refine returnsInHanded_of_change (C := Try.checked) own started (by kernel_rfl) Try.func4
    (ChangeSpec.witness6 (enc := enc) (C := Try.checked) false ⟨#[], #[.slice none 0 0, .slice none 0 0, .int .i64 0], []⟩ 8 (by kernel_rfl) (by kernel_rfl) (by kernel_rfl) (by kernel_rfl)) ?_
  intro W base args ds gs before hval0 hW hcnd _
  have hval : ∀ (j : Nat) t v, Try.f4.params[j]? = some t → args[j]? = some v → Value.okWide Try.prog W .any base t v := hval0
  have hW' := hW
  obtain ⟨p, q, hA0, hV, rfl, _, _⟩ := hW
  have hA : DataW.TrodAll enc Try.prog W 0 (fun _ => true) true Try.f4.params.toList args.toList ds p := hA0
  rw [Try.params4] at hA hval
  obtain ⟨v0, v1, v2, d0, d1, d2, p0, p1, p2, rfl, rfl, rfl, h0, h1, h2⟩ := trodAll_three hA
  obtain ⟨rfl, rfl⟩ := trodVars_none hV
  obtain ⟨a0, len, cap, rfl⟩ := okWide_slice Try.underlying22 (hval 0 22 v0 rfl rfl)
  obtain ⟨a1, len1, cap1, rfl⟩ := okWide_slice Try.underlying23 (hval 1 23 v1 rfl rfl)
  obtain ⟨cut, rfl, rfl, rfl, wcut⟩ := open_int Try.underlying3 (hval 2 3 v2 rfl rfl) h2
  clear hA0 hval0 hA
  simp only [List.append_nil] at hW'
  have hlt : ∀ x ∈ p0 ++ p1, x.block < W.heap.size := fun x hx => by simpa using hW'.lt x (by simpa using hx)
  have arg0 : ∀ (W' : World), Below W.heap.size W W' → DataW.Trod enc Try.prog W' 0 (fun b => decide (b < W.heap.size)) true 22 (.slice a0 len cap) d0 p0 :=
    fun W' hn => Below.trod laidOut (by kernel_rfl) (of_decide_eq_true (by kernel_rfl)) h0 hn (fun x hx => hlt x (List.mem_append_left _ hx))
  have arg1 : ∀ (W' : World), Below W.heap.size W W' → DataW.Trod enc Try.prog W' 0 (fun b => decide (b < W.heap.size)) true 23 (.slice a1 len1 cap1) d1 p1 :=
    fun W' hn => Below.trod laidOut (by kernel_rfl) (of_decide_eq_true (by kernel_rfl)) h1 hn (fun x hx => hlt x (List.mem_append_right _ hx))
  obtain ⟨L, hn, hL⟩ := open_ents h0
  obtain ⟨bs, hm, hB⟩ := open_bools h1
  have e1 : Rows.fnUnmatchedSplitsAtAnyCutSpec.fn H ([d0, d1, .lit (.int .i64 cut)] ++ []) = { results := [.lit (.bool true)], args := [d0, d1, .lit (.int .i64 cut)] } := by simp [Rows.fnUnmatchedSplitsAtAnyCutSpec]
  refine (law4_any a0 a1 len cap len1 cap1 cut L bs W hn hm hL hB).mono fun e W' ⟨he, hB⟩ => ?_
  subst he
  refine ⟨_, rfl, _, _, _, [], p0 ++ (p1 ++ []), [], hW', ?_, ?_, by rw [e1]; rfl, hB.frame _, fun h => by cases h⟩
  · rw [e1]; exact trodAll_mk1 (shut_bool Try.underlying4 true)
  · rw [e1]; exact trodAll_mk3 (arg0 _ hB) (arg1 _ hB) (shut_int Try.underlying3 wcut)

theorem proved : Rows.FnUnmatchedSplitsAtAnyCutSaid :=
  OpenClaim.holds_of_wide 4 Try.f4 rfl rfl rfl rfl rfl rfl rfl ⟨rfl, rfl, rfl, rfl, rfl⟩ rfl rfl rfl rfl rfl (by kernel_rfl) Try.func4 (by kernel_rfl)
    (of_decide_eq_true (by kernel_rfl)) (by unfold Func.isWrapper; first | (rw [if_pos (by decide +kernel)]; kernel_rfl) | (rw [if_neg (by decide +kernel)]; exact ⟨rfl, rfl⟩))
    (fun os started H enc _ => lifted os started H enc)
#print axioms proved
end Go.Proofs.Qxb6617603a.splits
