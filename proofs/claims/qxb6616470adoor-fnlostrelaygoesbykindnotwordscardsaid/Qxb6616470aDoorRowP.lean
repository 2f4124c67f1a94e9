/-
  The row of FnLostRelayGoesByKindNotWords and her tied card, after the kit's worked example ToyasProofs.lean and ToyasCard.lean.
-/
import Derived.Test.Qxb6616470aDoorRows
import Derived.Test.Qxb6616470aDoorCards
import Derived.Test.Qxb6616470aDoorTie
import Derived.Test.Qxb6616470aDoorWalkA
import Derived.ProofKit
import Derived.ChangeSame
import Derived.ChangeVars
import Derived.JoinedOf
import Derived.RowKit
import Derived.RowKitTokens
import Derived.LaidLaws
import Derived.LaidHandle
import Derived.Stop.Joined
import Derived.SevenTiedAt
namespace Go.Proofs.Qxb6616470aDoor
open Go.ChangeShapes Go.WideShapes Go.RowKit
open Go.ChangeMaps (open_string shut_string)

theorem own : ownKnob Tryd.prog.godebug = none := by kernel_rfl
theorem etVar : Tryd.prog.globalNamed "errors.errorType" = some 0 := by kernel_rfl
def rtName : DataW Unit → String
  | .iface n _ => n
  | _ => ""
theorem rtType : (Tryd.prog.cutTypes.find? (·.1 == rtName Rows.laid_errors_errorType)).map (·.2) = some 54 := by kernel_rfl
theorem oneRow : ((List.range 97).filter fun t => Tryd.prog.rowNamed t [101, 114, 114, 111, 114]) = [28] := by kernel_rfl
theorem typesSize : Tryd.prog.types.size = 97 := by kernel_rfl

def laidRow : List (String × DataW Unit) := [("errors.errorType", Rows.laid_errors_errorType)]

/-- What the condition gives a walk: the variable's one cell. -/
theorem handle_of_laid {W : World} (h : laidMetH Tryd.prog laidRow W) : laidCell W := by
  have h' : laidMet Tryd.prog [] W ∧ handlesMet Tryd.prog laidRow W := h
  obtain ⟨name, u, ty, e1, e2, e3, e4, e5⟩ := h'.2 _ (List.mem_singleton.2 rfl)
  have en : name = [101, 114, 114, 111, 114] := (Option.some.inj e1).symm
  subst en
  obtain rfl := Option.some.inj (rtType.symm.trans e2)
  have hm : ty ∈ (List.range 97).filter fun t => Tryd.prog.rowNamed t [101, 114, 114, 111, 114] := List.mem_filter.2 ⟨List.mem_range.2 (by rw [← typesSize]; exact e3), e4⟩
  rw [oneRow] at hm
  obtain rfl := List.mem_singleton.1 hm
  have hh : typeHandle Tryd.prog 28 = .pointer (some ⟨1, 28, none⟩) := by kernel_rfl
  rw [hh] at e5
  unfold laidCell
  simpa using World.var?_cell etVar e5 0

theorem laidWorld_met (os : Os) (args : Array Value) : laidMetH Tryd.prog laidRow (({ World.holding Tryd.prog os ⟨#[], #[], []⟩ with heap := (World.holding Tryd.prog os ⟨#[], #[], []⟩).heap.modify 0 fun
      | .cells _ t frozen => .cells #[.iface 54 (.agg #[.pointer (some ⟨1, 28, none⟩)])] t frozen
      | o => o } : World).forCall (fun _ _ => 0) ⟨#[], args, []⟩).memory :=
  laidMetH_of_parts (laidMet_nil _ _) (by kernel_rfl)

set_option maxRecDepth 100000 in
theorem law_lifted (os : Os) (started : os.Started) (H : Type) (enc : TypeId × Value → H) :
    ReturnsInHanded {} Tryd.checked os 3 .any (fun w args => (Rows.fnLostRelayGoesByKindNotWordsSpec.pre enc Tryd.prog Tryd.f3 [] false w args ∧ laidMetH Tryd.prog laidRow w) ∧ sizedMet enc Tryd.prog Tryd.f3 (OpenSpec.ofChange Rows.fnLostRelayGoesByKindNotWordsSpec) false w args)
      (Rows.fnLostRelayGoesByKindNotWordsSpec.post enc Tryd.prog Tryd.f3 false true false false) := by
  refine returnsInHanded_of_change_and (C := Tryd.checked) (X := fun w _ => laidMetH Tryd.prog laidRow w) (fun _ _ _ hh h => h.of_heap hh) own started (by kernel_rfl) Tryd.func3
    (ChangeSpec.witness_at (enc := enc) (C := Tryd.checked) (os := os) (X := fun w _ => laidMetH Tryd.prog laidRow w) false ({ World.holding Tryd.prog os ⟨#[], #[], []⟩ with heap := (World.holding Tryd.prog os ⟨#[], #[], []⟩).heap.modify 0 fun
      | .cells _ t frozen => .cells #[.iface 54 (.agg #[.pointer (some ⟨1, 28, none⟩)])] t frozen
      | o => o } : World) #[.string ByteArray.empty, .string ByteArray.empty] 8 rfl (by kernel_rfl) (by kernel_rfl) (by kernel_rfl) (by kernel_rfl) (by kernel_rfl) (laidWorld_met os _)) ?_
  intro W base args ds gs before hval0 hW _ _ hL _
  have hval : ∀ (j : Nat) t v, Tryd.f3.params[j]? = some t → args[j]? = some v → Value.okWide Tryd.prog W .any base t v := hval0
  have hW' := hW
  obtain ⟨p, q, hA0, hV0, rfl, hfz, hnd⟩ := hW
  have hA : DataW.TrodAll enc Tryd.prog W 0 (fun _ => true) true Tryd.f3.params.toList args.toList ds p := hA0
  have hV : DataW.TrodVars enc Tryd.prog W (fun _ => true) [] gs q := hV0
  rw [Tryd.params3] at hA hval
  obtain ⟨v0, v1, d0, d1, p0, p1, rfl, rfl, rfl, h0, h1⟩ := trodAll_two hA
  obtain ⟨r, rfl, rfl, rfl, hr⟩ := open_string Tryd.underlying9 (hval 0 9 v0 rfl rfl) h0
  obtain ⟨s, rfl, rfl, rfl, hs⟩ := open_string Tryd.underlying9 (hval 1 9 v1 rfl rfl) h1
  have hg := handle_of_laid hL
  obtain ⟨rfl, rfl⟩ : gs = [] ∧ q = [] := by
    cases gs with
    | nil => exact ⟨rfl, hV⟩
    | cons g r => exact absurd hV (by intro h; cases h)
  have e1 : ∀ a b : DataW H, Rows.fnLostRelayGoesByKindNotWordsSpec.fn H ([a, b] ++ []) = { results := [.lit (.bool true)], args := [a, b] } := fun _ _ => by simp [Rows.fnLostRelayGoesByKindNotWordsSpec]
  by_cases hb : r.size + s.size ≤ 1048576
  · refine (law_yes r s W hg hb).mono fun e W' ⟨he, hw⟩ => ?_
    subst he
    refine ⟨_, rfl, _, _, _, [], [], [], hW', ?_, ?_, ?_, hw.frame _, fun h => by cases h⟩
    · rw [e1]; exact trodAll_mk1 (shut_bool Tryd.underlying4 true)
    · rw [e1]; exact trodAll_mk2 (shut_string Tryd.underlying9 hr) (shut_string Tryd.underlying9 hs)
    · rw [e1]; rfl
  · refine (law_no r s W hr hs (by omega)).mono fun e W' ⟨he, hw⟩ => ?_
    subst he
    refine ⟨_, rfl, _, _, _, [], [], [], hW', ?_, ?_, ?_, hw.frame _, fun h => by cases h⟩
    · rw [e1]; exact trodAll_mk1 (shut_bool Tryd.underlying4 true)
    · rw [e1]; exact trodAll_mk2 (shut_string Tryd.underlying9 hr) (shut_string Tryd.underlying9 hs)
    · rw [e1]; rfl

theorem row_holds : Rows.FnLostRelayGoesByKindNotWordsSaid :=
  OpenClaim.holds_of_wide 3 Tryd.f3 rfl rfl rfl rfl rfl rfl rfl ⟨rfl, rfl, rfl, rfl, rfl⟩ rfl rfl rfl rfl rfl (by kernel_rfl) Tryd.func3 (by kernel_rfl)
    (of_decide_eq_true (by kernel_rfl)) (by unfold Func.isWrapper; rw [if_neg (of_decide_eq_false (by kernel_rfl))]; exact ⟨rfl, rfl⟩)
    (fun os started H enc _ => law_lifted os started H enc)

theorem card_holds : Rows.FnLostRelayGoesByKindNotWordsCardSaid :=
  Claim7.holds_tied_plain_at .later [] [.handle] true (true, "c0324524a3d08b4f867035d59ef880e5b1a1e0032771e005b4f5bc8450e4cf79") true
    row_holds (fun _ h => by cases h) (by kernel_rfl) (fun _ h => by cases h) fnLostRelayGoesByKindNotWords_row_tie rfl ⟨rfl, rfl⟩ (by kernel_rfl) rfl
    (fun f fn hf hfn => by
      obtain rfl : f = 3 := Option.some.inj ((show Tryd.prog.funcNamed Rows.fnLostRelayGoesByKindNotWordsRow.func = some 3 by kernel_rfl).symm.trans hf) |>.symm
      obtain rfl : fn = Tryd.f3 := (Option.some.inj (Tryd.func3.symm.trans hfn)).symm
      exact ⟨by kernel_rfl, fun j t ht => by
        rw [Tryd.params3] at ht
        have h9 : t = 9 := by
          rcases j with _ | _ | j
          · simpa using ht.symm
          · simpa using ht.symm
          · simp at ht
        subst h9
        exact (show Tryd.prog.wantsStandIn 9 = false by kernel_rfl)⟩)
    (by kernel_rfl)
#print axioms card_holds
end Go.Proofs.Qxb6616470aDoor
