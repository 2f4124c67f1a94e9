/-
  RoleNames: the map that it hands back.
-/
import Derived.Test.Qxb6617593aBase
import Derived.OwnWalk
namespace Go.Proofs.Qxb6617593a
open Go.RowKit Go.Maps

theorem run_makeMap_hint (n : Int) (w : World) : (Instr.makeMap 37 (some (.int .i64 n))).run Try.prog w = .ok (.map (some w.heap.size)) (w.alloc (.map #[] 0)) := by kernel_rfl

set_option maxRecDepth 100000 in
set_option maxHeartbeats 2000000 in
theorem names_any (a ua : Option Addr) (n c m c' : Nat) (L : List Role) (w : World) (hn : n = L.length) (hmax : n ≤ 4096) (hL : rolesAt w a L) (hok : okRoles L) :
    Calls Try.prog 5 #[.agg #[.slice a n c, .slice ua m c']] w fun e w' => ∃ B, e = .returned (.map (some B)) ∧ w.heap.size ≤ B ∧ w'.ownsMap Try.prog 30 (plainElem Try.prog 9) B n (mapOf L) ∧ Below w.heap.size w w' := by
  have HL : Hid (n = L.length ∧ rolesAt w a L ∧ okRoles L) := ⟨hn, hL, hok⟩
  clear hn hL hok
  have hmm := run_makeMap_hint
  go_enter Try.func5, Try.ntmps5
  go_wp2
  go_loopw [13] (fun i wr => ∃ k : Nat, k ≤ n ∧ i = .int .i64 (k : Int) ∧ wr.ownsMap Try.prog 30 (plainElem Try.prog 9) (w.heap.size + 1) k (mapOf (seg L 0 k)) ∧ Below w.heap.size w wr) (fun i _ => n - (intOf i).toNat)
  case atStart =>
    refine ⟨0, Nat.zero_le _, rfl, ?_, ((Below.refl _ _).alloc (Nat.le_refl _) _).alloc (by simp) _⟩
    have := World.ownsMap_made (w.alloc (.cells #[.slice a n c, .slice ua m c'] 39)) Try.prog 30 (plainElem (H := Unit) Try.prog 9)
    simpa [seg, mapOf, mapR] using this
  case round =>
    obtain ⟨k, hk, rfl, hown, hbel⟩ := hrel
    by_cases hlt : k < n
    · obtain ⟨hn, hL, hok⟩ := HL.out
      have hkL : k < L.length := by omega
      obtain ⟨b, o, ha, c0, c1⟩ := rolesAt_below hL hbel k hkL
      obtain ⟨hw0, hw1⟩ := hok _ (List.getElem_mem hkL)
      have hsnoc := map_snoc L 0 k (Nat.zero_le _) hkL
      have HSN : Hid (mapOf (seg L 0 (k + 1)) = (mapOf (seg L 0 k)).put (kl L[k].1) (nm L[k].2)) := hsnoc
      have HW : Hid ((Lit.int .i64 L[k].1).wf = true ∧ L[k].2.size ≤ maxLen) := ⟨hw0, hw1⟩
      subst ha
      clear hn hL hok hsnoc hw0 hw1
      go_wp2_with (first | (at_mapUpdate; refine wpList_mapUpdate_own _ rfl _ _ _ 37 rfl 30 9 mapLaw Try.underlying37 _ (w.heap.size + 1) k _ rfl (hown.alloc _) (by unfold maxLen; omega) _ _ (kl L[k].1) rfl rfl (keyOf_int_mk Try.underlying30 HW.out.1) (nm L[k].2) [] (plainElem_string Try.underlying9 HW.out.2) ?_; intro w1 hown1 hgrow1) | go_in)
      exact ⟨⟨k + 1, by omega, by go_num, by rw [HSN.out]; exact hown1, (hbel.alloc hbel.size _).grown hgrow1 (Nat.le_trans hbel.size (by simp)) (fun j hj => by cases hj; exact Nat.le_succ _)⟩, by simp [intOf]; omega⟩
    · have hkn : k = n := by omega
      subst hkn
      go_wp2
      go_ret
      refine ⟨w.heap.size + 1, rfl, Nat.le_succ _, ?_, hbel⟩
      have e : seg L 0 k = L := by unfold seg; rw [List.drop_zero, List.take_of_length_le (by have := HL.out.1; omega)]
      rw [e] at hown
      exact hown
end Go.Proofs.Qxb6617593a
