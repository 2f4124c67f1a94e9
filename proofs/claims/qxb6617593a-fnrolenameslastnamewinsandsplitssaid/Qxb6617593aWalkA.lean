/-
  The size guard: whatever it answers.
-/
import Derived.Test.Qxb6617593aBase
namespace Go.Proofs.Qxb6617593a
open Go.RowKit

set_option maxRecDepth 100000 in
set_option maxHeartbeats 2000000 in
theorem bytes_any (a a' : Option Addr) (n m c c' : Nat) (L : List Role) (M : List Attr) (cut : Int) (w : World) (hn : n = L.length) (hm : m = M.length) (hL : rolesAt w a L) (hM : attrsAt w a' M) :
    Calls Try.prog 4 #[.slice a n c, .slice a' m c', .int .i64 cut] w fun e w' => (∃ b, e = .returned (.bool b)) ∧ w' = w := by
  have HL : Hid (n = L.length ∧ rolesAt w a L) := ⟨hn, hL⟩
  have HM : Hid (m = M.length ∧ attrsAt w a' M) := ⟨hm, hM⟩
  clear hn hm hL hM
  by_cases hn0 : 1048576 < n
  · go_enter Try.func4, Try.ntmps4
    go_wp2
    go_ret
    exact ⟨⟨_, rfl⟩, rfl⟩
  have hn1 : (n : Int) ≤ 1048576 := by omega
  go_enter Try.func4, Try.ntmps4
  go_wp2
  go_loop [7, 8] (fun z i => ∃ (t : Int) (k : Nat), z = .int .i64 t ∧ i = .int .i64 (k : Int) ∧ k ≤ n) (fun _ i => n - (intOf i).toNat)
  case atStart => exact ⟨_, 0, rfl, rfl, Nat.zero_le _⟩
  case round =>
    obtain ⟨t, k, rfl, rfl, hk⟩ := hrel
    by_cases hlt : k < n
    · obtain ⟨b, o, ha, c0, c1⟩ := HL.out.2 k (by have := HL.out.1; omega)
      subst ha
      go_wp2
      case roundEnd => exact ⟨⟨_, k + 1, rfl, by go_num, by omega⟩, by simp [intOf]; omega⟩
      all_goals
        go_ret
        first | exact ⟨Or.inl rfl, rfl⟩ | exact ⟨Or.inr rfl, rfl⟩
    · by_cases hm0 : 1048576 < m
      · go_wp2
        all_goals
          go_ret
          first | exact ⟨Or.inl rfl, rfl⟩ | exact ⟨Or.inr rfl, rfl⟩
      have hm1 : (m : Int) ≤ 1048576 := by omega
      go_wp2
      · go_ret
        first | exact ⟨Or.inl rfl, rfl⟩ | exact ⟨Or.inr rfl, rfl⟩
      go_loop [7, 9] (fun z i => ∃ (t : Int) (k : Nat), z = .int .i64 t ∧ i = .int .i64 (k : Int) ∧ k ≤ m) (fun _ i => m - (intOf i).toNat)
      case atStart => exact ⟨_, 0, rfl, rfl, Nat.zero_le _⟩
      case round =>
        obtain ⟨t, j, rfl, rfl, hj⟩ := hrel
        by_cases hlt' : j < m
        · obtain ⟨b, o, ha, c0, c1, c2, c3, c4, c5, c6, c7, c8, c9, c10⟩ := HM.out.2 j (by have := HM.out.1; omega)
          subst ha
          clear c0 c5 c6 c7 c8 c9
          go_wp2
          case roundEnd => exact ⟨⟨_, j + 1, rfl, by go_num, by omega⟩, by simp [intOf]; omega⟩
          all_goals
            go_ret
            first | exact ⟨Or.inl rfl, rfl⟩ | exact ⟨Or.inr rfl, rfl⟩
        · go_wp2
          go_ret
          first | exact ⟨Or.inl rfl, rfl⟩ | exact ⟨Or.inr rfl, rfl⟩
end Go.Proofs.Qxb6617593a
