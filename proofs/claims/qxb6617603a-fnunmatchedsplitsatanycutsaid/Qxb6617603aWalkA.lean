/-
  The size guards.
-/
import Derived.Test.Qxb6617603aBase
import Derived.Deep.QuietTactic
import Derived.BigQuiet
namespace Go.Proofs.Qxb6617603a
open Go.RowKit

set_option maxRecDepth 100000 in
set_option maxHeartbeats 2000000 in
theorem bytes_any (a a' : Option Addr) (n m c c' : Nat) (L : List Ent) (w : World) (hn : n = L.length) (hL : entsAt w a L) :
    Calls Try.prog 5 #[.slice a n c, .slice a' m c'] w fun e w' => (∃ b, e = .returned (.bool b)) ∧ w' = w := by
  have HL : Hid (n = L.length ∧ entsAt w a L) := ⟨hn, hL⟩
  clear hn hL
  by_cases hn0 : 1048576 < n
  · go_enter Try.func5, Try.ntmps5
    go_wp2
    go_ret
    exact ⟨⟨_, rfl⟩, rfl⟩
  have hn1 : (n : Int) ≤ 1048576 := by omega
  go_enter Try.func5, Try.ntmps5
  go_wp2
  go_loop [5, 6] (fun z i => ∃ (t : Int) (k : Nat), z = .int .i64 t ∧ i = .int .i64 (k : Int) ∧ k ≤ n) (fun _ i => n - (intOf i).toNat)
  case atStart => exact ⟨_, 0, rfl, rfl, Nat.zero_le _⟩
  case round =>
    obtain ⟨t, k, rfl, rfl, hk⟩ := hrel
    by_cases hlt : k < n
    · obtain ⟨b, o, ha, h, c2, c0, c1, c2', _⟩ := HL.out.2 k (by have := HL.out.1; omega)
      subst ha
      go_wp2
      case roundEnd => exact ⟨⟨_, k + 1, rfl, by go_num, by omega⟩, by simp [intOf]; omega⟩
      all_goals
        go_ret
        first | exact ⟨Or.inl rfl, rfl⟩ | exact ⟨Or.inr rfl, rfl⟩
    · go_wp2
      all_goals
        go_ret
        first | exact ⟨Or.inl rfl, rfl⟩ | exact ⟨Or.inr rfl, rfl⟩

set_option maxRecDepth 100000 in
set_option maxHeartbeats 2000000 in
theorem bytes_any' (a a' : Option Addr) (n m c c' : Nat) (x : Int) (L : List Ent) (w : World) (hn : n = L.length) (hL : entsAt w a L) :
    Calls Try.prog 12 #[.slice a n c, .slice a' m c', .int .i64 x] w fun e w' => (∃ b, e = .returned (.bool b)) ∧ w' = w := by
  have HL : Hid (n = L.length ∧ entsAt w a L) := ⟨hn, hL⟩
  clear hn hL
  by_cases hn0 : 1048576 < n
  · go_enter Try.func12, Try.ntmps12
    go_wp2
    go_ret
    exact ⟨⟨_, rfl⟩, rfl⟩
  have hn1 : (n : Int) ≤ 1048576 := by omega
  go_enter Try.func12, Try.ntmps12
  go_wp2
  go_loop [7, 8] (fun z i => ∃ (t : Int) (k : Nat), z = .int .i64 t ∧ i = .int .i64 (k : Int) ∧ k ≤ n) (fun _ i => n - (intOf i).toNat)
  case atStart => exact ⟨_, 0, rfl, rfl, Nat.zero_le _⟩
  case round =>
    obtain ⟨t, k, rfl, rfl, hk⟩ := hrel
    by_cases hlt : k < n
    · obtain ⟨b, o, ha, h, c2, c0, c1, c2', _⟩ := HL.out.2 k (by have := HL.out.1; omega)
      subst ha
      go_wp2
      case roundEnd => exact ⟨⟨_, k + 1, rfl, by go_num, by omega⟩, by simp [intOf]; omega⟩
      all_goals
        go_ret
        first | exact ⟨Or.inl rfl, rfl⟩ | exact ⟨Or.inr rfl, rfl⟩
    · go_wp2
      all_goals
        go_ret
        first | exact ⟨Or.inl rfl, rfl⟩ | exact ⟨Or.inr rfl, rfl⟩

/-- What the guard lets by. -/
def small (n m : Nat) (L : List Ent) : Prop := n ≤ 65536 ∧ m ≤ 65536 ∧ ∀ i, ∀ h : i < L.length, L[i].hash.length ≤ 1048576

def sizePost (n m : Nat) (L : List Ent) (w : World) (e : Ending) (w' : World) : Prop := ∃ b q, e = .returned (.bool b) ∧ (b = true → small n m L) ∧ w' = w.drewN q

set_option maxRecDepth 100000 in
set_option maxHeartbeats 2000000 in
theorem size_any (a a' : Option Addr) (n m c c' : Nat) (L : List Ent) (w : World) (hn : n = L.length) (hL : entsAt w a L) :
    Calls Try.prog 6 #[.slice a n c, .slice a' m c'] w fun e w' => sizePost n m L w e w' := by
  have HL : Hid (n = L.length ∧ entsAt w a L) := ⟨hn, hL⟩
  clear hn hL
  by_cases hn0 : 65536 < n
  · go_enter Try.func6, Try.ntmps6
    go_wp2
    go_ret
    exact ⟨false, 0, rfl, (fun h => by cases h), rfl⟩
  have hn1 : (n : Int) ≤ 65536 := by omega
  by_cases hm0 : 65536 < m
  · go_enter Try.func6, Try.ntmps6
    go_wp2
    go_ret
    exact ⟨false, 0, rfl, (fun h => by cases h), rfl⟩
  have hm1 : (m : Int) ≤ 65536 := by omega
  go_enter Try.func6, Try.ntmps6
  go_wp2
  go_loopw [5, 6] (fun z i wr => ∃ (t : Int) (k : Nat), z = .int .i64 t ∧ i = .int .i64 (k : Int) ∧ k ≤ n ∧ (∀ x, ∀ h : x < L.length, x < k → L[x].hash.length ≤ 1048576) ∧ ∃ q, wr = w.drewN q) (fun _ i _ => n - (intOf i).toNat)
  case atStart => exact ⟨_, 0, rfl, rfl, Nat.zero_le _, fun x _ h => absurd h (Nat.not_lt_zero _), 0, rfl⟩
  case round =>
    obtain ⟨t, k, rfl, rfl, hk, hsm, q, rfl⟩ := hrel
    have HS : Hid (∀ x, ∀ h : x < L.length, x < k → L[x].hash.length ≤ 1048576) := hsm
    clear hsm
    by_cases hlt : k < n
    · have hkL : k < L.length := by have := HL.out.1; omega
      obtain ⟨b, o, ha, h, c2, c0, c1, c2', _⟩ := HL.out.2 k hkL
      subst ha
      by_cases hh : 1048576 < L[k].hash.length
      · go_wp2
        all_goals
          go_ret
          exact ⟨false, q, rfl, (fun h => by cases h), rfl⟩
      by_cases hname : 1048576 < L[k].name.size
      · go_wp2
        all_goals
          go_ret
          exact ⟨false, q, rfl, (fun h => by cases h), rfl⟩
      have hh' : (L[k].hash.length : Int) ≤ 1048576 := by omega
      have hname' : (L[k].name.size : Int) ≤ 1048576 := by omega
      have hkn : (k : Int) < (n : Int) := by omega
      go_wp2
      go_quiet (fail)
      go_wp2
      case roundEnd =>
        refine ⟨⟨_, k + 1, rfl, by go_num, by omega, fun x hx g => ?_, _, rfl⟩, by simp [intOf]; omega⟩
        by_cases hxk : x = k
        · subst hxk; omega
        · exact HS.out x hx (by omega)
      all_goals
        go_ret
        exact ⟨false, _, rfl, (fun h => by cases h), rfl⟩
    · go_wp2
      go_ret
      refine ⟨true, q, rfl, fun _ => ⟨by omega, by omega, fun x hx => HS.out x hx (by have := HL.out.1; omega)⟩, rfl⟩
end Go.Proofs.Qxb6617603a
