/-
  The walks of the functions on the road.
-/
import Derived.Test.Qxb6617082aProg
import Derived.Test.Qxb6617082aPlain
import Derived.WalkKit
import Derived.WalkSpells
import Derived.WalkLawsBesides
import Derived.Outline
import Derived.Deep.Light
namespace Go.Proofs.Qxb6617082a
open Go.RowKit
set_option linter.unusedSimpArgs false

theorem ret_int {k : IntKind} {a b : Int} (h : a = b) : Ending.returned (.int k a) = .returned (.int k b) := by rw [h]
theorem ret_bool {a b : Bool} (h : a = b) : Ending.returned (.bool a) = .returned (.bool b) := by rw [h]

theorem bytes_no (s : ByteArray) (w : World) (hs : s.size ≤ maxLen) (h : 1048576 < s.size) :
    Calls Try.prog 4 #[.string s] w fun e w' => e = .returned (.bool false) ∧ w' = w := by
  unfold maxLen at hs
  go_enter Try.func4, Try.ntmps4
  go_wp2
  go_ret
  exact ⟨rfl, rfl⟩
theorem bytes_yes (s : ByteArray) (w : World) (h : s.size ≤ 1048576) :
    Calls Try.prog 4 #[.string s] w fun e w' => e = .returned (.bool true) ∧ w' = w := by
  have h1 : (s.size : Int) ≤ 1048576 := by omega
  go_enter Try.func4, Try.ntmps4
  go_wp2
  go_ret
  exact ⟨rfl, rfl⟩

/-- What a step's answer is in Go's words. -/
def code : Option Nat → Int
  | some n => n
  | none => -1
/-- The step in the walk's words. -/
def stepI (st : Nat) (c : Int) : Int :=
  if st = 11 then (if c = 110 then 12 else -1)
  else if st = 12 then (if c = 102 then 13 else -1)
  else if st = 13 then (if c = 105 then 14 else -1)
  else if st = 14 then (if c = 110 then 15 else -1)
  else if st = 15 then (if c = 105 then 16 else -1)
  else if st = 16 then (if c = 116 then 17 else -1)
  else if st = 17 then (if c = 121 then 18 else -1)
  else if 9 ≤ st then -1
  else if st = 0 ∧ (c = 43 ∨ c = 45) then 1
  else if st ≤ 1 then (if 48 ≤ c ∧ c ≤ 57 then 2 else if c = 46 then 3 else if c = 73 then 11 else -1)
  else if st = 2 then (if 48 ≤ c ∧ c ≤ 57 then 2 else if c = 46 then 4 else if c = 101 ∨ c = 69 then 6 else -1)
  else if st = 3 then (if 48 ≤ c ∧ c ≤ 57 then 5 else -1)
  else if st ≤ 5 then (if 48 ≤ c ∧ c ≤ 57 then 5 else if c = 101 ∨ c = 69 then 6 else -1)
  else if st = 6 then (if c = 43 ∨ c = 45 then 7 else if 48 ≤ c ∧ c ≤ 57 then 8 else -1)
  else (if 48 ≤ c ∧ c ≤ 57 then 8 else -1)
theorem u8_eq (c : UInt8) (n : UInt8) : c = n ↔ (c.toNat : Int) = (n.toNat : Int) := by
  rw [← UInt8.toNat_inj]; omega
theorem step_code (st : Nat) (c : UInt8) (h : st ≤ 8 ∨ (11 ≤ st ∧ st ≤ 18)) : code (step st c) = stepI st (c.toNat : Int) := by
  have hh : st = 0 ∨ st = 1 ∨ st = 2 ∨ st = 3 ∨ st = 4 ∨ st = 5 ∨ st = 6 ∨ st = 7 ∨ st = 8 ∨ st = 11 ∨ st = 12 ∨ st = 13 ∨ st = 14 ∨ st = 15 ∨ st = 16 ∨ st = 17 ∨ st = 18 := by omega
  rcases hh with rfl | rfl | rfl | rfl | rfl | rfl | rfl | rfl | rfl | rfl | rfl | rfl | rfl | rfl | rfl | rfl | rfl <;>
    simp [step, stepI, isDig, isSgn, isExp, infL, u8_eq] <;> (repeat' split) <;> first | rfl | omega

theorem infGet0 (h : 0 < (⟨#[73, 110, 102, 105, 110, 105, 116, 121]⟩ : ByteArray).size) : ((((⟨#[73, 110, 102, 105, 110, 105, 116, 121]⟩ : ByteArray)[0]'h).toNat : Nat) : Int) = 73 := rfl
theorem infGet1 (h : 1 < (⟨#[73, 110, 102, 105, 110, 105, 116, 121]⟩ : ByteArray).size) : ((((⟨#[73, 110, 102, 105, 110, 105, 116, 121]⟩ : ByteArray)[1]'h).toNat : Nat) : Int) = 110 := rfl
theorem infGet2 (h : 2 < (⟨#[73, 110, 102, 105, 110, 105, 116, 121]⟩ : ByteArray).size) : ((((⟨#[73, 110, 102, 105, 110, 105, 116, 121]⟩ : ByteArray)[2]'h).toNat : Nat) : Int) = 102 := rfl
theorem infGet3 (h : 3 < (⟨#[73, 110, 102, 105, 110, 105, 116, 121]⟩ : ByteArray).size) : ((((⟨#[73, 110, 102, 105, 110, 105, 116, 121]⟩ : ByteArray)[3]'h).toNat : Nat) : Int) = 105 := rfl
theorem infGet4 (h : 4 < (⟨#[73, 110, 102, 105, 110, 105, 116, 121]⟩ : ByteArray).size) : ((((⟨#[73, 110, 102, 105, 110, 105, 116, 121]⟩ : ByteArray)[4]'h).toNat : Nat) : Int) = 110 := rfl
theorem infGet5 (h : 5 < (⟨#[73, 110, 102, 105, 110, 105, 116, 121]⟩ : ByteArray).size) : ((((⟨#[73, 110, 102, 105, 110, 105, 116, 121]⟩ : ByteArray)[5]'h).toNat : Nat) : Int) = 105 := rfl
theorem infGet6 (h : 6 < (⟨#[73, 110, 102, 105, 110, 105, 116, 121]⟩ : ByteArray).size) : ((((⟨#[73, 110, 102, 105, 110, 105, 116, 121]⟩ : ByteArray)[6]'h).toNat : Nat) : Int) = 116 := rfl
theorem infGet7 (h : 7 < (⟨#[73, 110, 102, 105, 110, 105, 116, 121]⟩ : ByteArray).size) : ((((⟨#[73, 110, 102, 105, 110, 105, 116, 121]⟩ : ByteArray)[7]'h).toNat : Nat) : Int) = 121 := rfl
theorem ne_of_beq {a b : Int} (h : (a == b) = false) : ¬ a = b := by simpa using h

theorem acc0 (w : World) : Calls Try.prog 6 #[.int .i64 0] w fun e w' => e = .returned (.bool (acc 0)) ∧ w' = w := by
  go_enter Try.func6, Try.ntmps6
  go_wp2
  go_ret
  exact ⟨rfl, rfl⟩
theorem acc1 (w : World) : Calls Try.prog 6 #[.int .i64 1] w fun e w' => e = .returned (.bool (acc 1)) ∧ w' = w := by
  go_enter Try.func6, Try.ntmps6
  go_wp2
  go_ret
  exact ⟨rfl, rfl⟩
theorem acc2 (w : World) : Calls Try.prog 6 #[.int .i64 2] w fun e w' => e = .returned (.bool (acc 2)) ∧ w' = w := by
  go_enter Try.func6, Try.ntmps6
  go_wp2
  go_ret
  exact ⟨rfl, rfl⟩
theorem acc3 (w : World) : Calls Try.prog 6 #[.int .i64 3] w fun e w' => e = .returned (.bool (acc 3)) ∧ w' = w := by
  go_enter Try.func6, Try.ntmps6
  go_wp2
  go_ret
  exact ⟨rfl, rfl⟩
theorem acc4 (w : World) : Calls Try.prog 6 #[.int .i64 4] w fun e w' => e = .returned (.bool (acc 4)) ∧ w' = w := by
  go_enter Try.func6, Try.ntmps6
  go_wp2
  go_ret
  exact ⟨rfl, rfl⟩
theorem acc5 (w : World) : Calls Try.prog 6 #[.int .i64 5] w fun e w' => e = .returned (.bool (acc 5)) ∧ w' = w := by
  go_enter Try.func6, Try.ntmps6
  go_wp2
  go_ret
  exact ⟨rfl, rfl⟩
theorem acc6 (w : World) : Calls Try.prog 6 #[.int .i64 6] w fun e w' => e = .returned (.bool (acc 6)) ∧ w' = w := by
  go_enter Try.func6, Try.ntmps6
  go_wp2
  go_ret
  exact ⟨rfl, rfl⟩
theorem acc7 (w : World) : Calls Try.prog 6 #[.int .i64 7] w fun e w' => e = .returned (.bool (acc 7)) ∧ w' = w := by
  go_enter Try.func6, Try.ntmps6
  go_wp2
  go_ret
  exact ⟨rfl, rfl⟩
theorem acc8 (w : World) : Calls Try.prog 6 #[.int .i64 8] w fun e w' => e = .returned (.bool (acc 8)) ∧ w' = w := by
  go_enter Try.func6, Try.ntmps6
  go_wp2
  go_ret
  exact ⟨rfl, rfl⟩
theorem acc11 (w : World) : Calls Try.prog 6 #[.int .i64 11] w fun e w' => e = .returned (.bool (acc 11)) ∧ w' = w := by
  go_enter Try.func6, Try.ntmps6
  go_wp2
  go_ret
  exact ⟨rfl, rfl⟩
theorem acc12 (w : World) : Calls Try.prog 6 #[.int .i64 12] w fun e w' => e = .returned (.bool (acc 12)) ∧ w' = w := by
  go_enter Try.func6, Try.ntmps6
  go_wp2
  go_ret
  exact ⟨rfl, rfl⟩
theorem acc13 (w : World) : Calls Try.prog 6 #[.int .i64 13] w fun e w' => e = .returned (.bool (acc 13)) ∧ w' = w := by
  go_enter Try.func6, Try.ntmps6
  go_wp2
  go_ret
  exact ⟨rfl, rfl⟩
theorem acc14 (w : World) : Calls Try.prog 6 #[.int .i64 14] w fun e w' => e = .returned (.bool (acc 14)) ∧ w' = w := by
  go_enter Try.func6, Try.ntmps6
  go_wp2
  go_ret
  exact ⟨rfl, rfl⟩
theorem acc15 (w : World) : Calls Try.prog 6 #[.int .i64 15] w fun e w' => e = .returned (.bool (acc 15)) ∧ w' = w := by
  go_enter Try.func6, Try.ntmps6
  go_wp2
  go_ret
  exact ⟨rfl, rfl⟩
theorem acc16 (w : World) : Calls Try.prog 6 #[.int .i64 16] w fun e w' => e = .returned (.bool (acc 16)) ∧ w' = w := by
  go_enter Try.func6, Try.ntmps6
  go_wp2
  go_ret
  exact ⟨rfl, rfl⟩
theorem acc17 (w : World) : Calls Try.prog 6 #[.int .i64 17] w fun e w' => e = .returned (.bool (acc 17)) ∧ w' = w := by
  go_enter Try.func6, Try.ntmps6
  go_wp2
  go_ret
  exact ⟨rfl, rfl⟩
theorem acc18 (w : World) : Calls Try.prog 6 #[.int .i64 18] w fun e w' => e = .returned (.bool (acc 18)) ∧ w' = w := by
  go_enter Try.func6, Try.ntmps6
  go_wp2
  go_ret
  exact ⟨rfl, rfl⟩

set_option maxHeartbeats 1000000 in
theorem step0 (c : UInt8) (w : World) :
    Calls Try.prog 5 #[.int .i64 0, .int .u8 (c.toNat : Int)] w fun e w' => e = .returned (.int .i64 (code (step 0 c))) ∧ w' = w := by
  go_enter Try.func5, Try.ntmps5
  go_wp2
  all_goals
    go_ret
    refine ⟨ret_int ?_, rfl⟩
    go_light
    try simp only [beq_iff_eq, beq_eq_false_iff_ne, ne_eq, infGet0, infGet1, infGet2, infGet3, infGet4, infGet5, infGet6, infGet7] at *
    rw [step_code _ _ (by omega)]
    unfold stepI
    first | (exfalso; omega) | (repeat (first | rw [if_pos (by omega)] | rw [if_neg (by omega)]))

set_option maxHeartbeats 1000000 in
theorem step1 (c : UInt8) (w : World) :
    Calls Try.prog 5 #[.int .i64 1, .int .u8 (c.toNat : Int)] w fun e w' => e = .returned (.int .i64 (code (step 1 c))) ∧ w' = w := by
  go_enter Try.func5, Try.ntmps5
  go_wp2
  all_goals
    go_ret
    refine ⟨ret_int ?_, rfl⟩
    go_light
    try simp only [beq_iff_eq, beq_eq_false_iff_ne, ne_eq, infGet0, infGet1, infGet2, infGet3, infGet4, infGet5, infGet6, infGet7] at *
    rw [step_code _ _ (by omega)]
    unfold stepI
    first | (exfalso; omega) | (repeat (first | rw [if_pos (by omega)] | rw [if_neg (by omega)]))

set_option maxHeartbeats 1000000 in
theorem step2 (c : UInt8) (w : World) :
    Calls Try.prog 5 #[.int .i64 2, .int .u8 (c.toNat : Int)] w fun e w' => e = .returned (.int .i64 (code (step 2 c))) ∧ w' = w := by
  go_enter Try.func5, Try.ntmps5
  go_wp2
  all_goals
    go_ret
    refine ⟨ret_int ?_, rfl⟩
    go_light
    try simp only [beq_iff_eq, beq_eq_false_iff_ne, ne_eq, infGet0, infGet1, infGet2, infGet3, infGet4, infGet5, infGet6, infGet7] at *
    rw [step_code _ _ (by omega)]
    unfold stepI
    first | (exfalso; omega) | (repeat (first | rw [if_pos (by omega)] | rw [if_neg (by omega)]))

set_option maxHeartbeats 1000000 in
theorem step3 (c : UInt8) (w : World) :
    Calls Try.prog 5 #[.int .i64 3, .int .u8 (c.toNat : Int)] w fun e w' => e = .returned (.int .i64 (code (step 3 c))) ∧ w' = w := by
  go_enter Try.func5, Try.ntmps5
  go_wp2
  all_goals
    go_ret
    refine ⟨ret_int ?_, rfl⟩
    go_light
    try simp only [beq_iff_eq, beq_eq_false_iff_ne, ne_eq, infGet0, infGet1, infGet2, infGet3, infGet4, infGet5, infGet6, infGet7] at *
    rw [step_code _ _ (by omega)]
    unfold stepI
    first | (exfalso; omega) | (repeat (first | rw [if_pos (by omega)] | rw [if_neg (by omega)]))

set_option maxHeartbeats 1000000 in
theorem step4 (c : UInt8) (w : World) :
    Calls Try.prog 5 #[.int .i64 4, .int .u8 (c.toNat : Int)] w fun e w' => e = .returned (.int .i64 (code (step 4 c))) ∧ w' = w := by
  go_enter Try.func5, Try.ntmps5
  go_wp2
  all_goals
    go_ret
    refine ⟨ret_int ?_, rfl⟩
    go_light
    try simp only [beq_iff_eq, beq_eq_false_iff_ne, ne_eq, infGet0, infGet1, infGet2, infGet3, infGet4, infGet5, infGet6, infGet7] at *
    rw [step_code _ _ (by omega)]
    unfold stepI
    first | (exfalso; omega) | (repeat (first | rw [if_pos (by omega)] | rw [if_neg (by omega)]))

set_option maxHeartbeats 1000000 in
theorem step5 (c : UInt8) (w : World) :
    Calls Try.prog 5 #[.int .i64 5, .int .u8 (c.toNat : Int)] w fun e w' => e = .returned (.int .i64 (code (step 5 c))) ∧ w' = w := by
  go_enter Try.func5, Try.ntmps5
  go_wp2
  all_goals
    go_ret
    refine ⟨ret_int ?_, rfl⟩
    go_light
    try simp only [beq_iff_eq, beq_eq_false_iff_ne, ne_eq, infGet0, infGet1, infGet2, infGet3, infGet4, infGet5, infGet6, infGet7] at *
    rw [step_code _ _ (by omega)]
    unfold stepI
    first | (exfalso; omega) | (repeat (first | rw [if_pos (by omega)] | rw [if_neg (by omega)]))

set_option maxHeartbeats 1000000 in
theorem step6 (c : UInt8) (w : World) :
    Calls Try.prog 5 #[.int .i64 6, .int .u8 (c.toNat : Int)] w fun e w' => e = .returned (.int .i64 (code (step 6 c))) ∧ w' = w := by
  go_enter Try.func5, Try.ntmps5
  go_wp2
  all_goals
    go_ret
    refine ⟨ret_int ?_, rfl⟩
    go_light
    try simp only [beq_iff_eq, beq_eq_false_iff_ne, ne_eq, infGet0, infGet1, infGet2, infGet3, infGet4, infGet5, infGet6, infGet7] at *
    rw [step_code _ _ (by omega)]
    unfold stepI
    first | (exfalso; omega) | (repeat (first | rw [if_pos (by omega)] | rw [if_neg (by omega)]))

set_option maxHeartbeats 1000000 in
theorem step7 (c : UInt8) (w : World) :
    Calls Try.prog 5 #[.int .i64 7, .int .u8 (c.toNat : Int)] w fun e w' => e = .returned (.int .i64 (code (step 7 c))) ∧ w' = w := by
  go_enter Try.func5, Try.ntmps5
  go_wp2
  all_goals
    go_ret
    refine ⟨ret_int ?_, rfl⟩
    go_light
    try simp only [beq_iff_eq, beq_eq_false_iff_ne, ne_eq, infGet0, infGet1, infGet2, infGet3, infGet4, infGet5, infGet6, infGet7] at *
    rw [step_code _ _ (by omega)]
    unfold stepI
    first | (exfalso; omega) | (repeat (first | rw [if_pos (by omega)] | rw [if_neg (by omega)]))

set_option maxHeartbeats 1000000 in
theorem step8 (c : UInt8) (w : World) :
    Calls Try.prog 5 #[.int .i64 8, .int .u8 (c.toNat : Int)] w fun e w' => e = .returned (.int .i64 (code (step 8 c))) ∧ w' = w := by
  go_enter Try.func5, Try.ntmps5
  go_wp2
  all_goals
    go_ret
    refine ⟨ret_int ?_, rfl⟩
    go_light
    try simp only [beq_iff_eq, beq_eq_false_iff_ne, ne_eq, infGet0, infGet1, infGet2, infGet3, infGet4, infGet5, infGet6, infGet7] at *
    rw [step_code _ _ (by omega)]
    unfold stepI
    first | (exfalso; omega) | (repeat (first | rw [if_pos (by omega)] | rw [if_neg (by omega)]))

set_option maxHeartbeats 1000000 in
theorem step11 (c : UInt8) (w : World) :
    Calls Try.prog 5 #[.int .i64 11, .int .u8 (c.toNat : Int)] w fun e w' => e = .returned (.int .i64 (code (step 11 c))) ∧ w' = w := by
  go_enter Try.func5, Try.ntmps5
  go_wp2
  all_goals
    go_ret
    refine ⟨ret_int ?_, rfl⟩
    go_light
    try simp only [beq_iff_eq, beq_eq_false_iff_ne, ne_eq, infGet0, infGet1, infGet2, infGet3, infGet4, infGet5, infGet6, infGet7] at *
    rw [step_code _ _ (by omega)]
    unfold stepI
    first | (exfalso; omega) | (repeat (first | rw [if_pos (by omega)] | rw [if_neg (by omega)]))

set_option maxHeartbeats 1000000 in
theorem step12 (c : UInt8) (w : World) :
    Calls Try.prog 5 #[.int .i64 12, .int .u8 (c.toNat : Int)] w fun e w' => e = .returned (.int .i64 (code (step 12 c))) ∧ w' = w := by
  go_enter Try.func5, Try.ntmps5
  go_wp2
  all_goals
    go_ret
    refine ⟨ret_int ?_, rfl⟩
    go_light
    try simp only [beq_iff_eq, beq_eq_false_iff_ne, ne_eq, infGet0, infGet1, infGet2, infGet3, infGet4, infGet5, infGet6, infGet7] at *
    rw [step_code _ _ (by omega)]
    unfold stepI
    first | (exfalso; omega) | (repeat (first | rw [if_pos (by omega)] | rw [if_neg (by omega)]))

set_option maxHeartbeats 1000000 in
theorem step13 (c : UInt8) (w : World) :
    Calls Try.prog 5 #[.int .i64 13, .int .u8 (c.toNat : Int)] w fun e w' => e = .returned (.int .i64 (code (step 13 c))) ∧ w' = w := by
  go_enter Try.func5, Try.ntmps5
  go_wp2
  all_goals
    go_ret
    refine ⟨ret_int ?_, rfl⟩
    go_light
    try simp only [beq_iff_eq, beq_eq_false_iff_ne, ne_eq, infGet0, infGet1, infGet2, infGet3, infGet4, infGet5, infGet6, infGet7] at *
    rw [step_code _ _ (by omega)]
    unfold stepI
    first | (exfalso; omega) | (repeat (first | rw [if_pos (by omega)] | rw [if_neg (by omega)]))

set_option maxHeartbeats 1000000 in
theorem step14 (c : UInt8) (w : World) :
    Calls Try.prog 5 #[.int .i64 14, .int .u8 (c.toNat : Int)] w fun e w' => e = .returned (.int .i64 (code (step 14 c))) ∧ w' = w := by
  go_enter Try.func5, Try.ntmps5
  go_wp2
  all_goals
    go_ret
    refine ⟨ret_int ?_, rfl⟩
    go_light
    try simp only [beq_iff_eq, beq_eq_false_iff_ne, ne_eq, infGet0, infGet1, infGet2, infGet3, infGet4, infGet5, infGet6, infGet7] at *
    rw [step_code _ _ (by omega)]
    unfold stepI
    first | (exfalso; omega) | (repeat (first | rw [if_pos (by omega)] | rw [if_neg (by omega)]))

set_option maxHeartbeats 1000000 in
theorem step15 (c : UInt8) (w : World) :
    Calls Try.prog 5 #[.int .i64 15, .int .u8 (c.toNat : Int)] w fun e w' => e = .returned (.int .i64 (code (step 15 c))) ∧ w' = w := by
  go_enter Try.func5, Try.ntmps5
  go_wp2
  all_goals
    go_ret
    refine ⟨ret_int ?_, rfl⟩
    go_light
    try simp only [beq_iff_eq, beq_eq_false_iff_ne, ne_eq, infGet0, infGet1, infGet2, infGet3, infGet4, infGet5, infGet6, infGet7] at *
    rw [step_code _ _ (by omega)]
    unfold stepI
    first | (exfalso; omega) | (repeat (first | rw [if_pos (by omega)] | rw [if_neg (by omega)]))

set_option maxHeartbeats 1000000 in
theorem step16 (c : UInt8) (w : World) :
    Calls Try.prog 5 #[.int .i64 16, .int .u8 (c.toNat : Int)] w fun e w' => e = .returned (.int .i64 (code (step 16 c))) ∧ w' = w := by
  go_enter Try.func5, Try.ntmps5
  go_wp2
  all_goals
    go_ret
    refine ⟨ret_int ?_, rfl⟩
    go_light
    try simp only [beq_iff_eq, beq_eq_false_iff_ne, ne_eq, infGet0, infGet1, infGet2, infGet3, infGet4, infGet5, infGet6, infGet7] at *
    rw [step_code _ _ (by omega)]
    unfold stepI
    first | (exfalso; omega) | (repeat (first | rw [if_pos (by omega)] | rw [if_neg (by omega)]))

set_option maxHeartbeats 1000000 in
theorem step17 (c : UInt8) (w : World) :
    Calls Try.prog 5 #[.int .i64 17, .int .u8 (c.toNat : Int)] w fun e w' => e = .returned (.int .i64 (code (step 17 c))) ∧ w' = w := by
  go_enter Try.func5, Try.ntmps5
  go_wp2
  all_goals
    go_ret
    refine ⟨ret_int ?_, rfl⟩
    go_light
    try simp only [beq_iff_eq, beq_eq_false_iff_ne, ne_eq, infGet0, infGet1, infGet2, infGet3, infGet4, infGet5, infGet6, infGet7] at *
    rw [step_code _ _ (by omega)]
    unfold stepI
    first | (exfalso; omega) | (repeat (first | rw [if_pos (by omega)] | rw [if_neg (by omega)]))

set_option maxHeartbeats 1000000 in
theorem step18 (c : UInt8) (w : World) :
    Calls Try.prog 5 #[.int .i64 18, .int .u8 (c.toNat : Int)] w fun e w' => e = .returned (.int .i64 (code (step 18 c))) ∧ w' = w := by
  go_enter Try.func5, Try.ntmps5
  go_wp2
  all_goals
    go_ret
    refine ⟨ret_int ?_, rfl⟩
    go_light
    try simp only [beq_iff_eq, beq_eq_false_iff_ne, ne_eq, infGet0, infGet1, infGet2, infGet3, infGet4, infGet5, infGet6, infGet7] at *
    rw [step_code _ _ (by omega)]
    unfold stepI
    first | (exfalso; omega) | (repeat (first | rw [if_pos (by omega)] | rw [if_neg (by omega)]))

end Go.Proofs.Qxb6617082a
