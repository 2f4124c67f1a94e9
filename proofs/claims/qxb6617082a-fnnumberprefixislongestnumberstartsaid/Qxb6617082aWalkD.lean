/-
  The walk of the law.
-/
import Derived.Test.Qxb6617082aWalkA
import Derived.Test.Qxb6617082aWalkC
namespace Go.Proofs.Qxb6617082a
open Go.RowKit

/-- The states that are reached. -/
def okSt (st : Nat) : Prop := st ≤ 8 ∨ (11 ≤ st ∧ st ≤ 18)
theorem okSt_cases {st : Nat} (h : okSt st) : st = 0 ∨ st = 1 ∨ st = 2 ∨ st = 3 ∨ st = 4 ∨ st = 5 ∨ st = 6 ∨ st = 7 ∨ st = 8 ∨ st = 11 ∨ st = 12 ∨ st = 13 ∨ st = 14 ∨ st = 15 ∨ st = 16 ∨ st = 17 ∨ st = 18 := by
  unfold okSt at h; omega
theorem okSt_step {st st' : Nat} {c : UInt8} (h : okSt st) (hs : step st c = some st') : okSt st' := by
  have hc := step_code st c h
  rw [hs] at hc
  have hc' : (st' : Int) = stepI st (c.toNat : Int) := hc
  unfold okSt
  unfold okSt at h
  unfold stepI at hc'
  repeat' split at hc'
  all_goals omega
theorem step_any (st : Nat) (c : UInt8) (w : World) (h : okSt st) :
    Calls Try.prog 5 #[.int .i64 (st : Int), .int .u8 (c.toNat : Int)] w fun e w' => e = .returned (.int .i64 (code (step st c))) ∧ w' = w := by
  rcases okSt_cases h with rfl | rfl | rfl | rfl | rfl | rfl | rfl | rfl | rfl | rfl | rfl | rfl | rfl | rfl | rfl | rfl | rfl
  · exact step0 c w
  · exact step1 c w
  · exact step2 c w
  · exact step3 c w
  · exact step4 c w
  · exact step5 c w
  · exact step6 c w
  · exact step7 c w
  · exact step8 c w
  · exact step11 c w
  · exact step12 c w
  · exact step13 c w
  · exact step14 c w
  · exact step15 c w
  · exact step16 c w
  · exact step17 c w
  · exact step18 c w
theorem acc_any (st : Nat) (w : World) (h : okSt st) :
    Calls Try.prog 6 #[.int .i64 (st : Int)] w fun e w' => e = .returned (.bool (acc st)) ∧ w' = w := by
  rcases okSt_cases h with rfl | rfl | rfl | rfl | rfl | rfl | rfl | rfl | rfl | rfl | rfl | rfl | rfl | rfl | rfl | rfl | rfl
  · exact acc0 w
  · exact acc1 w
  · exact acc2 w
  · exact acc3 w
  · exact acc4 w
  · exact acc5 w
  · exact acc6 w
  · exact acc7 w
  · exact acc8 w
  · exact acc11 w
  · exact acc12 w
  · exact acc13 w
  · exact acc14 w
  · exact acc15 w
  · exact acc16 w
  · exact acc17 w
  · exact acc18 w
theorem step_none (st : Nat) (c : UInt8) (w : World) (h : okSt st) (hs : step st c = none) :
    Calls Try.prog 5 #[.int .i64 (st : Int), .int .u8 (c.toNat : Int)] w fun e w' => e = .returned (.int .i64 (-1)) ∧ w' = w := by
  have := step_any st c w h
  rw [hs] at this; exact this
theorem step_some (st st' : Nat) (c : UInt8) (w : World) (h : okSt st) (hs : step st c = some st') :
    Calls Try.prog 5 #[.int .i64 (st : Int), .int .u8 (c.toNat : Int)] w fun e w' => e = .returned (.int .i64 (st' : Int)) ∧ w' = w := by
  have := step_any st c w h
  rw [hs] at this; exact this
theorem acc_is (st : Nat) (b : Bool) (w : World) (h : okSt st) (hb : acc st = b) :
    Calls Try.prog 6 #[.int .i64 (st : Int)] w fun e w' => e = .returned (.bool b) ∧ w' = w := by
  have := acc_any st w h
  rw [hb] at this; exact this
theorem zz_any (s : ByteArray) (n : Nat) (w : World) (hs : s.size ≤ 1048576) (hn : n = np s.data.toList) :
    Calls Try.prog 7 #[.string s] w fun e w' => e = .returned (.int .i64 (n : Int)) ∧ w' = w := by
  go_enter Try.func7, Try.ntmps7
  go_wp2_with fail
  refine (num_any s _ hs).mono ?_
  rintro e w' ⟨rfl, rfl⟩
  have HN : Hid (n = np s.data.toList) := hn
  clear hn
  go_wp2_with fail
  go_ret
  exact ⟨ret_int (by rw [HN.out]), rfl⟩
theorem take_data (s : ByteArray) (n : Nat) : (s.extract 0 n).data.toList = s.data.toList.take n := by
  rw [ByteArray.data_extract, Array.toList_extract]
  simp [List.extract]

theorem law_no (s : ByteArray) (w : World) (hs : s.size ≤ maxLen) (h : 1048576 < s.size) :
    Calls Try.prog 3 #[.string s] w fun e w' => e = .returned (.bool true) ∧ w' = w := by
  go_enter Try.func3, Try.ntmps3
  go_wp2_with fail
  refine (bytes_no s _ hs h).mono ?_
  rintro e w' ⟨rfl, rfl⟩
  go_wp2_with fail
  go_ret
  exact ⟨rfl, rfl⟩

set_option maxRecDepth 100000 in
set_option maxHeartbeats 2000000 in
theorem law_yes (s : ByteArray) (w : World) (hs : s.size ≤ 1048576) :
    Calls Try.prog 3 #[.string s] w fun e w' => e = .returned (.bool true) ∧ w' = w := by
  obtain ⟨n, hn⟩ : ∃ n, n = np s.data.toList := ⟨_, rfl⟩
  have hns : n ≤ s.size := by rw [hn, ← len_data]; exact np_le _
  have hb0 : best 0 (s.data.toList.drop 0) 0 0 = n := by rw [hn, List.drop_zero, best_np]
  have hn2 : n = np (s.extract 0 n).data.toList := by rw [take_data, hn, np_take]
  have HN : Hid (n = np s.data.toList) := hn
  have HN2 : Hid (n = np (s.extract 0 n).data.toList) := hn2
  have HB0 : Hid (best 0 (s.data.toList.drop 0) 0 0 = n) := hb0
  clear hn hn2 hb0
  have hsI : (s.size : Int) ≤ 1048576 := by omega
  go_enter Try.func3, Try.ntmps3
  go_wp2_with fail
  refine (bytes_yes s _ hs).mono ?_
  rintro e w' ⟨rfl, rfl⟩
  go_wp2_with fail
  go_loop [3, 4, 5] (fun b t i => ∃ k st bb : Nat, k ≤ s.size ∧ i = .int .i64 (k : Int) ∧ t = .int .i64 (st : Int) ∧ b = .int .i64 (bb : Int) ∧ okSt st ∧ bb ≤ k ∧ best st (s.data.toList.drop k) k bb = n) (fun _ _ i => s.size - (intOf i).toNat)
  case atStart => exact ⟨0, 0, 0, Nat.zero_le _, rfl, rfl, rfl, Or.inl (by decide), Nat.le_refl _, HB0.out⟩
  case round =>
    obtain ⟨k, st, bb, hk, rfl, rfl, rfl, hok, hbk, hbest⟩ := hrel
    have HOK : Hid (okSt st) := hok
    have HBE : Hid (best st (s.data.toList.drop k) k bb = n) := hbest
    clear hok hbest
    by_cases hlt : k < s.size
    · have hbe := HBE.out
      rw [drop_at s k hlt, best] at hbe
      cases hst : step st s[k] with
      | none =>
        rw [hst] at hbe
        have HST : Hid (step st s[k] = none) := hst
        clear hst
        have HE : Hid (bb = n) := hbe
        clear hbe
        have hbn : ((n : Int) != (bb : Int)) = false := by rw [HE.out]; simp
        go_wp2_with fail
        refine (step_none _ _ _ HOK.out HST.out).mono ?_
        rintro e w'' ⟨rfl, rfl⟩
        go_wp2_with fail
        refine (zz_any s n _ hs HN.out).mono ?_
        rintro e w3 ⟨rfl, rfl⟩
        go_wp2_with fail
        refine (zz_any (s.extract 0 n) n _ (by rw [ByteArray.size_extract]; omega) HN2.out).mono ?_
        rintro e w4 ⟨rfl, rfl⟩
        go_wp2_with fail
        go_ret
        exact ⟨ret_bool (by simp), rfl⟩
      | some st' =>
        rw [hst] at hbe
        simp only at hbe
        have HOK2 : Hid (okSt st') := okSt_step HOK.out hst
        have HST : Hid (step st s[k] = some st') := hst
        clear hst
        cases hac : acc st' with
        | true =>
          rw [hac, if_pos rfl] at hbe
          have HE : Hid (best st' (s.data.toList.drop (k + 1)) (k + 1) (k + 1) = n) := hbe
          have HAC : Hid (acc st' = true) := hac
          clear hbe hac
          go_wp2_with fail
          refine (step_some _ _ _ _ HOK.out HST.out).mono ?_
          rintro e w'' ⟨rfl, rfl⟩
          go_wp2_with fail
          refine (acc_is _ _ _ HOK2.out HAC.out).mono ?_
          rintro e w'' ⟨rfl, rfl⟩
          go_wp2_with fail
          go_round
          case rel => exact ⟨k + 1, st', k + 1, by omega, by go_num, rfl, by go_num, HOK2.out, Nat.le_refl _, HE.out⟩
          case measure => simp [intOf]; omega
        | false =>
          rw [hac] at hbe
          have HE : Hid (best st' (s.data.toList.drop (k + 1)) (k + 1) bb = n) := hbe
          have HAC : Hid (acc st' = false) := hac
          clear hbe hac
          go_wp2_with fail
          refine (step_some _ _ _ _ HOK.out HST.out).mono ?_
          rintro e w'' ⟨rfl, rfl⟩
          go_wp2_with fail
          refine (acc_is _ _ _ HOK2.out HAC.out).mono ?_
          rintro e w'' ⟨rfl, rfl⟩
          go_wp2_with fail
          go_round
          case rel => exact ⟨k + 1, st', bb, by omega, by go_num, rfl, rfl, HOK2.out, by omega, HE.out⟩
          case measure => simp [intOf]; omega
    · have hbe := HBE.out
      rw [List.drop_eq_nil_of_le (by rw [len_data]; omega)] at hbe
      have HE : Hid (bb = n) := hbe
      clear hbe
      have hbn : ((n : Int) != (bb : Int)) = false := by rw [HE.out]; simp
      go_wp2_with fail
      refine (zz_any s n _ hs HN.out).mono ?_
      rintro e w3 ⟨rfl, rfl⟩
      go_wp2_with fail
      refine (zz_any (s.extract 0 n) n _ (by rw [ByteArray.size_extract]; omega) HN2.out).mono ?_
      rintro e w4 ⟨rfl, rfl⟩
      go_wp2_with fail
      go_ret
      exact ⟨ret_bool (by simp), rfl⟩
end Go.Proofs.Qxb6617082a
