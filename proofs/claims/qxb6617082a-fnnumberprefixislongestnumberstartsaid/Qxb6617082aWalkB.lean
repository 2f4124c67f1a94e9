/-
  The walks of the functions on the road, two: the digits, the sign, the prefix.
-/
import Derived.Test.Qxb6617082aProg
import Derived.Test.Qxb6617082aPlain
import Derived.WalkKit
import Derived.WalkSpells
import Derived.WalkLawsBesides
import Derived.Outline
import Derived.Deep.Light
namespace Go.Proofs.Qxb6617082a
open Go.RowKit

theorem ret_intB {k : IntKind} {a b : Int} (h : a = b) : Ending.returned (.int k a) = .returned (.int k b) := by rw [h]
theorem ret_boolB {a b : Bool} (h : a = b) : Ending.returned (.bool a) = .returned (.bool b) := by rw [h]
theorem drop_at (s : ByteArray) (k : Nat) (h : k < s.size) : s.data.toList.drop k = s[k] :: s.data.toList.drop (k + 1) := by
  rw [List.drop_eq_getElem_cons (by simpa using h)]; rfl
theorem digs_at (s : ByteArray) (k : Nat) (h : k < s.size) : digs (s.data.toList.drop k) = if isDig s[k] = true then 1 + digs (s.data.toList.drop (k + 1)) else 0 := by
  rw [drop_at s k h, digs_cons]
set_option maxHeartbeats 1000000 in
theorem skip_any (s : ByteArray) (i : Nat) (w : World) (hi : i ≤ s.size) (hs : s.size ≤ 1048576) :
    Calls Try.prog 11 #[.string s, .int .i64 (i : Int)] w fun e w' => e = .returned (.int .i64 ((i + digs (s.data.toList.drop i) : Nat) : Int)) ∧ w' = w := by
  go_enter Try.func11, Try.ntmps11
  go_wp2
  go_loop [1] (fun v => ∃ k : Nat, k ≤ s.size ∧ v = .int .i64 (k : Int) ∧ i + digs (s.data.toList.drop i) = k + digs (s.data.toList.drop k)) (fun v => s.size - (intOf v).toNat)
  case atStart => exact ⟨i, hi, rfl, rfl⟩
  case round =>
    obtain ⟨k, hk, rfl, hd⟩ := hrel
    have HD : Hid (i + digs (s.data.toList.drop i) = k + digs (s.data.toList.drop k)) := hd
    clear hd
    by_cases hlt : k < s.size
    · go_wp2
      · have hdig : isDig s[k] = true := by simp only [isDig, decide_eq_true_eq]; exact ⟨‹_›, ‹_›⟩
        have hdr := digs_at s k hlt
        rw [hdig] at hdr
        simp only [if_true] at hdr
        go_round
        case rel => exact ⟨k + 1, by omega, by go_num, by rw [HD.out, hdr]; omega⟩
        case measure => simp [intOf]; omega
      · have hdig : isDig s[k] = false := by simp only [isDig, decide_eq_false_iff_not]; omega
        have hdr := digs_at s k hlt
        rw [hdig] at hdr
        go_ret
        exact ⟨ret_intB (by have := HD.out; simp at hdr; omega), rfl⟩
      · have hdig : isDig s[k] = false := by simp only [isDig, decide_eq_false_iff_not]; omega
        have hdr := digs_at s k hlt
        rw [hdig] at hdr
        go_ret
        exact ⟨ret_intB (by have := HD.out; simp at hdr; omega), rfl⟩
    · have hdr : digs (s.data.toList.drop k) = 0 := by
        rw [List.drop_eq_nil_of_le (by simp only [Array.length_toList]; exact Nat.le_of_not_lt hlt)]; rfl
      go_wp2
      go_ret
      exact ⟨ret_intB (by have := HD.out; omega), rfl⟩

theorem toList_data (s : ByteArray) : s.toList = s.data.toList := ByteArray.toList_eq s
theorem len_data (s : ByteArray) : s.data.toList.length = s.size := by rw [Array.length_toList]; rfl
theorem sgn_at (s : ByteArray) (h : 0 < s.size) : sgn s.data.toList = if isSgn s[0] = true then 1 else 0 := by
  have := drop_at s 0 h
  rw [List.drop_zero] at this
  rw [this]; rfl
set_option maxHeartbeats 400000 in
theorem sign_any (s : ByteArray) (w : World) (hs : s.size ≤ 1048576) :
    Calls Try.prog 9 #[.string s] w fun e w' => ∃ t, e = .returned (.string t) ∧ t.size = s.size - sgn s.data.toList ∧ w' = w := by
  by_cases h0 : 0 < s.size
  · have hne : ¬ s.toList = [] := by
      rw [toList_data]; intro h; have := congrArg List.length h; rw [len_data, List.length_nil] at this; omega
    have hne2 : s.toList.isEmpty = false := by cases h : s.toList <;> simp_all
    by_cases hp : isSgn s[0] = true
    · have hg : sgn s.data.toList = 1 := by rw [sgn_at s h0, hp]; rfl
      have HG : Hid (sgn s.data.toList = 1) := hg
      clear hg
      simp only [isSgn, decide_eq_true_eq] at hp
      go_enter Try.func9, Try.ntmps9
      go_wp2
      all_goals go_ret
      all_goals go_light
      all_goals first | (exfalso; (try simp only [beq_iff_eq, beq_eq_false_iff_ne, ne_eq] at *); omega) | exact ⟨s.extract 1 s.size, rfl, by rw [HG.out, ByteArray.size_extract]; omega, rfl⟩
    · have hg : sgn s.data.toList = 0 := by rw [sgn_at s h0, if_neg hp]
      have HG : Hid (sgn s.data.toList = 0) := hg
      clear hg
      simp only [isSgn, decide_eq_true_eq] at hp
      go_enter Try.func9, Try.ntmps9
      go_wp2
      all_goals go_ret
      all_goals go_light
      all_goals first | (exfalso; (try simp only [beq_iff_eq, beq_eq_false_iff_ne, ne_eq] at *); omega) | exact ⟨s, rfl, by rw [HG.out]; rfl, rfl⟩
  · have he : s.toList = [] := by
      rw [toList_data]; apply List.eq_nil_of_length_eq_zero; rw [len_data]; omega
    have hg : sgn s.data.toList = 0 := by rw [← toList_data, he]; rfl
    have HG : Hid (sgn s.data.toList = 0) := hg
    clear hg
    go_enter Try.func9, Try.ntmps9
    go_wp2
    go_ret
    exact ⟨s, rfl, by rw [HG.out]; rfl, rfl⟩
theorem pre_eq (s : ByteArray) : ((s.extract 0 8).toList == [73, 110, 102, 105, 110, 105, 116, 121]) = infL.isPrefixOf s.data.toList := by
  rw [toList_data, ByteArray.data_extract, Bool.eq_iff_iff, beq_iff_eq, List.isPrefixOf_iff_prefix, List.prefix_iff_eq_take, Array.toList_extract]
  simp [infL, List.extract]
  exact eq_comm
theorem pre_short (s : ByteArray) (h : s.size < 8) : false = infL.isPrefixOf s.data.toList := by
  cases hp : infL.isPrefixOf s.data.toList with
  | false => rfl
  | true =>
    have := (List.isPrefixOf_iff_prefix.1 hp).length_le
    rw [len_data] at this
    simp [infL] at this
    omega
set_option maxHeartbeats 400000 in
theorem pre_any (s : ByteArray) (w : World) (hs : s.size ≤ 1048576) :
    Calls Try.prog 10 #[.string s, .string ⟨#[73, 110, 102, 105, 110, 105, 116, 121]⟩] w fun e w' => e = .returned (.bool (infL.isPrefixOf s.data.toList)) ∧ w' = w := by
  go_enter Try.func10, Try.ntmps10
  go_wp2
  · go_ret
    exact ⟨ret_boolB (pre_eq s), rfl⟩
  · go_ret
    exact ⟨ret_boolB (pre_short s (by omega)), rfl⟩

end Go.Proofs.Qxb6617082a
