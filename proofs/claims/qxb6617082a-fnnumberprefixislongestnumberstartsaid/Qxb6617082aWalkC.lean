/-
  The walk of numberPrefix.
-/
import Derived.Test.Qxb6617082aWalkB
import Derived.Deep.DeepCutAuto
namespace Go.Proofs.Qxb6617082a
open Go.RowKit

theorem ext_data (s : ByteArray) (g : Nat) : (s.extract g s.size).data.toList = s.data.toList.drop g := by
  rw [ByteArray.data_extract, Array.toList_extract]
  simp only [List.extract]
  rw [List.take_of_length_le]
  rw [List.length_drop, len_data]
  omega
theorem pre_yes (s : ByteArray) (w : World) (hs : s.size ≤ 1048576) (g : Nat) (h : infL.isPrefixOf (s.data.toList.drop g) = true) :
    Calls Try.prog 10 #[.string (s.extract g s.size), .string ⟨#[73, 110, 102, 105, 110, 105, 116, 121]⟩] w fun e w' => e = .returned (.bool true) ∧ w' = w := by
  have := pre_any (s.extract g s.size) w (by rw [ByteArray.size_extract]; omega)
  rw [ext_data, h] at this; exact this
theorem pre_no (s : ByteArray) (w : World) (hs : s.size ≤ 1048576) (g : Nat) (h : infL.isPrefixOf (s.data.toList.drop g) = false) :
    Calls Try.prog 10 #[.string (s.extract g s.size), .string ⟨#[73, 110, 102, 105, 110, 105, 116, 121]⟩] w fun e w' => e = .returned (.bool false) ∧ w' = w := by
  have := pre_any (s.extract g s.size) w (by rw [ByteArray.size_extract]; omega)
  rw [ext_data, h] at this; exact this
/-- The digits from i on, under a name. -/
theorem skip_at (s : ByteArray) (i d : Nat) (w : World) (hi : i ≤ s.size) (hs : s.size ≤ 1048576) (hd : Hid (d = digs (s.data.toList.drop i))) :
    Calls Try.prog 11 #[.string s, .int .i64 (i : Int)] w fun e w' => e = .returned (.int .i64 ((i : Int) + (d : Int))) ∧ w' = w := by
  refine (skip_any s i w hi hs).mono ?_
  rintro e w' ⟨rfl, rfl⟩
  exact ⟨ret_intB (by rw [hd.out]; omega), rfl⟩
theorem digs_room (s : ByteArray) (i : Nat) (hi : i ≤ s.size) : i + digs (s.data.toList.drop i) ≤ s.size := by
  have := digs_le (s.data.toList.drop i)
  rw [List.length_drop, len_data] at this; omega
theorem frac_at (s : ByteArray) (k : Nat) (h : k < s.size) : frac (s.data.toList.drop k) = if s[k] = 46 then 1 + digs (s.data.toList.drop (k + 1)) else 0 := by
  rw [drop_at s k h]; rfl
theorem frac_out (s : ByteArray) (k : Nat) (h : ¬ k < s.size) : frac (s.data.toList.drop k) = 0 := by
  rw [List.drop_eq_nil_of_le (by rw [len_data]; omega)]; rfl
theorem expo_at (s : ByteArray) (k : Nat) (h : k < s.size) : expo (s.data.toList.drop k) = if isExp s[k] = true then (if digs ((s.data.toList.drop (k + 1)).drop (sgn (s.data.toList.drop (k + 1)))) = 0 then 0 else 1 + sgn (s.data.toList.drop (k + 1)) + digs ((s.data.toList.drop (k + 1)).drop (sgn (s.data.toList.drop (k + 1))))) else 0 := by
  rw [drop_at s k h]; rfl
theorem expo_out (s : ByteArray) (k : Nat) (h : ¬ k < s.size) : expo (s.data.toList.drop k) = 0 := by
  rw [List.drop_eq_nil_of_le (by rw [len_data]; omega)]; rfl
theorem u8_46 (c : UInt8) : c = 46 ↔ (c.toNat : Int) = 46 := by
  rw [← UInt8.toNat_inj]
  show c.toNat = 46 ↔ _
  omega

set_option maxRecDepth 100000 in
set_option maxHeartbeats 2000000 in
theorem num_any (s : ByteArray) (w : World) (hs : s.size ≤ 1048576) :
    Calls Try.prog 8 #[.string s] w fun e w' => e = .returned (.int .i64 ((np s.data.toList : Nat) : Int)) ∧ w' = w := by
  obtain ⟨n, hn⟩ : ∃ n, n = np s.data.toList := ⟨_, rfl⟩
  rw [← hn]
  have HN : Hid (n = np s.data.toList) := hn
  clear hn
  obtain ⟨g, hg⟩ : ∃ g, g = sgn s.data.toList := ⟨_, rfl⟩
  have hg1 : g ≤ 1 := by rw [hg]; exact (sgn_le _).1
  have hgs : g ≤ s.size := by rw [hg, ← len_data]; exact (sgn_le _).2
  have HG : Hid (g = sgn s.data.toList) := hg
  clear hg
  obtain ⟨d, hd⟩ : ∃ d, d = digs (s.data.toList.drop g) := ⟨_, rfl⟩
  have hds : g + d ≤ s.size := by rw [hd]; exact digs_room s g hgs
  have HD : Hid (d = digs (s.data.toList.drop g)) := hd
  clear hd
  obtain ⟨f, hf⟩ : ∃ f, f = frac (s.data.toList.drop (g + d)) := ⟨_, rfl⟩
  have HF : Hid (f = frac (s.data.toList.drop (g + d))) := hf
  clear hf
  go_enter Try.func8, Try.ntmps8
  go_wp2_with fail
  refine (sign_any _ _ hs).mono ?_
  rintro e w' ⟨t, rfl, ht, rfl⟩
  have hsub : (s.size : Int) - (t.size : Int) = (g : Int) := by rw [ht, ← HG.out]; omega
  have hsubN : s.size - t.size = g := by rw [ht, ← HG.out]; omega
  have HS : Hid ((s.size : Int) - (t.size : Int) = (g : Int)) := hsub
  have HSN : Hid (s.size - t.size = g) := hsubN
  have htl : t.size ≤ s.size := by omega
  clear ht hsub hsubN
  go_wp2_with fail
  rw [HS.out, HSN.out]
  cases hp : infL.isPrefixOf (s.data.toList.drop g) with
  | true =>
    refine (pre_yes s _ hs g hp).mono ?_
    rintro e w' ⟨rfl, rfl⟩
    go_wp2_with fail
    go_ret
    exact ⟨ret_intB (by rw [HN.out, np_inf HG.out hp]; omega), rfl⟩
  | false =>
    refine (pre_no s _ hs g hp).mono ?_
    rintro e w' ⟨rfl, rfl⟩
    have HP : Hid (infL.isPrefixOf (s.data.toList.drop g) = false) := hp
    clear hp
    go_wp2_with fail
    refine (skip_at s g d _ hgs hs HD).mono ?_
    rintro e w' ⟨rfl, rfl⟩
    go_upto_region 6 with fail
    go_cut [36] (fun v wx => v = .bool (decide (0 < f)) ∧ w' = wx)
    case first =>
      by_cases hlt : g + d < s.size
      · have hfr := frac_at s (g + d) hlt
        rw [← HF.out] at hfr
        have HFR : Hid (f = if s[g + d] = 46 then 1 + digs (s.data.toList.drop (g + d + 1)) else 0) := hfr
        clear hfr
        go_wp2_with fail
        go_meet
        case rel =>
          refine ⟨congrArg Value.bool ?_, rfl⟩
          rw [Bool.eq_iff_iff, HFR.out]
          by_cases hc : s[g + d] = 46
          · have h46 := (u8_46 _).1 hc
            simp only [hc, if_true, beq_iff_eq, decide_eq_true_eq]
            exact ⟨fun _ => by omega, fun _ => rfl⟩
          · have h46 : ¬ (s[g + d].toNat : Int) = 46 := fun h => hc ((u8_46 _).2 h)
            simp only [hc, if_false, beq_iff_eq, decide_eq_true_eq]
            exact ⟨fun h => absurd h h46, fun h => absurd h (by omega)⟩
      · have hfr := frac_out s (g + d) hlt
        rw [← HF.out] at hfr
        go_wp2_with fail
        go_meet
        case rel => exact ⟨by rw [hfr]; rfl, rfl⟩
    case rest =>
      obtain ⟨rfl, rfl⟩ := hcut
      have hfs : g + d + f ≤ s.size := by
        by_cases hlt : g + d < s.size
        · have hfr := frac_at s (g + d) hlt
          rw [← HF.out] at hfr
          have := digs_room s (g + d + 1) (by omega)
          split at hfr <;> omega
        · have hfr := frac_out s (g + d) hlt
          rw [← HF.out] at hfr
          omega
      go_upto_if 36 with fail
      obtain ⟨x, hx⟩ : ∃ x, x = g + d + f := ⟨_, rfl⟩
      obtain ⟨q, hqq⟩ : ∃ q, q = d + (f - 1) := ⟨_, rfl⟩
      rw [← hx] at hfs
      have HXX : Hid (x = g + d + f) := hx
      have HQQ : Hid (q = d + (f - 1)) := hqq
      clear hx hqq
      go_cut [4, 5] (fun v4 v5 wx => v4 = .int .i64 (x : Int) ∧ v5 = .int .i64 (q : Int) ∧ w' = wx)
      case first =>
        cases f with
        | succ m =>
          have hx := HXX.out
          have hlt : g + d < s.size := by omega
          have hfr := frac_at s (g + d) hlt
          rw [← HF.out] at hfr
          have hf1 : m = digs (s.data.toList.drop (g + d + 1)) := by split at hfr <;> omega
          have H1 : Hid (m = digs (s.data.toList.drop (g + d + 1))) := hf1
          clear hfr hf1 hx
          have hms : g + d + 1 + m ≤ s.size := by rw [H1.out]; exact digs_room s (g + d + 1) (by omega)
          go_wp2_with fail
          rw [show (g : Int) + (d : Int) + 1 = ((g + d + 1 : Nat) : Int) by omega]
          refine (skip_at s (g + d + 1) m _ (by omega) hs H1).mono ?_
          rintro e w'' ⟨rfl, rfl⟩
          go_wp2_with fail
          go_meet
          case rel =>
            have hx := HXX.out
            have hq := HQQ.out
            exact ⟨by congr 1; omega, by congr 1; omega, rfl⟩
        | zero =>
          go_wp2_with fail
          go_meet
          case rel =>
            have hx := HXX.out
            have hq := HQQ.out
            exact ⟨by congr 1; omega, by congr 1; omega, rfl⟩
      case rest =>
        obtain ⟨rfl, rfl, rfl⟩ := hcut
        have HZ : Hid (q = 0 → n = 0) := fun h => by rw [HN.out]; exact np_zero HG.out HP.out HD.out HF.out (by rw [← HQQ.out]; exact h)
        have HNP : Hid (¬ q = 0 → n = x + expo (s.data.toList.drop x)) := fun h => by rw [HN.out, HXX.out]; exact np_pos HG.out HP.out HD.out HF.out (by rw [← HQQ.out]; exact h) rfl
        clear HN HG HD HF HP HS HSN HXX HQQ
        clear hds hg1 hgs htl
        by_cases hq : q = 0
        · have hz := HZ.out hq
          subst hq
          clear HZ HNP
          go_wp2_with fail
          go_ret
          exact ⟨ret_intB (by omega), rfl⟩
        have hn := HNP.out hq
        have HX : Hid (n = x + expo (s.data.toList.drop x)) := hn
        have hq1 : ((q : Int) == 0) = false := by simp; omega
        clear HZ HNP hn
        obtain ⟨b, hb⟩ : ∃ b : Bool, b = decide (∃ h : x < s.size, isExp s[x] = true) := ⟨_, rfl⟩
        have HB : Hid (b = decide (∃ h : x < s.size, isExp s[x] = true)) := hb
        clear hb
        go_upto_region 12 with fail
        go_cut [65] (fun v wx => v = .bool b ∧ w' = wx)
        case first =>
          by_cases hlt : x < s.size
          · have hbb : b = isExp s[x] := by rw [HB.out]; simp [hlt]
            have HBB : Hid (b = isExp s[x]) := hbb
            clear hbb
            have he1 : isExp s[x] = decide ((s[x].toNat : Int) = 101 ∨ (s[x].toNat : Int) = 69) := rfl
            have HE1 : Hid (isExp s[x] = decide ((s[x].toNat : Int) = 101 ∨ (s[x].toNat : Int) = 69)) := he1
            clear he1
            go_wp2_with fail
            all_goals
              go_meet
              case rel =>
                go_light
                refine ⟨congrArg Value.bool ?_, rfl⟩
                rw [HBB.out, HE1.out, Bool.eq_iff_iff]
                try simp only [beq_iff_eq, Bool.or_eq_true, decide_eq_true_eq, true_iff]
                try omega
          · have hbb : b = false := by rw [HB.out]; simp [hlt]
            go_wp2_with fail
            go_meet
            case rel => exact ⟨by rw [hbb], rfl⟩
        case rest =>
          obtain ⟨rfl, rfl⟩ := hcut
          cases b with
          | false =>
            have hn : n = x := by
              rw [HX.out]
              by_cases hlt : x < s.size
              · rw [expo_at s x hlt, if_neg (fun h => of_decide_eq_false HB.out.symm ⟨hlt, h⟩), Nat.add_zero]
              · rw [expo_out s x hlt, Nat.add_zero]
            go_wp2_with fail
            go_ret
            exact ⟨ret_intB (by omega), rfl⟩
          | true =>
            have hex : ∃ h : x < s.size, isExp s[x] = true := of_decide_eq_true HB.out.symm
            obtain ⟨hlt, hex⟩ := hex
            have he := expo_at s x hlt
            rw [if_pos hex] at he
            obtain ⟨g2, hg2⟩ : ∃ g2, g2 = sgn (s.data.toList.drop (x + 1)) := ⟨_, rfl⟩
            rw [← hg2, List.drop_drop] at he
            have hg2s : x + 1 + g2 ≤ s.size := by
              have := (sgn_le (s.data.toList.drop (x + 1))).2
              rw [List.length_drop, len_data, ← hg2] at this; omega
            obtain ⟨d3, hd3⟩ : ∃ d3, d3 = digs (s.data.toList.drop (x + 1 + g2)) := ⟨_, rfl⟩
            rw [← hd3] at he
            have HD3 : Hid (d3 = digs (s.data.toList.drop (x + 1 + g2))) := hd3
            have hd3s : x + 1 + g2 + d3 ≤ s.size := by rw [hd3]; exact digs_room s _ hg2s
            have HG2 : Hid (g2 = sgn (s.data.toList.drop (x + 1))) := hg2
            have HE : Hid (expo (s.data.toList.drop x) = if d3 = 0 then 0 else 1 + g2 + d3) := he
            clear he hd3 hg2 hex HB
            go_wp2_with fail
            refine (sign_any _ _ (by rw [ByteArray.size_extract]; omega)).mono ?_
            rintro e w'' ⟨t2, rfl, ht2, rfl⟩
            rw [ext_data, ← HG2.out, ByteArray.size_extract] at ht2
            have hsub : (s.size : Int) - (t2.size : Int) = ((x + 1 + g2 : Nat) : Int) := by rw [ht2]; omega
            have HS : Hid ((s.size : Int) - (t2.size : Int) = ((x + 1 + g2 : Nat) : Int)) := hsub
            have htl : t2.size ≤ s.size := by omega
            clear ht2 hsub
            go_wp2_with fail
            rw [HS.out]
            refine (skip_at s (x + 1 + g2) d3 _ (by omega) hs HD3).mono ?_
            rintro e w'' ⟨rfl, rfl⟩
            by_cases h3 : d3 = 0
            · subst h3
              have hn : n = x := by rw [HX.out, HE.out]; simp
              go_wp2_with fail
              go_ret
              exact ⟨ret_intB (by omega), rfl⟩
            · have hn : n = x + (1 + g2 + d3) := by rw [HX.out, HE.out, if_neg h3]
              have HN : Hid (n = x + (1 + g2 + d3)) := hn
              clear hn
              go_wp2_with fail
              go_ret
              exact ⟨ret_intB (by have := HN.out; omega), rfl⟩
end Go.Proofs.Qxb6617082a
