/-
  The first law's own walk: under the bools and under their negation.
-/
import Derived.Test.Qxb6617603aWalkA
import Derived.Test.Qxb6617603aWalkD
import Derived.Deep.RegionHeld3
namespace Go.Proofs.Qxb6617603a
open Go.RowKit

theorem take_drop0 {α : Type} (l : List α) {n : Nat} (h : n = l.length) : (l.take n).drop 0 = l := by
  rw [List.drop_zero, List.take_of_length_le (by omega)]
theorem neg_length (bs : List Bool) : (neg bs).length = bs.length := by simp [neg]
/-- The two lists at index i, the counts so far. -/
theorem cnt_neg (bs : List Bool) (k : Nat) (h : k < bs.length) : cnt ((neg bs).take (k + 1)) = cnt ((neg bs).take k) + (if bs[k] = true then 1 else 0) := by
  rw [cnt_snoc (neg bs) k (by simpa [neg] using h)]
  have e : (neg bs)[k]'(by simpa [neg] using h) = !bs[k] := by simp [neg]
  rw [e]
  cases bs[k] <;> simp
set_option maxRecDepth 100000 in
set_option maxHeartbeats 4000000 in
theorem law3_any (a ma : Option Addr) (n c m mc : Nat) (L : List Ent) (bs : List Bool) (w : World) (hn : n = L.length) (hm : m = bs.length) (hL : entsAt w a L) (hB : boolsAt w ma bs) :
    Calls Try.prog 3 #[.slice a n c, .slice ma m mc] w fun e w' => e = .returned (.bool true) ∧ Below w.heap.size w w' := by
  have HL : Hid (n = L.length ∧ m = bs.length ∧ entsAt w a L ∧ boolsAt w ma bs) := ⟨hn, hm, hL, hB⟩
  clear hn hm hL hB
  go_enter Try.func3, Try.ntmps3
  go_wp2_with fail
  refine (bytes_any a ma n m c mc L _ HL.out.1 HL.out.2.2.1).mono ?_
  rintro e w' ⟨⟨b, rfl⟩, rfl⟩
  cases b with
  | false =>
    go_wp2_with fail
    go_ret
    exact ⟨rfl, Below.refl _ _⟩
  | true =>
    go_wp2_with fail
    refine (size_any a ma n m c mc L _ HL.out.1 HL.out.2.2.1).mono ?_
    rintro e w1 ⟨b, q, rfl, hsm, rfl⟩
    cases b with
    | false =>
      clear hsm
      go_wp2_with fail
      go_ret
      exact ⟨rfl, below_drawn _ _⟩
    | true =>
      have HS : Hid (small n m L) := hsm rfl
      clear hsm
      by_cases hnm : m < n
      · go_wp2_with fail
        go_ret
        exact ⟨rfl, below_drawn _ _⟩
      have hnm' : n ≤ m := by omega
      have h65 : (n : Int) ≤ 65536 := by have := HS.out.1; omega
      have m65 : (m : Int) ≤ 65536 := by have := HS.out.2.1; omega
      go_wp2_with fail
      refine (clone_any ma m mc 0 m bs _ HL.out.2.1 (boolsAt_below (below_drawn _ _) HL.out.2.2.2) (Nat.zero_le _) (Nat.le_refl _) HS.out.2.1).mono ?_
      rw [take_drop0 bs HL.out.2.1]
      rintro e w2 ⟨B2, rfl, hb2, hbel2⟩
      have hbw2 : Below w'.heap.size w' w2 := (below_drawn _ _).trans hbel2
      have H2 : Hid (boolsAt w2 (some ⟨B2, 0, none⟩) bs) := hb2
      clear hb2 hbel2
      have hmk := make23 m (by omega) w2
      go_wp2_with fail
      go_loopw [8] (fun i wr => ∃ x : Nat, x ≤ m ∧ i = .int .i64 (x : Int) ∧ (∃ f, wr.rowIs w2.heap.size 4 m f ∧ ∀ y, ∀ hy : y < bs.length, y < x → f y = .bool (!bs[y])) ∧ Below w2.heap.size w2 wr) (fun i _ => m - (intOf i).toNat)
      case atStart => exact ⟨0, Nat.zero_le _, rfl, ⟨_, World.rowIs_made w2 (.bool false) m 4, fun y _ h => absurd h (Nat.not_lt_zero _)⟩, (Below.refl _ _).alloc (Nat.le_refl _) _⟩
      case round =>
        clear hmk
        obtain ⟨x, hx, rfl, ⟨f, hrow, hf⟩, hbel⟩ := hrel
        have HF : Hid (wr.rowIs w2.heap.size 4 m f ∧ ∀ y, ∀ hy : y < bs.length, y < x → f y = .bool (!bs[y])) := ⟨hrow, hf⟩
        by_cases hlt : x < m
        · obtain ⟨hn, hm, hL, hB⟩ := HL.out
          have hxL : x < bs.length := by omega
          obtain ⟨b, o, ha, c0⟩ := boolsAt_below hbel (boolsAt_below hbw2 hB) x hxL
          have e0 := hrow.cell (i := x) hlt
          have g0 := hrow.frozen x
          subst ha
          clear hn hm hL hB hrow hf
          go_wp2
          refine ⟨⟨x + 1, by omega, by go_num, ⟨_, HF.out.1.set x _, fun y hy g => ?_⟩, hbel.setCell (Nat.le_refl _) _⟩, by simp [intOf]; omega⟩
          by_cases e : y = x
          · subst e; simp
          · show (if y = x then _ else _) = _
            rw [if_neg e]; exact HF.out.2 y hy (by omega)
        · have hneg : boolsAt wr (some ⟨w2.heap.size, 0, none⟩) (neg bs) := row_bools hrow (by rw [neg_length]; exact HL.out.2.1) (fun y hy => by
            have hy' : y < bs.length := by simpa [neg] using hy
            rw [hf y hy' (by have := HL.out.2.1; omega)]; simp [neg])
          have HN : Hid (boolsAt wr (some ⟨w2.heap.size, 0, none⟩) (neg bs)) := hneg
          have hbr : Below w'.heap.size w' wr := hbw2.trans (hbel.mono hbw2.size)
          have HB2 : Hid (boolsAt wr (some ⟨B2, 0, none⟩) bs) := boolsAt_below hbel H2.out
          clear hneg hrow hf HF H2 hbel hbw2
          go_wp2_with fail
          refine (entries_any a n c 0 n L _ HL.out.1 (entsAt_below hbr HL.out.2.2.1) (Nat.zero_le _) (Nat.le_refl _) HS.out.1 HS.out.2.2).mono ?_
          rw [take_drop0 L HL.out.1]
          rintro e w3 ⟨a3, c3, rfl, he3, hb3⟩
          have HE3 : Hid (entsAt w3 a3 L) := he3
          clear he3
          go_wp2_with fail
          refine (checker_any _ _ _ _ _ _ _).mono ?_
          rintro e w4 ⟨rfl, hw4⟩
          have hb4 : Below w3.heap.size w3 w4 := by rw [hw4]; exact (Below.refl _ _).alloc (Nat.le_refl _) _
          have k0 : w4.cell? ⟨w3.heap.size, 0, none⟩ = some (.slice a3 L.length c3) := by rw [hw4]; simp
          have k3 : w4.cell? ⟨w3.heap.size, 3, none⟩ = some (.slice (some ⟨B2, 0, none⟩) bs.length bs.length) := by rw [hw4]; simp
          have HK4 : Hid (w4.cell? ⟨w3.heap.size, 0, none⟩ = some (.slice a3 L.length c3) ∧ w4.cell? ⟨w3.heap.size, 3, none⟩ = some (.slice (some ⟨B2, 0, none⟩) bs.length bs.length)) := ⟨k0, k3⟩
          clear hw4 k0 k3
          have hbr4 : Below wr.heap.size wr w4 := hb3.trans (hb4.mono hb3.size)
          go_wp2_with fail
          refine (unmatched_any w3.heap.size a3 (some ⟨B2, 0, none⟩) L.length c3 bs.length bs.length L bs _ rfl rfl (by have := HL.out; omega) (by have := HL.out.1; have := HS.out.1; omega) (entsAt_below hb4 HE3.out) (boolsAt_below hbr4 HB2.out) HK4.out.1 HK4.out.2).mono ?_
          rintro e w5 ⟨au, cu, rfl, heu, hb5⟩
          have hbr5 : Below wr.heap.size wr w5 := hbr4.trans (hb5.mono hbr4.size)
          have HU : Hid (entsAt w5 au (keep L bs)) := heu
          clear heu HK4 HE3 hb3 hb4 hb5 hbr4
          go_wp2_with fail
          refine (entries_any a n c 0 n L _ HL.out.1 (entsAt_below hbr5 (entsAt_below hbr HL.out.2.2.1)) (Nat.zero_le _) (Nat.le_refl _) HS.out.1 HS.out.2.2).mono ?_
          rw [take_drop0 L HL.out.1]
          rintro e w6 ⟨a6, c6, rfl, he6, hb6⟩
          have HE6 : Hid (entsAt w6 a6 L) := he6
          clear he6
          go_wp2_with fail
          refine (checker_any _ _ _ _ _ _ _).mono ?_
          rintro e w7 ⟨rfl, hw7⟩
          have hb7 : Below w6.heap.size w6 w7 := by rw [hw7]; exact (Below.refl _ _).alloc (Nat.le_refl _) _
          have k0 : w7.cell? ⟨w6.heap.size, 0, none⟩ = some (.slice a6 L.length c6) := by rw [hw7]; simp
          have k3 : w7.cell? ⟨w6.heap.size, 3, none⟩ = some (.slice (some ⟨w2.heap.size, 0, none⟩) m m) := by rw [hw7]; simp
          have HK7 : Hid (w7.cell? ⟨w6.heap.size, 0, none⟩ = some (.slice a6 L.length c6) ∧ w7.cell? ⟨w6.heap.size, 3, none⟩ = some (.slice (some ⟨w2.heap.size, 0, none⟩) m m)) := ⟨k0, k3⟩
          clear hw7 k0 k3
          have hb57 : Below w5.heap.size w5 w7 := hb6.trans (hb7.mono hb6.size)
          go_wp2_with fail
          refine (unmatched_any w6.heap.size a6 (some ⟨w2.heap.size, 0, none⟩) L.length c6 m m L (neg bs) _ rfl (by rw [neg_length]; exact HL.out.2.1) (by have := HL.out.1; omega) (by have := HL.out.1; have := HS.out.1; omega) (entsAt_below hb7 HE6.out) (boolsAt_below hb57 (boolsAt_below hbr5 HN.out)) HK7.out.1 HK7.out.2).mono ?_
          rintro e w8 ⟨av, cv, rfl, hev, hb8⟩
          have hb58 : Below w5.heap.size w5 w8 := hb57.trans (hb8.mono hb57.size)
          have hb8w : Below w'.heap.size w' w8 := hbr.trans ((hbr5.trans (hb58.mono hbr5.size)).mono hbr.size)
          have HW : Hid (entsAt w8 au (keep L bs) ∧ entsAt w8 av (keep L (neg bs)) ∧ entsAt w8 a L ∧ boolsAt w8 ma bs) := ⟨entsAt_below hb58 HU.out, hev, entsAt_below hb8w HL.out.2.2.1, boolsAt_below hb8w HL.out.2.2.2⟩
          obtain ⟨ul, hul⟩ : ∃ ul, ul = (keep L bs).length := ⟨_, rfl⟩
          obtain ⟨vl, hvl⟩ : ∃ vl, vl = (keep L (neg bs)).length := ⟨_, rfl⟩
          rw [← hul, ← hvl]
          have HLEN : Hid (ul = (keep L bs).length ∧ vl = (keep L (neg bs)).length) := ⟨hul, hvl⟩
          clear hev hul hvl HK7 HE6 hb6 hb7 hb8 hb57 hb58 hbr5 HU HN HB2 hbr
          go_wp2_with fail
          go_loopw [11, 12, 13] (fun A B i wx => ∃ x : Nat, x ≤ n ∧ i = .int .i64 (x : Int) ∧ A = .int .i64 (cnt (bs.take x) : Int) ∧ B = .int .i64 (cnt ((neg bs).take x) : Int) ∧ Below w8.heap.size w8 wx) (fun _ _ i _ => n - (intOf i).toNat)
          case atStart => exact ⟨0, Nat.zero_le _, rfl, rfl, rfl, Below.refl _ _⟩
          case round =>
            obtain ⟨y, hy, rfl, rfl, rfl, hbx⟩ := hrel
            by_cases hyn : y < n
            · obtain ⟨hu, hv, hL, hB⟩ := HW.out
              obtain ⟨hn, hm, _, _⟩ := HL.out
              have hyL : y < L.length := by omega
              have hyB : y < bs.length := by omega
              obtain ⟨b, o, ha, hE⟩ := entsAt_below hbx hL y hyL
              obtain ⟨h, c2, d0, d1, d2, hby, _⟩ := hE
              obtain ⟨mb, mo, hma, m0⟩ := boolsAt_below hbx hB y hyB
              have hsz := HS.out.2.2 y hyL
              have hyn' : (y : Int) < (n : Int) := by omega
              have hc1 := cnt_snoc bs y hyB
              have hc2 := cnt_neg bs y hyB
              have hcb : cnt (bs.take y) ≤ y := by unfold cnt; refine Nat.le_trans (List.length_filter_le _ _) ?_; simp; omega
              have hcb2 : cnt ((neg bs).take y) ≤ y := by unfold cnt; refine Nat.le_trans (List.length_filter_le _ _) ?_; simp; omega
              subst ha
              subst hma
              cases hb : bs[y] with
              | false =>
                rw [hb] at m0 hc1 hc2
                have hat := keep_at L bs y hyL hyB hb
                obtain ⟨A, hA⟩ : ∃ A, A = cnt (bs.take y) := ⟨_, rfl⟩
                rw [← hA] at hat
                obtain ⟨hAl, hAe⟩ := List.getElem?_eq_some_iff.1 hat
                obtain ⟨ub, uo, hau, hEu⟩ := entsAt_below hbx hu A hAl
                rw [hAe] at hEu
                obtain ⟨h', c3', f0, f1, f2, hby', _⟩ := hEu
                have hAu : (A : Int) < (ul : Int) := by have := HLEN.out; omega
                have hAy : (A : Int) ≤ 65536 := by omega
                have hd : decide ((ul : Int) ≤ (A : Int)) = false := decide_eq_false (by omega)
                have hdN : decide (ul ≤ A) = false := decide_eq_false (by omega)
                have HCN : Hid (cnt (bs.take (y + 1)) = cnt (bs.take y) + 1 ∧ cnt ((neg bs).take (y + 1)) = cnt ((neg bs).take y) + 0) := ⟨by rw [hc1]; rfl, by rw [hc2]; rfl⟩
                have HA : Hid (A = cnt (bs.take y)) := hA
                have HC : Hid (bytesAt wr h L[y].hash ∧ bytesAt wr h' L[y].hash) := ⟨hby, hby'⟩
                rw [← hA]
                subst hau
                clear hc1 hc2 hA hat hAe hu hv hL hB hn hm hby hby' hb
                go_wp2_with fail
                go_region_held3 (fun w' => w'.cell? ⟨ub, uo + A * 3, none⟩ = some (.string L[y].name) ∧ w'.cell? ⟨ub, uo + A * 3 + 1, none⟩ = some (.bool L[y].has) ∧ w'.cell? ⟨ub, uo + A * 3 + 2, none⟩ = some (.slice h' L[y].hash.length c3') ∧ w'.cell? ⟨b, o + y * 3, none⟩ = some (.string L[y].name) ∧ w'.cell? ⟨b, o + y * 3 + 1, none⟩ = some (.bool L[y].has) ∧ w'.cell? ⟨b, o + y * 3 + 2, none⟩ = some (.slice h L[y].hash.length c2)) (go_keep) (first | (go_at_call 11; refine (sameEnt_any L[y].name L[y].has h' h L[y].hash.length c3' c2 L[y].hash _ rfl (by exact HC.out.2) (by exact HC.out.1) hsz).mono ?_; rintro e w1 ⟨rfl, hb1⟩; have z0 := cell_below hb1 (by exact f0); have z1 := cell_below hb1 (by exact f1); have z2 := cell_below hb1 (by exact f2); have z3 := cell_below hb1 (by exact d0); have z4 := cell_below hb1 (by exact d1); have z5 := cell_below hb1 (by exact d2)))
                all_goals
                  have hbN : Below w8.heap.size w8 w1 := hbx.trans ((below_of_drew hb1).mono hbx.size)
                  clear hb1
                  go_wp2_with fail
                  exact ⟨⟨y + 1, by omega, by go_num, by rw [HCN.out.1, ← HA.out]; go_num, by rw [HCN.out.2, Nat.add_zero], hbN⟩, by simp [intOf]; omega⟩
              | true =>
                rw [hb] at m0 hc1 hc2
                have hat := keep_at L (neg bs) y hyL (by simpa [neg] using hyB) (by simp [neg, hb])
                obtain ⟨A, hA⟩ : ∃ A, A = cnt ((neg bs).take y) := ⟨_, rfl⟩
                rw [← hA] at hat
                obtain ⟨hAl, hAe⟩ := List.getElem?_eq_some_iff.1 hat
                obtain ⟨ub, uo, hau, hEu⟩ := entsAt_below hbx hv A hAl
                rw [hAe] at hEu
                obtain ⟨h', c3', f0, f1, f2, hby', _⟩ := hEu
                have hAu : (A : Int) < (vl : Int) := by have := HLEN.out; omega
                have hAy : (A : Int) ≤ 65536 := by omega
                have hd : decide ((vl : Int) ≤ (A : Int)) = false := decide_eq_false (by omega)
                have hdN : decide (vl ≤ A) = false := decide_eq_false (by omega)
                have HCN : Hid (cnt (bs.take (y + 1)) = cnt (bs.take y) + 0 ∧ cnt ((neg bs).take (y + 1)) = cnt ((neg bs).take y) + 1) := ⟨by rw [hc1]; rfl, by rw [hc2]; rfl⟩
                have HA : Hid (A = cnt ((neg bs).take y)) := hA
                have HC : Hid (bytesAt wr h L[y].hash ∧ bytesAt wr h' L[y].hash) := ⟨hby, hby'⟩
                rw [← hA]
                subst hau
                clear hc1 hc2 hA hat hAe hu hv hL hB hn hm hby hby' hb
                go_wp2_with fail
                go_region_held3 (fun w' => w'.cell? ⟨ub, uo + A * 3, none⟩ = some (.string L[y].name) ∧ w'.cell? ⟨ub, uo + A * 3 + 1, none⟩ = some (.bool L[y].has) ∧ w'.cell? ⟨ub, uo + A * 3 + 2, none⟩ = some (.slice h' L[y].hash.length c3') ∧ w'.cell? ⟨b, o + y * 3, none⟩ = some (.string L[y].name) ∧ w'.cell? ⟨b, o + y * 3 + 1, none⟩ = some (.bool L[y].has) ∧ w'.cell? ⟨b, o + y * 3 + 2, none⟩ = some (.slice h L[y].hash.length c2)) (go_keep) (first | (go_at_call 11; refine (sameEnt_any L[y].name L[y].has h' h L[y].hash.length c3' c2 L[y].hash _ rfl (by exact HC.out.2) (by exact HC.out.1) hsz).mono ?_; rintro e w1 ⟨rfl, hb1⟩; have z0 := cell_below hb1 (by exact f0); have z1 := cell_below hb1 (by exact f1); have z2 := cell_below hb1 (by exact f2); have z3 := cell_below hb1 (by exact d0); have z4 := cell_below hb1 (by exact d1); have z5 := cell_below hb1 (by exact d2)))
                all_goals
                  have hbN : Below w8.heap.size w8 w1 := hbx.trans ((below_of_drew hb1).mono hbx.size)
                  clear hb1
                  go_wp2_with fail
                  exact ⟨⟨y + 1, by omega, by go_num, by rw [HCN.out.1, Nat.add_zero], by rw [HCN.out.2, ← HA.out]; go_num, hbN⟩, by simp [intOf]; omega⟩
            · have hye : y = n := by omega
              have hA : cnt (bs.take y) = ul := by
                have h1 := keep_length L (bs.take y) (by have := HL.out; simp; omega)
                rw [show y = L.length by have := HL.out.1; omega, keep_take] at h1
                have := HLEN.out.1
                rw [show y = L.length by have := HL.out.1; omega]; omega
              have hB : cnt ((neg bs).take y) = vl := by
                have h1 := keep_length L ((neg bs).take y) (by have := HL.out; simp [neg]; omega)
                rw [show y = L.length by have := HL.out.1; omega, keep_take] at h1
                have := HLEN.out.2
                rw [show y = L.length by have := HL.out.1; omega]; omega
              rw [hA, hB]
              clear hA hB
              go_wp2_with fail
              go_ret
              exact ⟨ret_bool (by simp), hb8w.trans (hbx.mono hb8w.size)⟩
end Go.Proofs.Qxb6617603a
