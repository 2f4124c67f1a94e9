/-
  The second law's own walk: at any cut.
-/
import Derived.Test.Qxb6617603aWalkA
import Derived.Test.Qxb6617603aWalkD
import Derived.Deep.RegionHeld3
namespace Go.Proofs.Qxb6617603a
open Go.RowKit

theorem takeAll {α : Type} (l : List α) {n : Nat} (h : n = l.length) : (l.take n).drop 0 = l := by
  rw [List.drop_zero, List.take_of_length_le (by omega)]
/-- The whole is the first part's and then the rest's. -/
theorem keep_split (L : List Ent) (bs : List Bool) (k n : Nat) (hn : n = L.length) (hk : k ≤ n) (hm : n ≤ bs.length) :
    keep L bs = keep (L.take k) (bs.take k) ++ keep (L.drop k) ((bs.take n).drop k) := by
  rw [← keep_append _ _ _ _ (by simp; omega), List.take_append_drop]
  have e : bs.take k ++ (bs.take n).drop k = bs.take n := by
    have h := List.take_append_drop k (bs.take n)
    rw [List.take_take, Nat.min_eq_left hk] at h
    exact h
  rw [e, hn, keep_take]

set_option maxRecDepth 100000 in
set_option maxHeartbeats 4000000 in
theorem law4_any (a ma : Option Addr) (n c m mc : Nat) (cut : Int) (L : List Ent) (bs : List Bool) (w : World) (hn : n = L.length) (hm : m = bs.length) (hL : entsAt w a L) (hB : boolsAt w ma bs) :
    Calls Try.prog 4 #[.slice a n c, .slice ma m mc, .int .i64 cut] w fun e w' => e = .returned (.bool true) ∧ Below w.heap.size w w' := by
  have HL : Hid (n = L.length ∧ m = bs.length ∧ entsAt w a L ∧ boolsAt w ma bs) := ⟨hn, hm, hL, hB⟩
  clear hn hm hL hB
  go_enter Try.func4, Try.ntmps4
  go_wp2_with fail
  refine (bytes_any' a ma n m c mc cut L _ HL.out.1 HL.out.2.2.1).mono ?_
  rintro e w' ⟨⟨b, rfl⟩, rfl⟩
  cases b with
  | false =>
    go_wp2_with fail
    go_ret
    exact ⟨rfl, Below.refl _ _⟩
  | true =>
    go_wp2_with fail
    refine (size_any a ma n m c mc L _ HL.out.1 HL.out.2.2.1).mono ?_
    rintro e w1 ⟨b, q, rfl, hsm, rfl⟩
    cases b with
    | false =>
      clear hsm
      go_wp2_with fail
      go_ret
      exact ⟨rfl, below_drawn _ _⟩
    | true =>
      have HS : Hid (small n m L) := hsm rfl
      clear hsm
      by_cases hnm : m < n
      · go_wp2_with fail
        go_ret
        exact ⟨rfl, below_drawn _ _⟩
      have hnm' : n ≤ m := by omega
      have h65 : (n : Int) ≤ 65536 := by have := HS.out.1; omega
      have m65 : (m : Int) ≤ 65536 := by have := HS.out.2.1; omega
      by_cases hc0 : cut < 0
      · go_wp2_with fail
        go_ret
        exact ⟨rfl, below_drawn _ _⟩
      by_cases hc1 : (n : Int) < cut
      · go_wp2_with fail
        go_ret
        exact ⟨rfl, below_drawn _ _⟩
      obtain ⟨k, rfl⟩ : ∃ k : Nat, cut = (k : Int) := ⟨cut.toNat, by omega⟩
      have hk : k ≤ n := by omega
      clear hc0 hc1
      have hb0 : Below w'.heap.size w' (w'.drewN q) := below_drawn _ _
      go_wp2_with fail
      refine (entries_any a n c 0 n L _ HL.out.1 (entsAt_below hb0 HL.out.2.2.1) (Nat.zero_le _) (Nat.le_refl _) HS.out.1 HS.out.2.2).mono ?_
      rw [takeAll L HL.out.1]
      rintro e x11 ⟨e1a, e1c, rfl, he, hb11⟩
      have HE1 : Hid (entsAt x11 e1a (L)) := he
      clear he
      have hbq1 : Below w'.heap.size w' x11 := hb0.trans (hb11.mono hb0.size)
      go_wp2_with fail
      refine (clone_any ma m mc 0 m bs _ HL.out.2.1 (boolsAt_below hbq1 HL.out.2.2.2) (Nat.zero_le _) (Nat.le_refl _) HS.out.2.1).mono ?_
      rw [takeAll bs HL.out.2.1]
      rintro e x12 ⟨B1, rfl, hbo, hb12⟩
      have HO1 : Hid (boolsAt x12 (some ⟨B1, 0, none⟩) (bs)) := hbo
      clear hbo
      go_wp2_with fail
      refine (checker_any _ _ _ _ _ _ _).mono ?_
      rintro e x13 ⟨rfl, hw⟩
      have hb13 : Below x12.heap.size x12 x13 := by rw [hw]; exact (Below.refl _ _).alloc (Nat.le_refl _) _
      have k0 : x13.cell? ⟨x12.heap.size, 0, none⟩ = some (.slice e1a (L).length e1c) := by rw [hw]; simp
      have k3 : x13.cell? ⟨x12.heap.size, 3, none⟩ = some (.slice (some ⟨B1, 0, none⟩) (bs).length (bs).length) := by rw [hw]; simp
      have HK1 : Hid (x13.cell? ⟨x12.heap.size, 0, none⟩ = some (.slice e1a (L).length e1c) ∧ x13.cell? ⟨x12.heap.size, 3, none⟩ = some (.slice (some ⟨B1, 0, none⟩) (bs).length (bs).length)) := ⟨k0, k3⟩
      clear hw k0 k3
      have hb113 : Below x11.heap.size x11 x13 := hb12.trans (hb13.mono hb12.size)
      go_wp2_with fail
      refine (unmatched_any x12.heap.size e1a (some ⟨B1, 0, none⟩) (L).length e1c (bs).length (bs).length (L) (bs) _ rfl rfl (by have h1 := HL.out.1; have h2 := HL.out.2.1; (try simp); omega) (by have h1 := HL.out.1; have h2 := HS.out.1; (try simp); omega) (entsAt_below hb113 HE1.out) (boolsAt_below hb13 HO1.out) HK1.out.1 HK1.out.2).mono ?_
      rintro e x14 ⟨u1a, u1c, rfl, heu, hb14⟩
      have HU1 : Hid (entsAt x14 u1a (keep (L) (bs))) := heu
      have hbr1 : Below w'.heap.size w' x14 := hbq1.trans ((hb113.trans (hb14.mono hb113.size)).mono hbq1.size)
      have hbz1 : Below (w'.drewN q).heap.size (w'.drewN q) x14 := hb11.trans ((hb113.trans (hb14.mono hb113.size)).mono hb11.size)
      clear heu HK1 HE1 HO1 hb11 hb12 hb13 hb113 hb14 hbq1
      go_wp2_with fail
      refine (entries_any a n c 0 k L _ HL.out.1 (entsAt_below hbr1 HL.out.2.2.1) (Nat.zero_le _) hk HS.out.1 HS.out.2.2).mono ?_
      rw [List.drop_zero]
      rintro e x21 ⟨e2a, e2c, rfl, he, hb21⟩
      have HE2 : Hid (entsAt x21 e2a (L.take k)) := he
      clear he
      have hbq2 : Below w'.heap.size w' x21 := hbr1.trans (hb21.mono hbr1.size)
      go_wp2_with fail
      refine (clone_any ma m mc 0 k bs _ HL.out.2.1 (boolsAt_below hbq2 HL.out.2.2.2) (Nat.zero_le _) (by omega) HS.out.2.1).mono ?_
      rw [List.drop_zero]
      rintro e x22 ⟨B2, rfl, hbo, hb22⟩
      have HO2 : Hid (boolsAt x22 (some ⟨B2, 0, none⟩) (bs.take k)) := hbo
      clear hbo
      go_wp2_with fail
      refine (checker_any _ _ _ _ _ _ _).mono ?_
      rintro e x23 ⟨rfl, hw⟩
      have hb23 : Below x22.heap.size x22 x23 := by rw [hw]; exact (Below.refl _ _).alloc (Nat.le_refl _) _
      have k0 : x23.cell? ⟨x22.heap.size, 0, none⟩ = some (.slice e2a (L.take k).length e2c) := by rw [hw]; simp
      have k3 : x23.cell? ⟨x22.heap.size, 3, none⟩ = some (.slice (some ⟨B2, 0, none⟩) (bs.take k).length (bs.take k).length) := by rw [hw]; simp
      have HK2 : Hid (x23.cell? ⟨x22.heap.size, 0, none⟩ = some (.slice e2a (L.take k).length e2c) ∧ x23.cell? ⟨x22.heap.size, 3, none⟩ = some (.slice (some ⟨B2, 0, none⟩) (bs.take k).length (bs.take k).length)) := ⟨k0, k3⟩
      clear hw k0 k3
      have hb213 : Below x21.heap.size x21 x23 := hb22.trans (hb23.mono hb22.size)
      go_wp2_with fail
      refine (unmatched_any x22.heap.size e2a (some ⟨B2, 0, none⟩) (L.take k).length e2c (bs.take k).length (bs.take k).length (L.take k) (bs.take k) _ rfl rfl (by have h1 := HL.out.1; have h2 := HL.out.2.1; (try simp); omega) (by have h1 := HL.out.1; have h2 := HS.out.1; (try simp); omega) (entsAt_below hb213 HE2.out) (boolsAt_below hb23 HO2.out) HK2.out.1 HK2.out.2).mono ?_
      rintro e x24 ⟨u2a, u2c, rfl, heu, hb24⟩
      have HU2 : Hid (entsAt x24 u2a (keep (L.take k) (bs.take k))) := heu
      have hbr2 : Below w'.heap.size w' x24 := hbq2.trans ((hb213.trans (hb24.mono hb213.size)).mono hbq2.size)
      have hbz2 : Below x14.heap.size x14 x24 := hb21.trans ((hb213.trans (hb24.mono hb213.size)).mono hb21.size)
      clear heu HK2 HE2 HO2 hb21 hb22 hb23 hb213 hb24 hbq2
      go_wp2_with fail
      refine (entries_any a n c k n L _ HL.out.1 (entsAt_below hbr2 HL.out.2.2.1) hk (Nat.le_refl _) HS.out.1 HS.out.2.2).mono ?_
      rw [List.take_of_length_le (show L.length ≤ n by have := HL.out.1; omega)]
      rintro e x31 ⟨e3a, e3c, rfl, he, hb31⟩
      have HE3 : Hid (entsAt x31 e3a (L.drop k)) := he
      clear he
      have hbq3 : Below w'.heap.size w' x31 := hbr2.trans (hb31.mono hbr2.size)
      go_wp2_with fail
      refine (clone_any ma m mc k n bs _ HL.out.2.1 (boolsAt_below hbq3 HL.out.2.2.2) hk (by omega) HS.out.2.1).mono ?_
      skip
      rintro e x32 ⟨B3, rfl, hbo, hb32⟩
      have HO3 : Hid (boolsAt x32 (some ⟨B3, 0, none⟩) ((bs.take n).drop k)) := hbo
      clear hbo
      go_wp2_with fail
      refine (checker_any _ _ _ _ _ _ _).mono ?_
      rintro e x33 ⟨rfl, hw⟩
      have hb33 : Below x32.heap.size x32 x33 := by rw [hw]; exact (Below.refl _ _).alloc (Nat.le_refl _) _
      have k0 : x33.cell? ⟨x32.heap.size, 0, none⟩ = some (.slice e3a (L.drop k).length e3c) := by rw [hw]; simp
      have k3 : x33.cell? ⟨x32.heap.size, 3, none⟩ = some (.slice (some ⟨B3, 0, none⟩) ((bs.take n).drop k).length ((bs.take n).drop k).length) := by rw [hw]; simp
      have HK3 : Hid (x33.cell? ⟨x32.heap.size, 0, none⟩ = some (.slice e3a (L.drop k).length e3c) ∧ x33.cell? ⟨x32.heap.size, 3, none⟩ = some (.slice (some ⟨B3, 0, none⟩) ((bs.take n).drop k).length ((bs.take n).drop k).length)) := ⟨k0, k3⟩
      clear hw k0 k3
      have hb313 : Below x31.heap.size x31 x33 := hb32.trans (hb33.mono hb32.size)
      go_wp2_with fail
      refine (unmatched_any x32.heap.size e3a (some ⟨B3, 0, none⟩) (L.drop k).length e3c ((bs.take n).drop k).length ((bs.take n).drop k).length (L.drop k) ((bs.take n).drop k) _ rfl rfl (by have h1 := HL.out.1; have h2 := HL.out.2.1; (try simp); omega) (by have h1 := HL.out.1; have h2 := HS.out.1; (try simp); omega) (entsAt_below hb313 HE3.out) (boolsAt_below hb33 HO3.out) HK3.out.1 HK3.out.2).mono ?_
      rintro e x34 ⟨u3a, u3c, rfl, heu, hb34⟩
      have HU3 : Hid (entsAt x34 u3a (keep (L.drop k) ((bs.take n).drop k))) := heu
      have hbr3 : Below w'.heap.size w' x34 := hbq3.trans ((hb313.trans (hb34.mono hb313.size)).mono hbq3.size)
      have hbz3 : Below x24.heap.size x24 x34 := hb31.trans ((hb313.trans (hb34.mono hb313.size)).mono hb31.size)
      clear heu HK3 HE3 HO3 hb31 hb32 hb33 hb313 hb34 hbq3
      obtain ⟨U, hU⟩ : ∃ U, U = keep L bs := ⟨_, rfl⟩
      obtain ⟨F, hF⟩ : ∃ F, F = keep (L.take k) (bs.take k) := ⟨_, rfl⟩
      obtain ⟨G, hG⟩ : ∃ G, G = keep (L.drop k) ((bs.take n).drop k) := ⟨_, rfl⟩
      rw [← hU, ← hF, ← hG]
      have hUFG : U = F ++ G := by rw [hU, hF, hG]; exact keep_split L bs k n HL.out.1 hk (by have := HL.out.2.1; omega)
      have hUs : ∀ E ∈ U, E.hash.length ≤ 1048576 := by
        rw [hU]
        exact keep_mem (p := fun E : Ent => E.hash.length ≤ 1048576) L bs (fun E hE => by
          obtain ⟨i, hi, rfl⟩ := List.mem_iff_getElem.1 hE
          exact HS.out.2.2 i hi)
      have hUl : U.length = cnt (bs.take n) := by
        rw [hU, ← keep_take, ← HL.out.1]
        exact keep_length L (bs.take n) (by have := HL.out; simp; omega)
      have hUn : U.length ≤ n := by rw [hU, HL.out.1]; exact keep_le L bs
      have HW : Hid (entsAt x34 u1a U ∧ entsAt x34 u2a F ∧ entsAt x34 u3a G ∧ boolsAt x34 ma bs) := ⟨by rw [hU]; exact entsAt_below hbz3 (entsAt_below hbz2 HU1.out), by rw [hF]; exact entsAt_below hbz3 HU2.out, by rw [hG]; exact HU3.out, boolsAt_below hbr3 HL.out.2.2.2⟩
      obtain ⟨ul, hul⟩ : ∃ ul, ul = U.length := ⟨_, rfl⟩
      obtain ⟨fl, hfl⟩ : ∃ fl, fl = F.length := ⟨_, rfl⟩
      obtain ⟨gl, hgl⟩ : ∃ gl, gl = G.length := ⟨_, rfl⟩
      rw [← hul, ← hfl, ← hgl]
      have hsum : ul = fl + gl := by rw [hul, hUFG, List.length_append, hfl, hgl]
      have HP : Hid (U = F ++ G ∧ (∀ E ∈ U, E.hash.length ≤ 1048576) ∧ ul = cnt (bs.take n) ∧ ul = U.length ∧ fl = F.length ∧ gl = G.length ∧ ul = fl + gl) := ⟨hUFG, hUs, by rw [hul]; exact hUl, hul, hfl, hgl, hsum⟩
      have u65 : (ul : Int) ≤ 65536 := by omega
      have f65 : (fl : Int) ≤ 65536 := by omega
      have g65 : (gl : Int) ≤ 65536 := by omega
      have hneq : ((ul : Int) != (fl : Int) + (gl : Int)) = false := by rw [hsum]; simp
      clear hU hF hG hUFG hUs hUl hUn hul hfl hgl hsum HU1 HU2 HU3 hbz1 hbz2 hbz3 hbr1 hbr2 hb0
      go_wp2_with fail
      go_loop [11, 12] (fun z i => ∃ x : Nat, x ≤ n ∧ i = .int .i64 (x : Int) ∧ z = .int .i64 (cnt (bs.take x) : Int)) (fun _ i => n - (intOf i).toNat)
      case atStart => exact ⟨0, Nat.zero_le _, rfl, rfl⟩
      case round =>
        obtain ⟨x, hx, rfl, rfl⟩ := hrel
        have hcx : cnt (bs.take x) ≤ x := by unfold cnt; refine Nat.le_trans (List.length_filter_le _ _) ?_; simp; omega
        by_cases hlt : x < n
        · have hxB : x < bs.length := by have := HL.out; omega
          obtain ⟨mb, mo, hma, m0⟩ := HW.out.2.2.2 x hxB
          have hc := cnt_snoc bs x hxB
          have hcI : (cnt (bs.take x) : Int) ≤ 65536 := by omega
          subst hma
          cases hb : bs[x] with
          | true =>
            rw [hb, if_pos rfl, Nat.add_zero] at hc
            rw [hb] at m0
            have HC : Hid (cnt (bs.take (x + 1)) = cnt (bs.take x)) := hc
            clear hc hb
            go_wp2_with fail
            exact ⟨⟨x + 1, by omega, by go_num, by rw [HC.out]⟩, by simp [intOf]; omega⟩
          | false =>
            rw [hb, if_neg (by decide)] at hc
            rw [hb] at m0
            have HC : Hid (cnt (bs.take (x + 1)) = cnt (bs.take x) + 1) := hc
            clear hc hb
            go_wp2_with fail
            exact ⟨⟨x + 1, by omega, by go_num, by rw [HC.out]; go_num⟩, by simp [intOf]; omega⟩
        · have hxn : x = n := by omega
          have hcu : cnt (bs.take x) = ul := by rw [hxn]; exact HP.out.2.2.1.symm
          rw [hcu]
          clear hcu hcx
          go_wp2_with fail
          go_loopw [13] (fun i wx => ∃ y : Nat, y ≤ fl ∧ i = .int .i64 (y : Int) ∧ Below x34.heap.size x34 wx) (fun i _ => fl - (intOf i).toNat)
          case atStart => exact ⟨0, Nat.zero_le _, rfl, Below.refl _ _⟩
          case round =>
            obtain ⟨y, hy, rfl, hbx⟩ := hrel
            by_cases hyl : y < fl
            · obtain ⟨hUFG, hUs, hcc, hul, hfl, hgl, hsum⟩ := HP.out
              have hyU : y < U.length := by omega
              have hyF : y < F.length := by omega
              have hEq : U[y] = F[y] := by simp only [hUFG]; exact List.getElem_append_left hyF
              obtain ⟨b, o, ha, hE⟩ := entsAt_below hbx HW.out.1 y hyU
              obtain ⟨b', o', ha', hE'⟩ := entsAt_below hbx HW.out.2.1 y hyF
              rw [← hEq] at hE'
              obtain ⟨h, c2, d0, d1, d2, hby, _⟩ := hE
              obtain ⟨h', c2', f0, f1, f2, hby', _⟩ := hE'
              have hsz := hUs _ (List.getElem_mem hyU)
              obtain ⟨E, hEE⟩ : ∃ E, E = U[y] := ⟨_, rfl⟩
              rw [← hEE] at d0 d1 d2 f0 f1 f2 hby hby' hsz
              have hyu : (y : Int) < (ul : Int) := by omega
              have hyf : (y : Int) < (fl : Int) := by omega
              have HC : Hid (bytesAt wr h E.hash ∧ bytesAt wr h' E.hash) := ⟨hby, hby'⟩
              subst ha
              subst ha'
              clear hUFG hUs hcc hul hfl hgl hsum hEq hEE hby hby'
              go_wp2_with fail
              go_region_held3 (fun w' => w'.cell? ⟨b, o + y * 3, none⟩ = some (.string E.name) ∧ w'.cell? ⟨b, o + y * 3 + 1, none⟩ = some (.bool E.has) ∧ w'.cell? ⟨b, o + y * 3 + 2, none⟩ = some (.slice h E.hash.length c2) ∧ w'.cell? ⟨b', o' + y * 3, none⟩ = some (.string E.name) ∧ w'.cell? ⟨b', o' + y * 3 + 1, none⟩ = some (.bool E.has) ∧ w'.cell? ⟨b', o' + y * 3 + 2, none⟩ = some (.slice h' E.hash.length c2')) (go_keep) (first | (go_at_call 13; refine (sameEntry_any E.name E.has h h' E.hash.length c2 c2' E.hash _ rfl (by exact HC.out.1) (by exact HC.out.2) hsz).mono ?_; rintro e w1 ⟨rfl, hb1⟩; have z0 := cell_below hb1 (by exact f0); have z1 := cell_below hb1 (by exact f1); have z2 := cell_below hb1 (by exact f2); have z3 := cell_below hb1 (by exact d0); have z4 := cell_below hb1 (by exact d1); have z5 := cell_below hb1 (by exact d2)))
              all_goals
                have hbN : Below x34.heap.size x34 w1 := hbx.trans ((below_of_drew hb1).mono hbx.size)
                clear hb1
                go_wp2_with fail
                exact ⟨⟨y + 1, by omega, by go_num, hbN⟩, by simp [intOf]; omega⟩
            · go_wp2_with fail
              go_loopw [14] (fun i wy => ∃ v : Nat, v ≤ gl ∧ i = .int .i64 (v : Int) ∧ Below x34.heap.size x34 wy) (fun i _ => gl - (intOf i).toNat)
              case atStart => exact ⟨0, Nat.zero_le _, rfl, hbx⟩
              case round =>
                obtain ⟨v, hv, rfl, hby⟩ := hrel
                by_cases hvl : v < gl
                · obtain ⟨hUFG, hUs, hcc, hul, hfl, hgl, hsum⟩ := HP.out
                  have hvU : fl + v < U.length := by omega
                  have hvG : v < G.length := by omega
                  have hEq : U[fl + v] = G[v] := by
                    simp only [hUFG]
                    rw [List.getElem_append_right (by omega)]
                    congr 1; omega
                  obtain ⟨b, o, ha, hE⟩ := entsAt_below hby HW.out.1 (fl + v) hvU
                  obtain ⟨b', o', ha', hE'⟩ := entsAt_below hby HW.out.2.2.1 v hvG
                  rw [← hEq] at hE'
                  obtain ⟨h, c2, d0, d1, d2, hbs, _⟩ := hE
                  obtain ⟨h', c2', f0, f1, f2, hbs', _⟩ := hE'
                  have hsz := hUs _ (List.getElem_mem hvU)
                  obtain ⟨E, hEE⟩ : ∃ E, E = U[fl + v] := ⟨_, rfl⟩
                  rw [← hEE] at d0 d1 d2 f0 f1 f2 hbs hbs' hsz
                  have hvu : (fl : Int) + (v : Int) < (ul : Int) := by omega
                  have hvg : (v : Int) < (gl : Int) := by omega
                  have hid0 : (0 : Int) ≤ (fl : Int) + (v : Int) := by omega
                  have hwr : IntKind.i64.wrap ((fl : Int) + (v : Int)) = (fl : Int) + (v : Int) := by rw [IntKind.wrap_i64]; omega
                  have hwn : ((fl : Int) + (v : Int)).toNat = fl + v := by omega
                  have HC : Hid (bytesAt wr h E.hash ∧ bytesAt wr h' E.hash) := ⟨hbs, hbs'⟩
                  subst ha
                  subst ha'
                  clear hUFG hUs hcc hul hfl hgl hsum hEq hEE hbs hbs'
                  go_wp2_with fail
                  go_region_held3 (fun w' => w'.cell? ⟨b, o + (fl + v) * 3, none⟩ = some (.string E.name) ∧ w'.cell? ⟨b, o + (fl + v) * 3 + 1, none⟩ = some (.bool E.has) ∧ w'.cell? ⟨b, o + (fl + v) * 3 + 2, none⟩ = some (.slice h E.hash.length c2) ∧ w'.cell? ⟨b', o' + v * 3, none⟩ = some (.string E.name) ∧ w'.cell? ⟨b', o' + v * 3 + 1, none⟩ = some (.bool E.has) ∧ w'.cell? ⟨b', o' + v * 3 + 2, none⟩ = some (.slice h' E.hash.length c2')) (go_keep) (first | (go_at_call 13; refine (sameEntry_any E.name E.has h h' E.hash.length c2 c2' E.hash _ rfl (by exact HC.out.1) (by exact HC.out.2) hsz).mono ?_; rintro e w1 ⟨rfl, hb1⟩; have z0 := cell_below hb1 (by exact f0); have z1 := cell_below hb1 (by exact f1); have z2 := cell_below hb1 (by exact f2); have z3 := cell_below hb1 (by exact d0); have z4 := cell_below hb1 (by exact d1); have z5 := cell_below hb1 (by exact d2)))
                  all_goals
                    have hbN : Below x34.heap.size x34 w1 := hby.trans ((below_of_drew hb1).mono hby.size)
                    clear hb1
                    go_wp2_with fail
                    exact ⟨⟨v + 1, by omega, by go_num, hbN⟩, by simp [intOf]; omega⟩
                · go_wp2_with fail
                  go_ret
                  exact ⟨rfl, hbr3.trans (hby.mono hbr3.size)⟩
end Go.Proofs.Qxb6617603a
