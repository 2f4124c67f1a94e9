/-
  The law's own walk.
-/
import Derived.Test.Qxb6617593aWalkA
import Derived.Test.Qxb6617593aWalkB
import Derived.Test.Qxb6617593aWalkC
import Derived.Test.Qxb6617593aCopyA
import Derived.Test.Qxb6617593aCopyB
namespace Go.Proofs.Qxb6617593a
open Go.RowKit Go.Maps

set_option maxRecDepth 100000 in
set_option maxHeartbeats 8000000 in
theorem law_any (a a' : Option Addr) (n m c c' : Nat) (L : List Role) (M : List Attr) (cut : Int) (w : World) (hn : n = L.length) (hm : m = M.length) (hL : rolesAt w a L) (hM : attrsAt w a' M) (hok : okRoles L) (hnil : a = none → n = 0) (hnil' : a' = none → m = 0) :
    Calls Try.prog 3 #[.slice a n c, .slice a' m c', .int .i64 cut] w fun e w' => e = .returned (.bool true) ∧ Below w.heap.size w w' := by
  have HL : Hid (n = L.length ∧ rolesAt w a L ∧ okRoles L) := ⟨hn, hL, hok⟩
  have HM : Hid (m = M.length ∧ attrsAt w a' M) := ⟨hm, hM⟩
  have HNIL : Hid ((a = none → n = 0) ∧ (a' = none → m = 0)) := ⟨hnil, hnil'⟩
  clear hn hm hL hM hok hnil hnil'
  go_enter Try.func3, Try.ntmps3
  go_wp2_with fail
  refine (bytes_any a a' n m c c' L M cut _ HL.out.1 HM.out.1 HL.out.2.1 HM.out.2).mono ?_
  rintro e w' ⟨⟨b, rfl⟩, rfl⟩
  cases b with
  | false =>
    go_wp2_with fail
    go_ret
    exact ⟨rfl, Below.refl _ _⟩
  | true =>
    by_cases hn4 : 4096 < n
    · go_wp2_with fail
      go_ret
      exact ⟨rfl, Below.refl _ _⟩
    have hn4' : (n : Int) ≤ 4096 := by omega
    by_cases hm4 : 65536 < m
    · go_wp2_with fail
      go_ret
      exact ⟨rfl, Below.refl _ _⟩
    have hm4' : (m : Int) ≤ 65536 := by omega
    go_wp2_with fail
    go_loop [7, 8] (fun z i => ∃ (t : Int) (k : Nat), z = .int .i64 t ∧ i = .int .i64 (k : Int) ∧ k ≤ n) (fun _ i => n - (intOf i).toNat)
    case atStart => exact ⟨_, 0, rfl, rfl, Nat.zero_le _⟩
    case round =>
      obtain ⟨t, k, rfl, rfl, hk⟩ := hrel
      by_cases hlt : k < n
      · obtain ⟨b, o, ha, c0, c1⟩ := HL.out.2.1 k (by have := HL.out.1; omega)
        subst ha
        go_wp2
        case roundEnd => exact ⟨⟨_, k + 1, rfl, by go_num, by omega⟩, by simp [intOf]; omega⟩
        all_goals
          go_ret
          exact ⟨rfl, Below.refl _ _⟩
      · go_wp2
        go_loop [7, 9] (fun z i => ∃ (t : Int) (k : Nat), z = .int .i64 t ∧ i = .int .i64 (k : Int) ∧ k ≤ m) (fun _ i => m - (intOf i).toNat)
        case atStart => exact ⟨_, 0, rfl, rfl, Nat.zero_le _⟩
        case round =>
          obtain ⟨t, j, rfl, rfl, hj⟩ := hrel
          by_cases hlt' : j < m
          · obtain ⟨b, o, ha, c0, c1, c2, c3, c4, c5, c6, c7, c8, c9, c10⟩ := HM.out.2 j (by have := HM.out.1; omega)
            subst ha
            clear c0 c5 c6 c7 c8 c9
            go_wp2
            case roundEnd => exact ⟨⟨_, j + 1, rfl, by go_num, by omega⟩, by simp [intOf]; omega⟩
            all_goals
              go_ret
              exact ⟨rfl, Below.refl _ _⟩
          · by_cases hc0 : cut < 0
            · go_wp2
              go_ret
              exact ⟨rfl, Below.refl _ _⟩
            by_cases hc1 : (n : Int) < cut
            · go_wp2
              go_ret
              exact ⟨rfl, Below.refl _ _⟩
            obtain ⟨q, rfl⟩ : ∃ q : Nat, cut = (q : Int) := ⟨cut.toNat, by omega⟩
            have hq : q ≤ n := by omega
            clear hc0 hc1 hlt hk hj
            have hne := fun w => run_neq_slice_nil_any (P := Try.prog) w 22 26 a n c 0 0 Try.underlying22
            have hne' := fun w => run_neq_slice_nil_any (P := Try.prog) w 23 28 a' m c' 0 0 Try.underlying23
            go_upto_if 124 with fail
            clear hlt'
            go_cut [10] (fun v wx => ∃ (a1 : Option Addr) (c1 : Nat), v = .slice a1 n c1 ∧ n ≤ c1 ∧ c1 ≤ 4096 ∧ rolesAt wx a1 L ∧ Below w'.heap.size w' wx)
            case first =>
              rename_i Qa big4 Qb Ka big3 hh Kb big2 J K' hJ hMt
              exact copyRoles_wp HL HNIL.out.1 hn4' hJ hMt
            case rest =>
              obtain ⟨a1, c1, rfl, hc1, hc2, hr1, hb1⟩ := hcut
              obtain ⟨W1, hW1⟩ : ∃ W1, W1 = wc := ⟨_, rfl⟩
              subst hW1
              have HR1 : Hid (rolesAt W1 a1 L) := hr1
              clear hr1
              go_upto_if 149 with fail
              go_cut [12] (fun v wx => ∃ (a2 : Option Addr) (c2 : Nat), v = .slice a2 m c2 ∧ Below W1.heap.size W1 wx)
              case first =>
                rename_i Qa big4 Qb Ka big3 hh Kb big2 J K' hJ hMt
                exact copyAttrs_wp HM HNIL.out.2 hm4' hb1 hJ hMt
              case rest =>
                obtain ⟨a2, c2, rfl, hb2⟩ := hcut
                have hbw : Below w'.heap.size w' wc := hb1.trans (hb2.mono hb1.size)
                have hr := rolesAt_below HR1.out hb2
                have hra := rolesAt_below HL.out.2.1 hbw
                obtain ⟨hnL, _, hok⟩ := HL.out
                have hsl := slice_lo a1 n c1 q (by omega)
                obtain ⟨a3, ha3⟩ : ∃ a3, a3 = (if c1 = q then a1 else a1.map (·.add (q * 2))) := ⟨_, rfl⟩
                have hsh := slice_hi a1 n c1 q hq
                rw [← ha3] at hsh
                have HA3 : Hid (a3 = (if c1 = q then a1 else a1.map (·.add (q * 2)))) := ha3
                clear ha3
                have hmn := fun (w : World) (B : Nat) => run_eql_map_nil (P := Try.prog) w 37 30 9 (some B) Try.underlying37
                have HS : Hid (n = L.length ∧ rolesAt wc a1 L ∧ rolesAt wc a L ∧ okRoles L) := ⟨hnL, hr, hra, hok⟩
                clear hnL hr hra hok HL HM HNIL HR1
                as_aux_lemma =>
                  go_wp2_with fail
                  refine (names_any a1 a2 n c1 m c2 L _ HS.out.1 (by omega) HS.out.2.1 HS.out.2.2.2).mono ?_
                  rintro e w3 ⟨B3, rfl, hB3, hown3, hb3⟩
                  have H3 : Hid (w3.ownsMap Try.prog 30 (plainElem Try.prog 9) B3 n (mapOf L) ∧ wc.heap.size ≤ B3) := ⟨hown3, hB3⟩
                  clear hown3
                  as_aux_lemma =>
                    go_wp2_with fail
                    refine (names_any a1 a2 q c1 m c2 (L.take q) _ (by rw [List.length_take, ← HS.out.1]; omega) (by omega) (roles_lo (rolesAt_below HS.out.2.1 hb3) q) (fun p hp => HS.out.2.2.2 p (List.mem_of_mem_take hp))).mono ?_
                    rintro e w4 ⟨B4, rfl, hB4, hown4, hb4⟩
                    have H4 : Hid (w4.ownsMap Try.prog 30 (plainElem Try.prog 9) B4 q (mapOf (L.take q)) ∧ w3.heap.size ≤ B4) := ⟨hown4, hB4⟩
                    clear hown4
                    have hb34 := hb3.trans (hb4.mono hb3.size)
                    as_aux_lemma =>
                      go_wp2_with fail
                      refine (names_any a3 a2 (n - q) (c1 - q) m c2 (L.drop q) _ (by rw [List.length_drop, ← HS.out.1]) (by omega) (by rw [HA3.out]; exact roles_hi (rolesAt_below HS.out.2.1 hb34) HS.out.1 hc1 q) (fun p hp => HS.out.2.2.2 p (List.mem_of_mem_drop hp))).mono ?_
                      rintro e w5 ⟨B5, rfl, hB5, hown5, hb5⟩
                      have hb35 := hb34.trans (hb5.mono hb34.size)
                      have o3 : w5.ownsMap Try.prog 30 (plainElem Try.prog 9) B3 n (mapOf L) := ownsMap_below (ownsMap_below H3.out.1 hb4 H3.out.1.lt) hb5 (Nat.lt_of_lt_of_le H3.out.1.lt hb4.size)
                      have o4 : w5.ownsMap Try.prog 30 (plainElem Try.prog 9) B4 q (mapOf (L.take q)) := ownsMap_below H4.out.1 hb5 H4.out.1.lt
                      have ra5 := rolesAt_below HS.out.2.2.1 hb35
                      have H5 : Hid (w5.ownsMap Try.prog 30 (plainElem Try.prog 9) B3 n (mapOf L) ∧ w5.ownsMap Try.prog 30 (plainElem Try.prog 9) B4 q (mapOf (L.take q)) ∧ w5.ownsMap Try.prog 30 (plainElem Try.prog 9) B5 (n - q) (mapOf (L.drop q)) ∧ rolesAt w5 a L) := ⟨o3, o4, hown5, ra5⟩
                      clear o3 o4 hown5 ra5 H3 H4 hsl hsh hB3 hB4 hB5
                      have hbT : Below w'.heap.size w' w5 := hbw.trans (hb35.mono hbw.size)
                      clear hb1 hb2 hbw hb3 hb4 hb34 hb5 hb35
                      as_aux_lemma =>
                        go_wp2_with fail
                        have hw1 := wins_any B3 n a n c 0 n L w5 HS.out.1 (by omega) H5.out.2.2.2 HS.out.2.2.2 (Nat.zero_le _) (Nat.le_refl _) (by rw [seg_all L HS.out.1]; exact H5.out.1)
                        refine hw1.mono ?_
                        clear hw1
                        rintro e w6 ⟨rfl, x6, rfl⟩
                        as_aux_lemma =>
                          go_wp2_with fail
                          have hw2 := wins_any B4 q a n c 0 q L (w5.drewN x6) HS.out.1 (by omega) (rolesAt_drewN H5.out.2.2.2 x6) HS.out.2.2.2 (Nat.zero_le _) hq (ownsMap_drewN (by rw [seg_take]; exact H5.out.2.1) x6)
                          refine hw2.mono ?_
                          clear hw2
                          rintro e w7 ⟨rfl, x7, rfl⟩
                          as_aux_lemma =>
                            go_wp2_with fail
                            have hw3 := wins_any B5 (n - q) a n c q n L (w5.drewN (x6 + x7)) HS.out.1 (by omega) (rolesAt_drewN H5.out.2.2.2 _) HS.out.2.2.2 hq (Nat.le_refl _) (ownsMap_drewN (by rw [seg_drop L HS.out.1 q]; exact H5.out.2.2.1) _)
                            refine hw3.mono ?_
                            clear hw3
                            rintro e w8 ⟨rfl, x8, hw8⟩
                            have hbE : Below w'.heap.size w' w8 := by rw [hw8]; exact below_drewN (below_drewN hbT _) _
                            have r8 : rolesAt w8 a L := by rw [hw8]; exact rolesAt_drewN (rolesAt_drewN H5.out.2.2.2 _) _
                            have o3 : w8.ownsMap Try.prog 30 (plainElem Try.prog 9) B3 n (mapOf L) := by rw [hw8]; exact ownsMap_drewN (ownsMap_drewN H5.out.1 _) _
                            have o4 : w8.ownsMap Try.prog 30 (plainElem Try.prog 9) B4 q (mapOf (L.take q)) := by rw [hw8]; exact ownsMap_drewN (ownsMap_drewN H5.out.2.1 _) _
                            have o5 : w8.ownsMap Try.prog 30 (plainElem Try.prog 9) B5 (n - q) (mapOf (L.drop q)) := by rw [hw8]; exact ownsMap_drewN (ownsMap_drewN H5.out.2.2.1 _) _
                            have H8 : Hid (rolesAt w8 a L ∧ w8.ownsMap Try.prog 30 (plainElem Try.prog 9) B3 n (mapOf L) ∧ w8.ownsMap Try.prog 30 (plainElem Try.prog 9) B4 q (mapOf (L.take q)) ∧ w8.ownsMap Try.prog 30 (plainElem Try.prog 9) B5 (n - q) (mapOf (L.drop q))) := ⟨r8, o3, o4, o5⟩
                            clear r8 o3 o4 o5 hw8 H5 hbT
                            as_aux_lemma =>
                              go_wp2_with fail
                              go_loop [18] (fun i => ∃ x : Nat, x ≤ n ∧ i = .int .i64 (x : Int)) (fun i => n - (intOf i).toNat)
                              case atStart => exact ⟨0, Nat.zero_le _, rfl⟩
                              case round =>
                                obtain ⟨x, hx, rfl⟩ := hrel
                                by_cases hxn : x < n
                                · have hxL : x < L.length := by have := HS.out.1; omega
                                  obtain ⟨b, o, ha, c0, _⟩ := H8.out.1 x hxL
                                  have hwf := (HS.out.2.2.2 _ (List.getElem_mem hxL)).1
                                  have l3 := look_is (R := L.reverse) H8.out.2.1 L[x].1 hwf
                                  have l4 := look_is (R := (L.take q).reverse) H8.out.2.2.1 L[x].1 hwf
                                  have l5 := look_is (R := (L.drop q).reverse) H8.out.2.2.2 L[x].1 hwf
                                  have hsp := last_append (L.take q) (L.drop q) L[x].1
                                  rw [List.take_append_drop] at hsp
                                  have hha := has_append (L.take q) (L.drop q) L[x].1
                                  rw [List.take_append_drop] at hha
                                  have hall : hasR L L[x].1 = true := List.any_eq_true.2 ⟨L[x], List.getElem_mem hxL, by simp⟩
                                  rw [has_rev] at l3 l4 l5
                                  rw [hall] at l3
                                  obtain ⟨N, hN⟩ : ∃ N, N = nameR L.reverse L[x].1 := ⟨_, rfl⟩
                                  rw [← hN] at l3
                                  subst ha
                                  cases hright : hasR (L.drop q) L[x].1 with
                                  | true =>
                                    have : nameR (L.drop q).reverse L[x].1 = N := by rw [hN]; rw [hright, if_pos rfl] at hsp; exact hsp.symm
                                    rw [hright, this] at l5
                                    clear l4 hsp hha hall hN hright this hwf
                                    go_wp2_with fail
                                    exact ⟨⟨x + 1, by omega, by go_num⟩, by simp [intOf]; omega⟩
                                  | false =>
                                    have h4 : hasR (L.take q) L[x].1 = true := by rw [hall, hright, Bool.or_false] at hha; exact hha.symm
                                    have : nameR (L.take q).reverse L[x].1 = N := by rw [hN]; rw [hright, if_neg (by decide)] at hsp; exact hsp.symm
                                    rw [h4, this] at l4
                                    rw [hright] at l5
                                    clear hsp hha hall hN hright this hwf h4
                                    go_wp2_with fail
                                    exact ⟨⟨x + 1, by omega, by go_num⟩, by simp [intOf]; omega⟩
                                · go_wp2_with fail
                                  go_ret
                                  exact ⟨rfl, hbE⟩
end Go.Proofs.Qxb6617593a
