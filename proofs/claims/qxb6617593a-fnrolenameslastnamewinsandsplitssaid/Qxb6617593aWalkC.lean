/-
  zzLastNameWins: it says true of a map that was filled from the very roles.
-/
import Derived.Test.Qxb6617593aBase
import Derived.Deep.QuietTactic
import Derived.BigQuiet
namespace Go.Proofs.Qxb6617593a
open Go.RowKit Go.Maps

theorem rolesAt_drewN {w : World} {a : Option Addr} {L : List Role} (h : rolesAt w a L) (q : Nat) : rolesAt (w.drewN q) a L := rolesAt_below h (below_drewN (Below.refl _ _) q)
theorem ownsMap_drewN {w : World} {b n : Nat} {D : DataW Unit} (h : w.ownsMap Try.prog 30 (plainElem Try.prog 9) b n D) (q : Nat) : (w.drewN q).ownsMap Try.prog 30 (plainElem Try.prog 9) b n D :=
  ownsMap_below h (below_drewN (Below.refl (b + 1) _) q) (Nat.lt_succ_self _)

set_option maxRecDepth 100000 in
set_option maxHeartbeats 4000000 in
theorem wins_any (B n' : Nat) (a : Option Addr) (n c lo hi : Nat) (L : List Role) (w : World) (hn : n = L.length) (hmax : n ≤ 4096) (hL : rolesAt w a L) (hok : okRoles L) (h1 : lo ≤ hi) (h2 : hi ≤ n)
    (hown : w.ownsMap Try.prog 30 (plainElem Try.prog 9) B n' (mapOf (seg L lo hi))) :
    Calls Try.prog 6 #[.map (some B), .slice a n c, .int .i64 (lo : Int), .int .i64 (hi : Int)] w fun e w' => e = .returned (.bool true) ∧ ∃ q, w' = w.drewN q := by
  have HL : Hid (n = L.length ∧ rolesAt w a L ∧ okRoles L) := ⟨hn, hL, hok⟩
  have HO : Hid (w.ownsMap Try.prog 30 (plainElem Try.prog 9) B n' (mapOf (seg L lo hi))) := hown
  have hlen := fun (q : Nat) (ty : TypeId) => (ownsMap_drewN hown q).len Try.underlying37 ty
  clear hn hL hok hown
  go_enter Try.func6, Try.ntmps6
  go_wp2
  go_loopw [9, 10] (fun d i wr => ∃ k : Nat, lo ≤ k ∧ k ≤ hi ∧ i = .int .i64 (k : Int) ∧ d = .int .i64 (Maps.size (mapOf (seg L lo k)) : Int) ∧ ∃ q, wr = w.drewN q) (fun _ i _ => hi - (intOf i).toNat)
  case atStart => exact ⟨lo, Nat.le_refl _, h1, rfl, by rw [seg_self]; rfl, 0, rfl⟩
  case round =>
    obtain ⟨k, hk1, hk2, rfl, rfl, q, rfl⟩ := hrel
    have hsz : (Maps.size (mapOf (seg L lo k)) : Int) ≤ 4096 := by have := size_le L lo k; have := HL.out.1; omega
    by_cases hlt : k < hi
    · go_wp2
      go_loopw [11, 12] (fun f j wr => f = .bool true ∧ ∃ j' : Nat, lo ≤ j' ∧ j' ≤ k ∧ j = .int .i64 (j' : Int) ∧ (∀ x, ∀ h : x < L.length, lo ≤ x → x < j' → ∀ h' : k < L.length, ¬ L[x].1 = L[k].1) ∧ ∃ q, wr = w.drewN q) (fun _ j _ => k - (intOf j).toNat)
      case atStart => exact ⟨rfl, lo, Nat.le_refl _, hk1, rfl, fun x _ g1 g2 => by omega, q, rfl⟩
      case round =>
        obtain ⟨rfl, j, hj1, hj2, rfl, hno, q2, rfl⟩ := hrel
        have HNO : Hid (∀ x, ∀ h : x < L.length, lo ≤ x → x < j → ∀ h' : k < L.length, ¬ L[x].1 = L[k].1) := hno
        clear hno
        obtain ⟨hn, hL, hok⟩ := HL.out
        have hkL : k < L.length := by omega
        have HN : Hid (n = L.length) := hn
        clear hn hok
        by_cases hj : j < k
        · have hjL : j < L.length := by omega
          obtain ⟨b, o, ha, c0, c1⟩ := hL k hkL
          obtain ⟨b', o', ha', d0, d1⟩ := hL j hjL
          subst ha
          obtain ⟨rfl, rfl⟩ : b = b' ∧ o = o' := by simpa using ha'
          clear ha' hL
          have hkn : (k : Int) < (n : Int) := by omega
          have hjn : (j : Int) < (n : Int) := by omega
          by_cases he : L[j].1 = L[k].1
          · have hb : (L[j].1 == L[k].1) = true := by simpa using he
            have HE : Hid (Maps.size (mapOf (seg L lo (k + 1))) = Maps.size (mapOf (seg L lo k))) := by
              have := size_snoc L lo k hk1 hkL
              rw [if_pos (has_seg.2 ⟨j, hjL, hj1, hj, he⟩)] at this
              exact this
            clear he
            go_wp2
            go_quiet (fail)
            go_wp2
            exact ⟨⟨k + 1, by omega, by omega, by go_num, by rw [HE.out], _, rfl⟩, by simp [intOf]; omega⟩
          · have hb : (L[j].1 == L[k].1) = false := by simpa using he
            have HE : Hid (¬ L[j].1 = L[k].1) := he
            clear he
            go_wp2
            go_quiet (fail)
            go_wp2
            refine ⟨⟨rfl, j + 1, by omega, by omega, by go_num, fun x hx g1 g2 _ => ?_, _, rfl⟩, by simp [intOf]; omega⟩
            by_cases hxj : x = j
            · subst hxj; exact HE.out
            · exact HNO.out x hx g1 (by omega) hkL
        · have HE : Hid (Maps.size (mapOf (seg L lo (k + 1))) = Maps.size (mapOf (seg L lo k)) + 1) := by
            have := size_snoc L lo k hk1 hkL
            rw [if_neg] at this
            · exact this
            · intro h
              obtain ⟨x, hx, g1, g2, g3⟩ := has_seg.1 h
              exact HNO.out x hx g1 (by omega) hkL g3
          go_wp2
          exact ⟨⟨k + 1, by omega, by omega, by go_num, by rw [HE.out]; go_num, _, rfl⟩, by simp [intOf]; omega⟩
    · have hkh : k = hi := by omega
      subst hkh
      clear hsz
      have hlook : ∀ (q : Nat) (x : Nat) (hx : x < L.length), (Instr.lookup 37 (.map (some B)) (.int .i64 L[x].1) true).run Try.prog (w.drewN q) = .ok (.tuple #[.string (lastName (seg L lo k) L[x].1), .bool (hasR (seg L lo k).reverse L[x].1)]) (w.drewN q) :=
        fun q x hx => look_is (R := (seg L lo k).reverse) (ownsMap_drewN HO.out q) _ (HL.out.2.2 _ (List.getElem_mem hx)).1
      go_wp2
      go_loopw [13] (fun i wr => ∃ i' : Nat, lo ≤ i' ∧ i' ≤ k ∧ i = .int .i64 (i' : Int) ∧ ∃ q, wr = w.drewN q) (fun i _ => k - (intOf i).toNat)
      case atStart => exact ⟨lo, Nat.le_refl _, h1, rfl, q, rfl⟩
      case round =>
        obtain ⟨i, hi1, hi2, rfl, q3, rfl⟩ := hrel
        by_cases hik : i < k
        · have hiL : i < L.length := by have := HL.out.1; omega
          go_wp2
          go_loopw [14, 15] (fun t j wr => t = .string ⟨#[]⟩ ∧ ∃ j' : Nat, i ≤ j' ∧ j' < k ∧ j = .int .i64 (j' : Int) ∧ (∀ x, ∀ h : x < L.length, j' < x → x < k → ¬ L[x].1 = L[i].1) ∧ ∃ q, wr = w.drewN q) (fun _ j _ => (intOf j).toNat)
          case atStart => exact ⟨rfl, k - 1, by omega, by omega, by go_num, fun x _ g1 g2 => by omega, q3, rfl⟩
          case round =>
            obtain ⟨rfl, j, hj1, hj2, rfl, hno, q4, rfl⟩ := hrel
            have HNO : Hid (∀ x, ∀ h : x < L.length, j < x → x < k → ¬ L[x].1 = L[i].1) := hno
            clear hno
            obtain ⟨hn, hL, hok⟩ := HL.out
            have HN : Hid (n = L.length) := hn
            clear hn hok
            have hjL : j < L.length := by have := HN.out; omega
            obtain ⟨b, o, ha, c0, c1⟩ := hL i hiL
            obtain ⟨b', o', ha', d0, d1⟩ := hL j hjL
            subst ha
            obtain ⟨rfl, rfl⟩ : b = b' ∧ o = o' := by simpa using ha'
            clear ha' hL
            have hjn : (j : Int) < (n : Int) := by omega
            have hin : (i : Int) < (n : Int) := by omega
            by_cases he : L[j].1 = L[i].1
            · have hb : (L[j].1 == L[i].1) = true := by simpa using he
              have hlook1 := fun q => hlook q i hiL
              have hlast : lastName (seg L lo k) L[i].1 = L[j].2 := last_hit (L := L) (lo := lo) (hi := k) (j := j) _ (by have := HN.out; omega) (by omega) hj2 he (fun x hx g1 g2 => HNO.out x hx g1 g2)
              have hhas : hasR (seg L lo k).reverse L[i].1 = true := by
                have := has_of (L := L) (lo := lo) (hi := k) i (by have := HN.out; omega) hi1 hik
                simpa [hasR] using this
              simp only [hlast, hhas] at hlook1
              clear hlook hlast hhas he
              go_wp2
              go_quiet (fail)
              go_wp2
              exact ⟨⟨i + 1, by omega, by omega, by go_num, _, rfl⟩, by simp [intOf]; omega⟩
            · have hb : (L[j].1 == L[i].1) = false := by simpa using he
              have hij : i < j := by
                rcases Nat.lt_or_ge i j with h | h
                · exact h
                · exact absurd (by have : i = j := by omega
                                   subst this; rfl) he
              have HE : Hid (¬ L[j].1 = L[i].1) := he
              clear he hlook
              go_wp2
              go_quiet (fail)
              go_wp2
              refine ⟨⟨rfl, j - 1, by omega, by omega, by go_num, fun x hx g1 g2 => ?_, _, rfl⟩, by simp [intOf]; omega⟩
              by_cases hxj : x = j
              · subst hxj; exact HE.out
              · exact HNO.out x hx (by omega) g2
        · go_wp2
          go_ret
          exact ⟨rfl, _, rfl⟩
end Go.Proofs.Qxb6617593a
