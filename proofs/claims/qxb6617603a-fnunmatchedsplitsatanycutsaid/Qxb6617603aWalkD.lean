/-
  A checker, and what is unmatched in it.
-/
import Derived.Test.Qxb6617603aPlain
import Derived.Test.Qxb6617603aWalkC
import Derived.OwnWalk
namespace Go.Proofs.Qxb6617603a
open Go.RowKit

theorem checker_any (a ma : Option Addr) (n c m mc : Nat) (w : World) :
    Calls Try.prog 8 #[.slice a n c, .slice ma m mc] w fun e w' => e = .returned (.pointer (some ⟨w.heap.size, 0, none⟩)) ∧ w' = w.alloc (.cells #[.slice a n c, .map none, .slice none 0 0, .slice ma m mc] 41) := by
  go_enter Try.func8, Try.ntmps8
  go_wp2
  go_ret
  exact ⟨rfl, rfl⟩

/-- An entry as it lies: the hash's own slice beside it. -/
abbrev Raw := Ent × Option Addr × Nat
def rawCells (r : Raw) : List Value := [.string r.1.name, .bool r.1.has, .slice r.2.1 r.1.hash.length r.2.2]
theorem raw_get (R : List Raw) : ∀ (i j : Nat) (h : i < R.length), j < 3 → (R.flatMap rawCells)[i * 3 + j]? = (rawCells R[i])[j]? := by
  induction R with
  | nil => intro i j h; simp at h
  | cons r R ih =>
    intro i j h hj
    rw [List.flatMap_cons]
    cases i with
    | zero => rw [List.getElem?_append_left (by simp [rawCells]; omega)]; simp
    | succ i =>
      rw [List.getElem?_append_right (by simp [rawCells]; omega)]
      have := ih i j (by simpa using h) hj
      simp only [List.getElem_cons_succ]
      rw [← this]
      congr 1
      simp [rawCells]
      omega
theorem raw_length (R : List Raw) : (R.flatMap rawCells).length = R.length * 3 := by
  induction R with
  | nil => rfl
  | cons r R ih => rw [List.flatMap_cons, List.length_append, ih]; simp [rawCells]; omega
/-- What the row of the call's own says of the entries. -/
theorem owned_ents {w w' : World} {base : Nat} {v : Value} {R : List Raw} (ho : w'.ownsRow base 34 3 v R.length (R.flatMap rawCells)) (hb : Below w.heap.size w w') (hR : ∀ r ∈ R, bytesAt w r.2.1 r.1.hash ∧ (r.2.1 = none → r.1.hash = [])) :
    ∃ (a : Option Addr) (c : Nat), v = .slice a R.length c ∧ entsAt w' a (R.map (·.1)) := by
  obtain ⟨_, h⟩ := ho
  rcases h with ⟨rfl, h0⟩ | ⟨g, cap, cur, rfl, _, hg, _, _, hcs, htake⟩
  · refine ⟨none, 0, by rw [h0], fun i hi => ?_⟩
    simp at hi; omega
  refine ⟨some ⟨g, 0, none⟩, cap, rfl, fun i hi => ?_⟩
  have hi' : i < R.length := by simpa using hi
  have cell : ∀ j, j < 3 → w'.cell? ⟨g, i * 3 + j, none⟩ = (rawCells R[i])[j]? := fun j hj => by
    rw [← raw_get R i j hi' hj, ← htake, List.getElem?_take, if_pos (by omega)]
    simp [World.cell?, hg]
  obtain ⟨hb1, hb2⟩ := hR _ (List.getElem_mem hi')
  refine ⟨g, 0, rfl, R[i].2.1, R[i].2.2, ?_, ?_, ?_, ?_, ?_⟩
  · have := cell 0 (by decide); simpa [rawCells] using this
  · have := cell 1 (by decide); simpa [rawCells] using this
  · have := cell 2 (by decide); simpa [rawCells] using this
  · simpa using bytesAt_below hb hb1
  · simpa using hb2
theorem own_ge {w : World} {base n sz : Nat} {e : TypeId} {v : Value} {xs : List Value} (h : w.ownsRow base e sz v n xs) : ∀ k, v.ownBlock = some k → base ≤ k := by
  intro k hk
  rcases h.2 with ⟨rfl, _⟩ | ⟨g, cap, cur, rfl, hg, _⟩
  · cases hk
  · cases hk; exact hg
theorem cell_three_new (w : World) (x y z : Value) (t : TypeId) (s : Nat) (hs : s = w.heap.size) : ∀ j u, [x, y, z][j]? = some u → (w.alloc (.cells #[x, y, z] t)).cell? (Addr.add ⟨s, 0, none⟩ j) = some u := by
  subst hs
  intro j u hj
  match j, hj with
  | 0, hj => simp at hj; subst hj; simp [Addr.add]
  | 1, hj => simp at hj; subst hj; simp [Addr.add]
  | 2, hj => simp at hj; subst hj; simp [Addr.add]
theorem info34' : (Try.prog.info? 34).map (fun i => (i.zero, i.size, i.bytes)) = some (some (.agg #[.string ⟨#[]⟩, .bool false, .slice none 0 0]), 3, 48) := by kernel_rfl

set_option maxRecDepth 100000 in
set_option maxHeartbeats 2000000 in
theorem unmatched_any (cb : Nat) (a ma : Option Addr) (n c m mc : Nat) (L : List Ent) (bs : List Bool) (w : World) (hn : n = L.length) (hm : m = bs.length) (hnm : n ≤ m) (hmax : n ≤ 65536) (hL : entsAt w a L) (hB : boolsAt w ma bs)
    (k0 : w.cell? ⟨cb, 0, none⟩ = some (.slice a n c)) (k3 : w.cell? ⟨cb, 3, none⟩ = some (.slice ma m mc)) :
    Calls Try.prog 10 #[.pointer (some ⟨cb, 0, none⟩)] w fun e w' => entsPost w (keep L bs) e w' := by
  have HL : Hid (n = L.length ∧ m = bs.length ∧ entsAt w a L ∧ boolsAt w ma bs) := ⟨hn, hm, hL, hB⟩
  have HK : Hid (w.cell? ⟨cb, 3, none⟩ = some (.slice ma m mc)) := k3
  obtain ⟨i0, hi, hz0, hz1, hz2⟩ := info_parts info34'
  clear hn hm hL hB k3
  go_enter Try.func10, Try.ntmps10
  go_wp2
  go_loopw [3, 11] (fun v i wr => ∃ (x : Nat) (R : List Raw), x ≤ n ∧ i = .int .i64 (x : Int) ∧ R.map (·.1) = keep (L.take x) (bs.take x) ∧ (∀ r ∈ R, bytesAt w r.2.1 r.1.hash ∧ (r.2.1 = none → r.1.hash = [])) ∧ wr.ownsRow w.heap.size 34 3 v R.length (R.flatMap rawCells) ∧ Below w.heap.size w wr) (fun _ i _ => n - (intOf i).toNat)
  case atStart => exact ⟨0, [], Nat.zero_le _, rfl, by simp [keep], (fun r hr => absurd hr List.not_mem_nil), ⟨rfl, Or.inl ⟨rfl, rfl⟩⟩, Below.refl _ _⟩
  case round =>
    clear k0
    obtain ⟨x, R, hx, rfl, hR, hRb, hown, hbel⟩ := hrel
    have hRl : R.length ≤ x := by
      have h1 := keep_le (L.take x) (bs.take x)
      rw [← hR, List.length_map, List.length_take] at h1; omega
    have HR : Hid (R.map (·.1) = keep (L.take x) (bs.take x) ∧ (∀ r ∈ R, bytesAt w r.2.1 r.1.hash ∧ (r.2.1 = none → r.1.hash = []))) := ⟨hR, hRb⟩
    clear hR hRb
    by_cases hlt : x < n
    · obtain ⟨hn, hm, hL, hB⟩ := HL.out
      have hxL : x < L.length := by omega
      have hxB : x < bs.length := by omega
      obtain ⟨b, o, ha, hE⟩ := hL x hxL
      obtain ⟨h, c2, d0, d1, d2, hby, hnil⟩ := hE
      have c0 := cell_below hbel d0
      have c1 := cell_below hbel d1
      have c2' := cell_below hbel d2
      obtain ⟨mb, mo, hma, m0⟩ := boolsAt_below hbel hB x hxB
      have k3' := cell_below hbel HK.out
      have HE : Hid (bytesAt w h L[x].hash ∧ (h = none → L[x].hash = [])) := ⟨hby, hnil⟩
      have hcbw : cb < w.heap.size := cell_lt HK.out
      have hcb2 : cb < wr.heap.size := Nat.lt_of_lt_of_le hcbw hbel.size
      have hmb2 : mb < wr.heap.size := cell_lt m0
      have hws := hbel.size
      have hsn := keep_snoc L bs x hxL hxB
      have HSN : Hid (keep (L.take (x + 1)) (bs.take (x + 1)) = keep (L.take x) (bs.take x) ++ (if bs[x] = true then [] else [L[x]])) := hsn
      subst ha
      subst hma
      clear hn hm hL hB d0 d1 d2 hby hnil hsn
      cases hbx : bs[x] with
      | true =>
        rw [hbx] at m0
        have hs2 := HSN.out
        rw [hbx, if_pos rfl, List.append_nil] at hs2
        have HS2 : Hid (keep (L.take (x + 1)) (bs.take (x + 1)) = keep (L.take x) (bs.take x)) := hs2
        clear hs2 HSN hbx
        go_wp2
        exact ⟨⟨x + 1, R, by omega, by go_num, by rw [HS2.out]; exact HR.out.1, HR.out.2, hown.alloc _, hbel.alloc hbel.size _⟩, by simp [intOf]; omega⟩
      | false =>
        rw [hbx] at m0
        have hs2 := HSN.out
        rw [hbx, if_neg (by decide)] at hs2
        have HS2 : Hid (keep (L.take (x + 1)) (bs.take (x + 1)) = keep (L.take x) (bs.take x) ++ [L[x]]) := hs2
        clear hs2 HSN hbx
        go_wp2_with (first | (at_builtin; refine wpList_append_own _ rfl _ _ 26 rfl w.heap.size 34 i0 (.agg #[.string ⟨#[]⟩, .bool false, .slice none 0 0]) 3 48 Try.underlying26 hi hz0 hz1 hz2 rfl (by decide) _ R.length (R.flatMap rawCells) rfl ((hown.alloc _).alloc _) ⟨wr.heap.size + 1, 0, none⟩ 1 1 [.string L[x].name, .bool L[x].has, .slice h L[x].hash.length c2] rfl rfl (cell_three_new _ _ _ _ _ _ (by simp)) (by intro u hu; simp at hu; rcases hu with rfl | rfl | rfl <;> rfl) (by unfold maxLen; omega) (by omega) (by simp; omega) ?_; intro v3 w3 hown3 hgrow3 hnil3) | go_in)
        have hb3 := ((hbel.alloc hbel.size (.cells #[.string L[x].name, .bool L[x].has, .slice h L[x].hash.length c2] 34)).alloc (Nat.le_trans hbel.size (by simp)) (.cells #[.string L[x].name, .bool L[x].has, .slice h L[x].hash.length c2] 34)).grown hgrow3 (Nat.le_trans hbel.size (by simp; omega)) (own_ge hown)
        refine ⟨⟨x + 1, R ++ [(L[x], h, c2)], by omega, by go_num, ?_, ?_, ?_, hb3⟩, by simp [intOf]; omega⟩
        · rw [HS2.out, List.map_append, HR.out.1]; rfl
        · intro r hr
          rcases List.mem_append.1 hr with hr | hr
          · exact HR.out.2 r hr
          · obtain rfl := List.mem_singleton.1 hr; exact HE.out
        · rw [List.length_append, List.flatMap_append]; exact hown3
    · have hxn : x = n := by omega
      subst hxn
      go_wp2
      go_ret
      obtain ⟨a1, c1, hv, hent⟩ := owned_ents hown hbel HR.out.2
      have hk : R.map (·.1) = keep L bs := by
        rw [HR.out.1, List.take_of_length_le (by have := HL.out.1; omega)]
        rw [show x = L.length from HL.out.1]
        exact keep_take L bs
      rw [hk] at hent
      have hlen : R.length = (keep L bs).length := by rw [← hk, List.length_map]
      exact ⟨a1, c1, by rw [← hlen]; exact congrArg Ending.returned hv, hent, hbel⟩
end Go.Proofs.Qxb6617603a
