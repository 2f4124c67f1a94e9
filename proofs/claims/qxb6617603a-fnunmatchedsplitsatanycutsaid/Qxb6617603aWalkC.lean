/-
  toEntries: the copies.
-/
import Derived.Test.Qxb6617603aWalkB
import Derived.RegionTactic
import Derived.BigRegion
import Derived.Deep.RegionWith
import Derived.Laws.MakeOwn
import Derived.Deep.DeepCutAuto
namespace Go.Proofs.Qxb6617603a
open Go.RowKit

theorem info34 : (Try.prog.info? 34).map (fun i => (i.size, i.bytes, i.zero.isSome)) = some (3, 48, true) := by kernel_rfl
theorem make26 (n : Nat) (hn : n ≤ 65536) (w : World) : ∃ cs : Array Value, cs.size = n * 3 ∧ (Instr.makeSlice 26 (.int .i64 (n : Int)) (.int .i64 (n : Int))).run Try.prog w = .ok (.slice (some ⟨w.heap.size, 0, none⟩) n n) (w.alloc (.cells cs 34)) := by
  obtain ⟨i, hi, hz⟩ := Option.map_eq_some_iff.1 info34
  simp only [Prod.mk.injEq] at hz
  obtain ⟨hs, hb, hz⟩ := hz
  obtain ⟨z, hz⟩ := Option.isSome_iff_exists.1 hz
  have := run_make (P := Try.prog) w 26 34 i z Try.underlying26 hi hz .i64 .i64 n n (by omega) (Int.le_refl _) (by rw [hb]; omega) (by omega)
  rw [hs, Int.toNat_natCast] at this
  exact ⟨_, size_madeCells _ _, this⟩

theorem below_of_drew {w w1 : World} (h : Below w.drew.heap.size w.drew w1) : Below w.heap.size w w1 := ⟨h.os, h.tape, h.output, h.size, h.block⟩
theorem bytesAt_setCell {w : World} {a : Option Addr} {zs : List Int} (h : bytesAt w a zs) {B i : Nat} {v : Value} (hB : ∀ ad, a = some ad → ad.block ≠ B) : bytesAt (w.setCell ⟨B, i, none⟩ v) a zs := fun j hj => by
  obtain ⟨b, o, ha, h0⟩ := h j hj
  refine ⟨b, o, ha, ?_⟩
  rw [← h0]
  have hne := hB _ ha
  exact World.cell?_of_block (Below.heap_setCell w ⟨B, i, none⟩ v b hne)
/-- The first x entries from lo on lie copied in block B; no hash lies in that block. -/
def copied (w : World) (B k lo : Nat) (L : List Ent) (x : Nat) : Prop :=
  ∃ f, w.rowIs B 34 (k * 3) f ∧ ∀ y, ∀ hy : lo + y < L.length, y < x → f (y * 3) = .string L[lo + y].name ∧ f (y * 3 + 1) = .bool L[lo + y].has ∧
    ∃ (h : Option Addr) (c : Nat), f (y * 3 + 2) = .slice h L[lo + y].hash.length c ∧ bytesAt w h L[lo + y].hash ∧ (h = none → L[lo + y].hash = []) ∧ ∀ ad, h = some ad → ad.block ≠ B

theorem copied_step {w w1 : World} {B k lo x : Nat} {L : List Ent} (h : copied w B k lo L x) (hb : Below w.heap.size w w1) (hx : lo + x < L.length) {a : Option Addr} {c : Nat} (hby : bytesAt w1 a L[lo + x].hash) (hnil : a = none → L[lo + x].hash = [])
    (ho : ∀ ad, a = some ad → w.heap.size ≤ ad.block) :
    copied (((w1.setCell ⟨B, x * 3, none⟩ (.string L[lo + x].name)).setCell ⟨B, x * 3 + 1, none⟩ (.bool L[lo + x].has)).setCell ⟨B, x * 3 + 2, none⟩ (.slice a L[lo + x].hash.length c)) B k lo L (x + 1) := by
  obtain ⟨f, hr, hf⟩ := h
  have hlt := hr.lt
  have hr1 : w1.rowIs B 34 (k * 3) f := hr.of_block (hb.block B hlt)
  refine ⟨_, ((hr1.set (x * 3) _).set (x * 3 + 1) _).set (x * 3 + 2) _, fun y hy hyx => ?_⟩
  by_cases e : y = x
  · subst e
    refine ⟨?_, ?_, a, c, ?_, ?_, hnil, ?_⟩
    · show (if y * 3 = y * 3 + 2 then _ else if y * 3 = y * 3 + 1 then _ else if y * 3 = y * 3 then _ else _) = _
      rw [if_neg (by omega), if_neg (by omega), if_pos rfl]
    · show (if y * 3 + 1 = y * 3 + 2 then _ else if y * 3 + 1 = y * 3 + 1 then _ else _) = _
      rw [if_neg (by omega), if_pos rfl]
    · show (if y * 3 + 2 = y * 3 + 2 then _ else _) = _
      rw [if_pos rfl]
    · have hne : ∀ ad, a = some ad → ad.block ≠ B := fun ad h => by have := ho ad h; omega
      exact bytesAt_setCell (bytesAt_setCell (bytesAt_setCell hby hne) hne) hne
    · exact fun ad h => by have := ho ad h; omega
  · obtain ⟨q0, q1, h', c', q2, q3, q4, q5⟩ := hf y hy (by omega)
    refine ⟨?_, ?_, h', c', ?_, ?_, q4, q5⟩
    · show (if y * 3 = x * 3 + 2 then _ else if y * 3 = x * 3 + 1 then _ else if y * 3 = x * 3 then _ else _) = _
      rw [if_neg (by omega), if_neg (by omega), if_neg (by omega)]; exact q0
    · show (if y * 3 + 1 = x * 3 + 2 then _ else if y * 3 + 1 = x * 3 + 1 then _ else if y * 3 + 1 = x * 3 then _ else _) = _
      rw [if_neg (by omega), if_neg (by omega), if_neg (by omega)]; exact q1
    · show (if y * 3 + 2 = x * 3 + 2 then _ else if y * 3 + 2 = x * 3 + 1 then _ else if y * 3 + 2 = x * 3 then _ else _) = _
      rw [if_neg (by omega), if_neg (by omega), if_neg (by omega)]; exact q2
    · exact bytesAt_setCell (bytesAt_setCell (bytesAt_setCell (bytesAt_below hb q3) q5) q5) q5
theorem copied_ents {w : World} {B k lo : Nat} {L : List Ent} (h : copied w B k lo L k) (hk : lo + k ≤ L.length) : entsAt w (some ⟨B, 0, none⟩) ((L.take (lo + k)).drop lo) := by
  intro i hi
  obtain ⟨f, hr, hf⟩ := h
  have hi' : i < k := by simp at hi; omega
  obtain ⟨q0, q1, h', c', q2, q3, q4, _⟩ := hf i (by omega) hi'
  have e : ((L.take (lo + k)).drop lo)[i] = L[lo + i]'(by omega) := by simp
  refine ⟨B, 0, rfl, ?_⟩
  rw [e]
  refine ⟨h', c', ?_, ?_, ?_, q3, q4⟩
  · rw [Nat.zero_add, hr.cell (i := i * 3) (by omega), q0]
  · rw [Nat.zero_add, hr.cell (i := i * 3 + 1) (by omega), q1]
  · rw [Nat.zero_add, hr.cell (i := i * 3 + 2) (by omega), q2]
/-- What a maker of entries hands back. -/
def entsPost (w : World) (L : List Ent) (e : Ending) (w' : World) : Prop :=
  ∃ (a : Option Addr) (c : Nat), e = .returned (.slice a L.length c) ∧ entsAt w' a L ∧ Below w.heap.size w w'

set_option maxRecDepth 100000 in
set_option maxHeartbeats 2000000 in
theorem entries_any (a : Option Addr) (n c lo hi : Nat) (L : List Ent) (w : World) (hn : n = L.length) (hL : entsAt w a L) (h1 : lo ≤ hi) (h2 : hi ≤ n) (h3 : n ≤ 65536) (hsm : ∀ i, ∀ h : i < L.length, L[i].hash.length ≤ 1048576) :
    Calls Try.prog 9 #[.slice a n c, .int .i64 (lo : Int), .int .i64 (hi : Int)] w fun e w' => entsPost w ((L.take hi).drop lo) e w' := by
  have HL : Hid (n = L.length ∧ entsAt w a L ∧ ∀ i, ∀ h : i < L.length, L[i].hash.length ≤ 1048576) := ⟨hn, hL, hsm⟩
  clear hn hL hsm
  obtain ⟨k, hk⟩ : ∃ k, hi = lo + k := ⟨hi - lo, by omega⟩
  have hsub : (hi : Int) - (lo : Int) = (k : Int) := by omega
  have HK : Hid (hi = lo + k) := hk
  have hkn : lo + k ≤ n := by omega
  clear hk
  obtain ⟨cs, hcs, hmk⟩ := make26 k (by omega) w
  go_enter Try.func9, Try.ntmps9
  go_wp2
  go_loopw [8] (fun i wr => ∃ x : Nat, x ≤ k ∧ i = .int .i64 (x : Int) ∧ copied wr w.heap.size k lo L x ∧ Below w.heap.size w wr) (fun i _ => k - (intOf i).toNat)
  case atStart =>
    refine ⟨0, Nat.zero_le _, rfl, ⟨fun i => cs.getD i undef, ?_, fun y _ h => absurd h (Nat.not_lt_zero _)⟩, (Below.refl _ _).alloc (Nat.le_refl _) _⟩
    have := World.rowIs_alloc w cs 34 (fun i => cs.getD i undef) (fun i hi => by simp [hi])
    rw [hcs] at this
    exact this
  case round =>
    clear hmk hcs
    obtain ⟨x, hx, rfl, hcop, hbel⟩ := hrel
    by_cases hlt : x < k
    · obtain ⟨hn, hL, hsm⟩ := HL.out
      have hxL : lo + x < L.length := by omega
      obtain ⟨b, o, ha, hE⟩ := hL (lo + x) hxL
      obtain ⟨h, c2, c0, c1, c2', hby, hnil⟩ := entAt_below hbel hE
      obtain ⟨f, hrow, hf⟩ := hcop
      have e0 := hrow.cell (i := x * 3) (by omega)
      have e1 := hrow.cell (i := x * 3 + 1) (by omega)
      have e2 := hrow.cell (i := x * 3 + 2) (by omega)
      have g0 := hrow.frozen
      have hBlt := hrow.lt
      have hblt : b < w.heap.size := by obtain ⟨_, _, q0, _⟩ := hE; exact cell_lt q0
      have hbwr : b < wr.heap.size := by omega
      have HF : Hid (copied wr w.heap.size k lo L x) := ⟨f, hrow, hf⟩
      have HC : Hid (bytesAt wr h L[lo + x].hash ∧ (h = none → L[lo + x].hash = []) ∧ L[lo + x].hash.length ≤ 1048576) := ⟨hby, hnil, hsm _ hxL⟩
      have hidx : (lo : Int) + (x : Int) < (n : Int) := by omega
      have hidk : (x : Int) < (k : Int) := by omega
      have hid0 : (0 : Int) ≤ (lo : Int) + (x : Int) := by omega
      have hwr : IntKind.i64.wrap ((lo : Int) + (x : Int)) = (lo : Int) + (x : Int) := by rw [IntKind.wrap_i64]; omega
      have hwn : ((lo : Int) + (x : Int)).toNat = lo + x := by omega
      subst ha
      clear hn hL hsm hE hrow hf hby hnil
      go_wp2
      go_region_with (go_at_call 14; refine (copy_any _ _ _ L[lo + x].hash _ rfl (by exact HC.out.1) HC.out.2.1 HC.out.2.2).mono ?_; rintro e w1 ⟨a1, k1, rfl, hb1, hn1, ho1, hbel1⟩; obtain ⟨r0, r1⟩ : (∀ b o, b < wr.heap.size → w1.cell? ⟨b, o, none⟩ = wr.cell? ⟨b, o, none⟩) ∧ (∀ b o, b < wr.heap.size → w1.frozen? ⟨b, o, none⟩ = wr.frozen? ⟨b, o, none⟩) := ⟨fun b o hh => hbel1.cell (p := ⟨b, o, none⟩) hh, fun b o hh => hbel1.frozen (p := ⟨b, o, none⟩) hh⟩)
      all_goals
        have hbw : Below wr.heap.size wr w1 := below_of_drew hbel1
        have HST : Hid (copied _ w.heap.size k lo L (x + 1)) := copied_step (c := k1) HF.out hbw hxL hb1 hn1 ho1
        have hbE : Below w.heap.size w w1 := hbel.trans (hbw.mono hbel.size)
        clear r0 r1 hb1 hn1 ho1 hbel1 hbw
        go_wp2
        exact ⟨⟨x + 1, by omega, by go_num, HST.out, ((hbE.setCell (Nat.le_refl _) _).setCell (Nat.le_refl _) _).setCell (Nat.le_refl _) _⟩, by simp [intOf]; omega⟩
    · have hxk : x = k := by omega
      subst hxk
      have hlen : ((L.take hi).drop lo).length = x := by have := HL.out.1; have := HK.out; simp; omega
      have HLEN : Hid (((L.take hi).drop lo).length = x) := hlen
      have HCOP : Hid (copied wr w.heap.size x lo L x) := hcop
      clear hlen hcop
      go_wp2
      go_ret
      refine ⟨some ⟨w.heap.size, 0, none⟩, x, congrArg (fun l => Ending.returned (.slice (some ⟨w.heap.size, 0, none⟩) l x)) HLEN.out.symm, ?_, hbel⟩
      rw [HK.out]
      exact copied_ents HCOP.out (by have := HL.out.1; omega)
end Go.Proofs.Qxb6617603a
