/-
  Copies and comparisons.
-/
import Derived.Test.Qxb6617603aBase
import Derived.Deep.QuietTactic
import Derived.BigQuiet
namespace Go.Proofs.Qxb6617603a
open Go.RowKit

theorem info4 : (Try.prog.info? 4).map (fun i => (i.zero, i.size, i.bytes)) = some (some (.bool false), 1, 1) := by kernel_rfl
theorem info5 : (Try.prog.info? 5).map (fun i => (i.zero, i.size, i.bytes)) = some (some (.int .u8 0), 1, 1) := by kernel_rfl
theorem make23 (n : Nat) (hn : n ≤ 1048576) (w : World) : (Instr.makeSlice 23 (.int .i64 (n : Int)) (.int .i64 (n : Int))).run Try.prog w = .ok (.slice (some ⟨w.heap.size, 0, none⟩) n n) (w.alloc (.cells (madeCells #[.bool false] n) 4)) :=
  run_make_row' (P := Try.prog) 23 4 (.bool false) 1 Try.underlying23 info4 rfl .i64 .i64 n (by omega) (by omega) w
theorem make32 (n : Nat) (hn : n ≤ 1048576) (w : World) : (Instr.makeSlice 32 (.int .i64 (n : Int)) (.int .i64 (n : Int))).run Try.prog w = .ok (.slice (some ⟨w.heap.size, 0, none⟩) n n) (w.alloc (.cells (madeCells #[.int .u8 0] n) 5)) :=
  run_make_row' (P := Try.prog) 32 5 (.int .u8 0) 1 Try.underlying32 info5 rfl .i64 .i64 n (by omega) (by omega) w

/-- A row that the call laid, as bools. -/
theorem row_bools {w : World} {b n : Nat} {f : Nat → Value} {bs : List Bool} (h : w.rowIs b 4 n f) (hn : n = bs.length) (hf : ∀ i, ∀ hi : i < bs.length, f i = .bool bs[i]) : boolsAt w (some ⟨b, 0, none⟩) bs := fun i hi => by
  refine ⟨b, 0, rfl, ?_⟩
  rw [Nat.zero_add, h.cell (by omega), hf i hi]
theorem row_bytes {w : World} {b n : Nat} {f : Nat → Value} {zs : List Int} (h : w.rowIs b 5 n f) (hn : n = zs.length) (hf : ∀ i, ∀ hi : i < zs.length, f i = .int .u8 zs[i]) : bytesAt w (some ⟨b, 0, none⟩) zs := fun i hi => by
  refine ⟨b, 0, rfl, ?_⟩
  rw [Nat.zero_add, h.cell (by omega), hf i hi]

/-- What a maker of bools hands back. -/
def boolsPost (w : World) (bs : List Bool) (e : Ending) (w' : World) : Prop :=
  ∃ B, e = .returned (.slice (some ⟨B, 0, none⟩) bs.length bs.length) ∧ boolsAt w' (some ⟨B, 0, none⟩) bs ∧ Below w.heap.size w w'

set_option maxRecDepth 100000 in
set_option maxHeartbeats 1000000 in
theorem clone_any (a : Option Addr) (n c lo hi : Nat) (bs : List Bool) (w : World) (hn : n = bs.length) (hB : boolsAt w a bs) (h1 : lo ≤ hi) (h2 : hi ≤ n) (h3 : n ≤ 65536) :
    Calls Try.prog 7 #[.slice a n c, .int .i64 (lo : Int), .int .i64 (hi : Int)] w fun e w' => boolsPost w ((bs.take hi).drop lo) e w' := by
  have HB : Hid (n = bs.length ∧ boolsAt w a bs) := ⟨hn, hB⟩
  clear hn hB
  obtain ⟨k, rfl⟩ : ∃ k, hi = lo + k := ⟨hi - lo, by omega⟩
  have hsub : (lo : Int) + (k : Int) - (lo : Int) = (k : Int) := by omega
  have hmk := make23 k (by omega) w
  go_enter Try.func7, Try.ntmps7
  go_wp2
  go_loopw [8] (fun i wr => ∃ x : Nat, x ≤ k ∧ i = .int .i64 (x : Int) ∧ (∃ f, wr.rowIs w.heap.size 4 k f ∧ ∀ y, ∀ hy : lo + y < bs.length, y < x → f y = .bool bs[lo + y]) ∧ Below w.heap.size w wr) (fun i _ => k - (intOf i).toNat)
  case atStart => exact ⟨0, Nat.zero_le _, rfl, ⟨_, World.rowIs_made w (.bool false) k 4, fun y _ h => absurd h (Nat.not_lt_zero _)⟩, (Below.refl _ _).alloc (Nat.le_refl _) _⟩
  case round =>
    clear hmk
    obtain ⟨x, hx, rfl, ⟨f, hrow, hf⟩, hbel⟩ := hrel
    by_cases hlt : x < k
    · obtain ⟨hn, hB⟩ := HB.out
      have hxL : lo + x < bs.length := by omega
      obtain ⟨b, o, ha, c0⟩ := boolsAt_below hbel hB (lo + x) hxL
      have e0 := hrow.cell (i := x) hlt
      have g0 := hrow.frozen x
      have HF : Hid (wr.rowIs w.heap.size 4 k f ∧ ∀ y, ∀ hy : lo + y < bs.length, y < x → f y = .bool bs[lo + y]) := ⟨hrow, hf⟩
      have hidx : (lo : Int) + (x : Int) < (n : Int) := by omega
      subst ha
      clear hn hB hrow hf
      go_wp2
      refine ⟨⟨x + 1, by omega, by go_num, ⟨_, HF.out.1.set x _, fun y hy g => ?_⟩, hbel.setCell (Nat.le_refl _) _⟩, by simp [intOf]; omega⟩
      by_cases e : y = x
      · subst e; simp
      · show (if y = x then _ else _) = _
        rw [if_neg e]; exact HF.out.2 y hy (by omega)
    · have hlen : ((bs.take (lo + k)).drop lo).length = k := by have := HB.out.1; simp; omega
      have HF : Hid (wr.rowIs w.heap.size 4 k f ∧ ∀ y, ∀ hy : lo + y < bs.length, y < x → f y = .bool bs[lo + y]) := ⟨hrow, hf⟩
      have HLEN : Hid (((bs.take (lo + k)).drop lo).length = k) := hlen
      clear hlen hrow hf
      go_wp2
      go_ret
      refine ⟨w.heap.size, congrArg (fun l => Ending.returned (.slice (some ⟨w.heap.size, 0, none⟩) l l)) HLEN.out.symm, row_bools HF.out.1 HLEN.out.symm (fun y hy => ?_), hbel⟩
      rw [HF.out.2 y (by have := HB.out.1; have := HLEN.out; omega) (by have := HLEN.out; omega)]
      simp
/-- What a maker of bytes hands back: new memory alone. -/
def bytesPost (w : World) (zs : List Int) (e : Ending) (w' : World) : Prop :=
  ∃ (a : Option Addr) (c : Nat), e = .returned (.slice a zs.length c) ∧ bytesAt w' a zs ∧ (a = none → zs = []) ∧ (∀ ad, a = some ad → w.heap.size ≤ ad.block) ∧ Below w.heap.size w w'

set_option maxRecDepth 100000 in
set_option maxHeartbeats 1000000 in
theorem copy_any (a : Option Addr) (n c : Nat) (zs : List Int) (w : World) (hn : n = zs.length) (hB : bytesAt w a zs) (hnil : a = none → zs = []) (h3 : n ≤ 1048576) :
    Calls Try.prog 14 #[.slice a n c] w fun e w' => bytesPost w zs e w' := by
  have HB : Hid (n = zs.length ∧ bytesAt w a zs) := ⟨hn, hB⟩
  have hne := fun w => Lib.run_eql_slice_nil (P := Try.prog) w 32 5 a n c 0 0 Try.underlying32
  clear hB
  cases a with
  | none =>
    have hz : zs = [] := hnil rfl
    subst hz
    clear hnil hn
    go_enter Try.func14, Try.ntmps14
    go_wp2
    go_ret
    exact ⟨none, 0, rfl, fun i hi => absurd hi (Nat.not_lt_zero _), fun _ => rfl, (fun _ h => by cases h), Below.refl _ _⟩
  | some ad =>
    clear hnil hn
    have hmk := make32 n (by omega) w
    go_enter Try.func14, Try.ntmps14
    go_wp2
    go_loopw [4] (fun i wr => ∃ x : Nat, x ≤ n ∧ i = .int .i64 (x : Int) ∧ (∃ f, wr.rowIs w.heap.size 5 n f ∧ ∀ y, ∀ hy : y < zs.length, y < x → f y = .int .u8 zs[y]) ∧ Below w.heap.size w wr) (fun i _ => n - (intOf i).toNat)
    case atStart => exact ⟨0, Nat.zero_le _, rfl, ⟨_, World.rowIs_made w (.int .u8 0) n 5, fun y _ h => absurd h (Nat.not_lt_zero _)⟩, (Below.refl _ _).alloc (Nat.le_refl _) _⟩
    case round =>
      clear hmk
      obtain ⟨x, hx, rfl, ⟨f, hrow, hf⟩, hbel⟩ := hrel
      have HF : Hid (wr.rowIs w.heap.size 5 n f ∧ ∀ y, ∀ hy : y < zs.length, y < x → f y = .int .u8 zs[y]) := ⟨hrow, hf⟩
      by_cases hlt : x < n
      · obtain ⟨hn, hB⟩ := HB.out
        have hxL : x < zs.length := by omega
        obtain ⟨b, o, ha, c0⟩ := bytesAt_below hbel hB x hxL
        obtain ⟨rfl⟩ : ad = ⟨b, o, none⟩ := by simpa using ha
        have e0 := hrow.cell (i := x) hlt
        have g0 := hrow.frozen x
        clear hn hB hrow hf ha
        go_wp2
        refine ⟨⟨x + 1, by omega, by go_num, ⟨_, HF.out.1.set x _, fun y hy g => ?_⟩, hbel.setCell (Nat.le_refl _) _⟩, by simp [intOf]; omega⟩
        by_cases e : y = x
        · subst e; simp
        · show (if y = x then _ else _) = _
          rw [if_neg e]; exact HF.out.2 y hy (by omega)
      · clear hrow hf
        go_wp2
        go_ret
        exact ⟨some ⟨w.heap.size, 0, none⟩, n, congrArg (fun l => Ending.returned (.slice (some ⟨w.heap.size, 0, none⟩) l n)) HB.out.1, row_bytes HF.out.1 HB.out.1 (fun y hy => HF.out.2 y hy (by have := HB.out.1; omega)), (fun h => by cases h), (fun ad h => by cases h; exact Nat.le_refl _), hbel⟩

set_option maxRecDepth 100000 in
set_option maxHeartbeats 1000000 in
theorem same_any (a a' : Option Addr) (n c c' : Nat) (zs : List Int) (w : World) (hn : n = zs.length) (hB : bytesAt w a zs) (hB' : bytesAt w a' zs) (h3 : n ≤ 1048576) :
    Calls Try.prog 15 #[.slice a n c, .slice a' n c'] w fun e w' => e = .returned (.bool true) ∧ ∃ q, w' = w.drewN q := by
  have HB : Hid (n = zs.length ∧ bytesAt w a zs ∧ bytesAt w a' zs) := ⟨hn, hB, hB'⟩
  clear hn hB hB'
  go_enter Try.func15, Try.ntmps15
  go_wp2
  go_loopw [5] (fun i wr => ∃ x : Nat, x ≤ n ∧ i = .int .i64 (x : Int) ∧ ∃ q, wr = w.drewN q) (fun i _ => n - (intOf i).toNat)
  case atStart => exact ⟨0, Nat.zero_le _, rfl, 0, rfl⟩
  case round =>
    obtain ⟨x, hx, rfl, q, rfl⟩ := hrel
    by_cases hlt : x < n
    · have hxL : x < zs.length := by have := HB.out.1; omega
      obtain ⟨b, o, ha, c0⟩ := HB.out.2.1 x hxL
      obtain ⟨b', o', ha', c0'⟩ := HB.out.2.2 x hxL
      subst ha
      subst ha'
      have hxn : (x : Int) < (n : Int) := by omega
      go_wp2
      go_quiet (fail)
      go_wp2
      exact ⟨⟨x + 1, by omega, by go_num, _, rfl⟩, by simp [intOf]; omega⟩
    · go_wp2
      go_ret
      exact ⟨rfl, q, rfl⟩

theorem bel2 (w : World) (o o' : Obj) : Below w.heap.size w ((w.alloc o).alloc o') := ((Below.refl _ _).alloc (Nat.le_refl _) _).alloc (by simp) _
set_option maxRecDepth 100000 in
set_option maxHeartbeats 1000000 in
theorem sameEnt_any (s : ByteArray) (hs : Bool) (a a' : Option Addr) (n c c' : Nat) (zs : List Int) (w : World) (hn : n = zs.length) (hB : bytesAt w a zs) (hB' : bytesAt w a' zs) (h3 : n ≤ 1048576) :
    Calls Try.prog 11 #[.agg #[.string s, .bool hs, .slice a n c], .agg #[.string s, .bool hs, .slice a' n c']] w fun e w' => e = .returned (.bool true) ∧ Below w.heap.size w w' := by
  have HB : Hid (n = zs.length ∧ bytesAt w a zs ∧ bytesAt w a' zs) := ⟨hn, hB, hB'⟩
  clear hn hB hB'
  go_enter Try.func11, Try.ntmps11
  go_wp2_with fail
  refine (same_any a a' n c c' zs _ HB.out.1 (by exact bytesAt_below (bel2 _ _ _) HB.out.2.1) (by exact bytesAt_below (bel2 _ _ _) HB.out.2.2) h3).mono ?_
  rintro e w1 ⟨rfl, q, rfl⟩
  go_wp2_with fail
  go_ret
  exact ⟨rfl, below_drewN (bel2 _ _ _) q⟩

set_option maxRecDepth 100000 in
set_option maxHeartbeats 1000000 in
theorem sameEntry_any (s : ByteArray) (hs : Bool) (a a' : Option Addr) (n c c' : Nat) (zs : List Int) (w : World) (hn : n = zs.length) (hB : bytesAt w a zs) (hB' : bytesAt w a' zs) (h3 : n ≤ 1048576) :
    Calls Try.prog 13 #[.agg #[.string s, .bool hs, .slice a n c], .agg #[.string s, .bool hs, .slice a' n c']] w fun e w' => e = .returned (.bool true) ∧ Below w.heap.size w w' := by
  have HB : Hid (n = zs.length ∧ bytesAt w a zs ∧ bytesAt w a' zs) := ⟨hn, hB, hB'⟩
  clear hn hB hB'
  go_enter Try.func13, Try.ntmps13
  go_wp2_with fail
  refine (same_any a a' n c c' zs _ HB.out.1 (by exact bytesAt_below (bel2 _ _ _) HB.out.2.1) (by exact bytesAt_below (bel2 _ _ _) HB.out.2.2) h3).mono ?_
  rintro e w1 ⟨rfl, q, rfl⟩
  go_wp2_with fail
  go_ret
  exact ⟨rfl, below_drewN (bel2 _ _ _) q⟩
end Go.Proofs.Qxb6617603a
