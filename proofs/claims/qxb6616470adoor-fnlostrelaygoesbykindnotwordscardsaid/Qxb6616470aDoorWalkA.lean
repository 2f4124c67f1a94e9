/-
  The walks of this seat's functions: errors.New, LostRelay, its four doors, the size guard, the law.
-/
import Derived.Test.Qxb6616470aDoorAs1
import Derived.Test.Qxb6616470aDoorAs2
import Derived.Below
import Derived.WalkSpells
import Derived.WalkLawsBesides
namespace Go.Proofs.Qxb6616470aDoor
open Go.RowKit Go.Extern.Stop Go.Stop Go.Extern

def laidCell (w : World) : Prop := w.cell? ⟨0, 0, none⟩ = some (.iface 54 (.agg #[.pointer (some ⟨1, 28, none⟩)]))
theorem laidCell_pos {w : World} (h : laidCell w) : 0 < w.heap.size := by
  rcases Nat.eq_zero_or_pos w.heap.size with h0 | h'
  · simp [laidCell, World.cell?, h0] at h
  · exact h'
theorem laidCell_alloc {w : World} (h : laidCell w) (o : Obj) : laidCell (w.alloc o) := by
  unfold laidCell
  rw [World.cell?_alloc_lt _ _ ⟨0, 0, none⟩ (laidCell_pos h)]; exact h
theorem laidCell_below {w w' : World} (h : laidCell w) (hb : Below w.heap.size w w') : laidCell w' := by
  unfold laidCell
  rw [hb.cell (p := ⟨0, 0, none⟩) (laidCell_pos h)]; exact h

theorem new_any (s : ByteArray) (w : World) :
    Calls Tryd.prog 10 #[.string s] w fun e w' => e = .returned (.iface 38 (.pointer (some ⟨w.heap.size, 0, none⟩))) ∧ w' = w.alloc (.cells #[.string s] 40) := by
  go_enter Tryd.func10, Tryd.ntmps10
  go_wp2
  go_ret
  exact ⟨rfl, rfl⟩

set_option maxHeartbeats 1000000 in
theorem lost_nil (w : World) :
    Calls Tryd.prog 9 #[.nilIface] w fun e w' => e = .returned (.bool false) ∧ Below w.heap.size w w' := by
  go_enter Tryd.func9, Tryd.ntmps9
  go_wp2_with (go_at_call 11; refine (as_nil _ _).mono ?_; rintro e w' ⟨rfl, rfl⟩)
  go_ret
  exact ⟨rfl, ((Below.refl _ _).alloc (Nat.le_refl _) _).alloc (by simp) _⟩

theorem balloc {w w' : World} (h : Below w.heap.size w w') (o : Obj) : Below w.heap.size w (w'.alloc o) := h.alloc h.size o
theorem cell25 (w : World) (a c d e : Obj) (x : Value) (t : TypeId) : (((((w.alloc a).alloc (.cells #[x] t)).alloc c).alloc d).alloc e).cell? ⟨w.heap.size + 1, 0, none⟩ = some x := by
  rw [World.cell?_alloc_lt _ _ ⟨w.heap.size + 1, 0, none⟩ (by simp), World.cell?_alloc_lt _ _ ⟨w.heap.size + 1, 0, none⟩ (by simp), World.cell?_alloc_lt _ _ ⟨w.heap.size + 1, 0, none⟩ (by simp), World.cell?_alloc_at _ _ _ _ (by simp)]
  rfl
theorem frozen25 (w : World) (a c d e : Obj) (x : Value) (t : TypeId) : (((((w.alloc a).alloc (.cells #[x] t)).alloc c).alloc d).alloc e).frozen? ⟨w.heap.size + 1, 0, none⟩ = false := by
  rw [World.frozen?_alloc_old _ _ ⟨w.heap.size + 1, 0, none⟩ (by simp), World.frozen?_alloc_old _ _ ⟨w.heap.size + 1, 0, none⟩ (by simp), World.frozen?_alloc_old _ _ ⟨w.heap.size + 1, 0, none⟩ (by simp)]
  simp
theorem laid5 {w : World} (h : laidCell w) (a b c d e : Obj) : laidCell (((((w.alloc a).alloc b).alloc c).alloc d).alloc e) :=
  laidCell_alloc (laidCell_alloc (laidCell_alloc (laidCell_alloc (laidCell_alloc h _) _) _) _) _
theorem laid2 {w : World} (h : laidCell w) (a b : Obj) : laidCell ((w.alloc a).alloc b) := laidCell_alloc (laidCell_alloc h _) _

set_option maxHeartbeats 1000000 in
theorem lost_plain (v : Value) (w : World) (hg : laidCell w) :
    Calls Tryd.prog 9 #[.iface 38 v] w fun e w' => e = .returned (.bool false) ∧ Below w.heap.size w w' := by
  go_enter Tryd.func9, Tryd.ntmps9
  go_wp2_with fail
  refine (as_miss38_26 _ _ _ (by exact laid2 hg _ _)).mono ?_
  rintro e w' ⟨rfl, rfl⟩
  go_wp2_with fail
  refine (as_miss38_32 _ _ _ (by exact laid5 hg _ _ _ _ _)).mono ?_
  rintro e w' ⟨rfl, rfl⟩
  go_wp2_with fail
  go_ret
  exact ⟨rfl, ((((((((Below.refl _ _).alloc (Nat.le_refl _) _).alloc (by simp) _).alloc (by simp; omega) _).alloc (by simp; omega) _).alloc (by simp; omega) _).alloc (by simp; omega) _).alloc (by simp; omega) _).alloc (by simp; omega) _⟩

set_option maxHeartbeats 1000000 in
theorem lost_link (a : Addr) (w : World) (hg : laidCell w) :
    Calls Tryd.prog 9 #[.iface 26 (.pointer (some a))] w fun e w' => e = .returned (.bool true) ∧ Below w.heap.size w w' := by
  go_enter Tryd.func9, Tryd.ntmps9
  go_wp2_with fail
  refine (as_hit26 _ _ (.pointer none) _ (by exact laid2 hg _ _) (by simp) (by simp)).mono ?_
  rintro e w' ⟨rfl, rfl⟩
  go_wp2_with fail
  go_ret
  refine ⟨rfl, ?_⟩
  repeat apply balloc
  exact Below.refl _ _

set_option maxHeartbeats 1000000 in
theorem lost_silence (a : Addr) (w : World) (hg : laidCell w) :
    Calls Tryd.prog 9 #[.iface 32 (.pointer (some a))] w fun e w' => e = .returned (.bool true) ∧ Below w.heap.size w w' := by
  go_enter Tryd.func9, Tryd.ntmps9
  go_wp2_with fail
  refine (as_miss32_26 _ _ _ (by exact laid2 hg _ _)).mono ?_
  rintro e w' ⟨rfl, rfl⟩
  go_wp2_with fail
  refine (as_hit32 _ _ (.pointer none) _ (by exact laid5 hg _ _ _ _ _) (by exact cell25 _ _ _ _ _ _ _) (by exact frozen25 _ _ _ _ _ _ _)).mono ?_
  rintro e w' ⟨rfl, rfl⟩
  go_wp2_with fail
  go_ret
  refine ⟨rfl, ?_⟩
  repeat apply balloc
  exact Below.refl _ _

theorem bytes_no (r s : ByteArray) (w : World) (hr : r.size ≤ maxLen) (hs : s.size ≤ maxLen) (h : 1048576 < r.size + s.size) :
    Calls Tryd.prog 4 #[.string r, .string s] w fun e w' => e = .returned (.bool false) ∧ w' = w := by
  unfold maxLen at hr hs
  go_enter Tryd.func4, Tryd.ntmps4
  go_wp2
  all_goals go_ret
  all_goals first | exact ⟨rfl, rfl⟩ | (exfalso; omega)
theorem bytes_yes (r s : ByteArray) (w : World) (h : r.size + s.size ≤ 1048576) :
    Calls Tryd.prog 4 #[.string r, .string s] w fun e w' => e = .returned (.bool true) ∧ w' = w := by
  have h1 : (r.size : Int) ≤ 1048576 := by omega
  have h2 : (s.size : Int) ≤ 1048576 := by omega
  have h3 : (r.size : Int) + (s.size : Int) ≤ 1048576 := by omega
  go_enter Tryd.func4, Tryd.ntmps4
  go_wp2
  go_ret
  exact ⟨rfl, rfl⟩

set_option maxHeartbeats 1000000 in
theorem door_link (r s : ByteArray) (w : World) (hg : laidCell w) :
    Calls Tryd.prog 5 #[.string r, .string s] w fun e w' => e = .returned (.bool true) ∧ Below w.heap.size w w' := by
  go_enter Tryd.func5, Tryd.ntmps5
  go_wp2_with fail
  refine (new_any _ _).mono ?_
  rintro e w' ⟨rfl, rfl⟩
  go_wp2_with fail
  refine (lost_link _ _ (by exact laid2 hg _ _)).mono ?_
  rintro e w' ⟨rfl, hb⟩
  go_wp2_with fail
  go_ret
  exact ⟨rfl, (balloc (balloc (Below.refl _ _) _) _).trans (hb.mono (by simp; omega))⟩

set_option maxHeartbeats 1000000 in
theorem door_silence (s : ByteArray) (w : World) (hg : laidCell w) :
    Calls Tryd.prog 6 #[.string s] w fun e w' => e = .returned (.bool true) ∧ Below w.heap.size w w' := by
  go_enter Tryd.func6, Tryd.ntmps6
  go_wp2_with fail
  refine (new_any _ _).mono ?_
  rintro e w' ⟨rfl, rfl⟩
  go_wp2_with fail
  refine (lost_silence _ _ (by exact laid2 hg _ _)).mono ?_
  rintro e w' ⟨rfl, hb⟩
  go_wp2_with fail
  go_ret
  exact ⟨rfl, (balloc (balloc (Below.refl _ _) _) _).trans (hb.mono (by simp; omega))⟩

set_option maxHeartbeats 1000000 in
theorem door_plain (s : ByteArray) (w : World) (hg : laidCell w) :
    Calls Tryd.prog 7 #[.string s] w fun e w' => e = .returned (.bool false) ∧ Below w.heap.size w w' := by
  go_enter Tryd.func7, Tryd.ntmps7
  go_wp2_with fail
  refine (new_any _ _).mono ?_
  rintro e w' ⟨rfl, rfl⟩
  go_wp2_with fail
  refine (lost_plain _ _ (by exact laidCell_alloc hg _)).mono ?_
  rintro e w' ⟨rfl, hb⟩
  go_wp2_with fail
  go_ret
  exact ⟨rfl, (balloc (Below.refl _ _) _).trans (hb.mono (by simp))⟩

set_option maxHeartbeats 1000000 in
theorem door_nil (w : World) :
    Calls Tryd.prog 8 #[] w fun e w' => e = .returned (.bool false) ∧ Below w.heap.size w w' := by
  go_enter Tryd.func8, Tryd.ntmps8
  go_wp2_with fail
  refine (lost_nil _).mono ?_
  rintro e w' ⟨rfl, hb⟩
  go_wp2_with fail
  go_ret
  exact ⟨rfl, hb⟩

set_option maxHeartbeats 1000000 in
theorem law_no (r s : ByteArray) (w : World) (hr : r.size ≤ maxLen) (hs : s.size ≤ maxLen) (h : 1048576 < r.size + s.size) :
    Calls Tryd.prog 3 #[.string r, .string s] w fun e w' => e = .returned (.bool true) ∧ Below w.heap.size w w' := by
  go_enter Tryd.func3, Tryd.ntmps3
  go_wp2_with fail
  refine (bytes_no _ _ _ hr hs h).mono ?_
  rintro e w' ⟨rfl, rfl⟩
  go_wp2_with fail
  go_ret
  exact ⟨rfl, Below.refl _ _⟩

set_option maxHeartbeats 1000000 in
theorem law_yes (r s : ByteArray) (w : World) (hg : laidCell w) (h : r.size + s.size ≤ 1048576) :
    Calls Tryd.prog 3 #[.string r, .string s] w fun e w' => e = .returned (.bool true) ∧ Below w.heap.size w w' := by
  have h1 : (r.size : Int) ≤ 1048576 := by omega
  have h2 : (s.size : Int) ≤ 1048576 := by omega
  have h3 : (r.size : Int) + (s.size : Int) ≤ 1048576 := by omega
  go_enter Tryd.func3, Tryd.ntmps3
  go_wp2_with fail
  refine (bytes_yes _ _ _ h).mono ?_
  rintro e w' ⟨rfl, rfl⟩
  go_wp2_with fail
  refine (door_link _ _ _ hg).mono ?_
  rintro e w1 ⟨rfl, hb1⟩
  go_wp2_with fail
  refine (door_silence _ _ (by exact laidCell_below hg hb1)).mono ?_
  rintro e w2 ⟨rfl, hb2⟩
  have hb12 := hb1.trans (hb2.mono hb1.size)
  go_wp2_with fail
  refine (door_plain _ _ (by exact laidCell_below hg hb12)).mono ?_
  rintro e w3 ⟨rfl, hb3⟩
  have hb13 := hb12.trans (hb3.mono hb12.size)
  go_wp2_with fail
  refine (door_nil _).mono ?_
  rintro e w4 ⟨rfl, hb4⟩
  have hb14 := hb13.trans (hb4.mono hb13.size)
  go_wp2_with fail
  go_ret
  exact ⟨rfl, hb14⟩
end Go.Proofs.Qxb6616470aDoor
