/-
  What the walks are told of memory: bytes, bools, entries behind a slice's address.
-/
import Derived.Test.Qxb6617603aProg
import Derived.WalkKit
import Derived.WalkSpells
import Derived.WalkLawsBesides
import Derived.Outline
import Derived.Deep.Light
import Derived.Below
import Derived.KernelRfl
import Derived.Deep.OwnRows
namespace Go.Proofs.Qxb6617603a
open Go.RowKit

/-- One entry: its name, whether it has one, its hash. -/
structure Ent where
  name : ByteArray
  has : Bool
  hash : List Int

def bytesAt (w : World) (a : Option Addr) (zs : List Int) : Prop :=
  ∀ i (_ : i < zs.length), ∃ b o, a = some ⟨b, o, none⟩ ∧ w.cell? ⟨b, o + i, none⟩ = some (.int .u8 zs[i])
def boolsAt (w : World) (a : Option Addr) (bs : List Bool) : Prop :=
  ∀ i (_ : i < bs.length), ∃ b o, a = some ⟨b, o, none⟩ ∧ w.cell? ⟨b, o + i, none⟩ = some (.bool bs[i])
/-- The entry lies in the three cells from ⟨b, o⟩ on. -/
def entAt (w : World) (b o : Nat) (E : Ent) : Prop :=
  ∃ (h : Option Addr) (c : Nat), w.cell? ⟨b, o, none⟩ = some (.string E.name) ∧ w.cell? ⟨b, o + 1, none⟩ = some (.bool E.has) ∧ w.cell? ⟨b, o + 2, none⟩ = some (.slice h E.hash.length c) ∧ bytesAt w h E.hash ∧ (h = none → E.hash = [])
def entsAt (w : World) (a : Option Addr) (L : List Ent) : Prop :=
  ∀ i (_ : i < L.length), ∃ b o, a = some ⟨b, o, none⟩ ∧ entAt w b (o + i * 3) L[i]

theorem cell_lt {w : World} {b o : Nat} {v : Value} (h : w.cell? ⟨b, o, none⟩ = some v) : b < w.heap.size := by
  rcases Nat.lt_or_ge b w.heap.size with h' | h'
  · exact h'
  · simp [World.cell?, Array.getElem?_eq_none h'] at h
theorem cell_below {w w' : World} (hb : Below w.heap.size w w') {b o : Nat} {v : Value} (h : w.cell? ⟨b, o, none⟩ = some v) : w'.cell? ⟨b, o, none⟩ = some v := by
  rw [hb.cell (p := ⟨b, o, none⟩) (cell_lt h)]; exact h
theorem bytesAt_below {w w' : World} (hb : Below w.heap.size w w') {a : Option Addr} {zs : List Int} (h : bytesAt w a zs) : bytesAt w' a zs := fun i hi => by
  obtain ⟨b, o, ha, h0⟩ := h i hi
  exact ⟨b, o, ha, cell_below hb h0⟩
theorem boolsAt_below {w w' : World} (hb : Below w.heap.size w w') {a : Option Addr} {zs : List Bool} (h : boolsAt w a zs) : boolsAt w' a zs := fun i hi => by
  obtain ⟨b, o, ha, h0⟩ := h i hi
  exact ⟨b, o, ha, cell_below hb h0⟩
theorem entAt_below {w w' : World} (hb : Below w.heap.size w w') {b o : Nat} {E : Ent} (h : entAt w b o E) : entAt w' b o E := by
  obtain ⟨a, c, h0, h1, h2, h3, h4⟩ := h
  exact ⟨a, c, cell_below hb h0, cell_below hb h1, cell_below hb h2, bytesAt_below hb h3, h4⟩
theorem entsAt_below {w w' : World} (hb : Below w.heap.size w w') {a : Option Addr} {L : List Ent} (h : entsAt w a L) : entsAt w' a L := fun i hi => by
  obtain ⟨b, o, ha, h0⟩ := h i hi
  exact ⟨b, o, ha, entAt_below hb h0⟩
theorem below_drawn (w : World) (q : Nat) : Below w.heap.size w (w.drewN q) := below_drewN (Below.refl _ _) q
theorem ret_int {k : IntKind} {a b : Int} (h : a = b) : Ending.returned (.int k a) = .returned (.int k b) := by rw [h]
theorem ret_bool {a b : Bool} (h : a = b) : Ending.returned (.bool a) = .returned (.bool b) := by rw [h]
end Go.Proofs.Qxb6617603a
