/-
  What the walks are told of the two slices that came in.
-/
import Derived.Test.Qxb6617593aProg
import Derived.Test.Qxb6617593aPlain
import Derived.WalkKit
import Derived.WalkSpells
import Derived.WalkLawsBesides
import Derived.Outline
import Derived.Deep.Light
import Derived.Below
import Derived.Maps.OwnSet
import Derived.Maps.StringElems
import Derived.KernelRfl
namespace Go.Proofs.Qxb6617593a
open Go.RowKit

/-- One attribute: the id, the five strings, the five bools. -/
structure Attr where
  id : Int
  s1 : ByteArray
  s2 : ByteArray
  s3 : ByteArray
  s4 : ByteArray
  b5 : Bool
  b6 : Bool
  b7 : Bool
  b8 : Bool
  b9 : Bool
  s10 : ByteArray

/-- The roles L lie behind the slice's address. -/
def rolesAt (w : World) (a : Option Addr) (L : List Role) : Prop :=
  ∀ i (_ : i < L.length), ∃ b o, a = some ⟨b, o, none⟩ ∧ w.cell? ⟨b, o + i * 2, none⟩ = some (.int .i64 L[i].1) ∧ w.cell? ⟨b, o + i * 2 + 1, none⟩ = some (.string L[i].2)
/-- The attributes M lie behind the slice's address. -/
def attrsAt (w : World) (a : Option Addr) (M : List Attr) : Prop :=
  ∀ i (_ : i < M.length), ∃ b o, a = some ⟨b, o, none⟩ ∧ w.cell? ⟨b, o + i * 11, none⟩ = some (.int .i64 M[i].id) ∧
    w.cell? ⟨b, o + i * 11 + 1, none⟩ = some (.string M[i].s1) ∧ w.cell? ⟨b, o + i * 11 + 2, none⟩ = some (.string M[i].s2) ∧ w.cell? ⟨b, o + i * 11 + 3, none⟩ = some (.string M[i].s3) ∧
    w.cell? ⟨b, o + i * 11 + 4, none⟩ = some (.string M[i].s4) ∧ w.cell? ⟨b, o + i * 11 + 5, none⟩ = some (.bool M[i].b5) ∧ w.cell? ⟨b, o + i * 11 + 6, none⟩ = some (.bool M[i].b6) ∧
    w.cell? ⟨b, o + i * 11 + 7, none⟩ = some (.bool M[i].b7) ∧ w.cell? ⟨b, o + i * 11 + 8, none⟩ = some (.bool M[i].b8) ∧ w.cell? ⟨b, o + i * 11 + 9, none⟩ = some (.bool M[i].b9) ∧
    w.cell? ⟨b, o + i * 11 + 10, none⟩ = some (.string M[i].s10)
/-- The ids fit, the names are no longer than a string may be. -/
def okRoles (L : List Role) : Prop := ∀ p ∈ L, (Lit.int .i64 p.1).wf = true ∧ p.2.size ≤ maxLen
theorem rolesAt_below {w w' : World} {a : Option Addr} {L : List Role} (h : rolesAt w a L) (hb : Below w.heap.size w w') : rolesAt w' a L := by
  intro i hi
  obtain ⟨b, o, ha, h0, h1⟩ := h i hi
  have hlt : b < w.heap.size := by
    rcases Nat.lt_or_ge b w.heap.size with h | h
    · exact h
    · simp [World.cell?, Array.getElem?_eq_none h] at h0
  exact ⟨b, o, ha, by rw [hb.cell (p := ⟨b, o + i * 2, none⟩) hlt]; exact h0, by rw [hb.cell (p := ⟨b, o + i * 2 + 1, none⟩) hlt]; exact h1⟩
theorem cell_lt {w : World} {b o : Nat} {v : Value} (h : w.cell? ⟨b, o, none⟩ = some v) : b < w.heap.size := by
  rcases Nat.lt_or_ge b w.heap.size with h' | h'
  · exact h'
  · simp [World.cell?, Array.getElem?_eq_none h'] at h
theorem attrsAt_below {w w' : World} {a : Option Addr} {M : List Attr} (h : attrsAt w a M) (hb : Below w.heap.size w w') : attrsAt w' a M := by
  intro i hi
  obtain ⟨b, o, ha, h0, h1, h2, h3, h4, h5, h6, h7, h8, h9, h10⟩ := h i hi
  have hc : ∀ (p : Nat) (v : Value), w.cell? ⟨b, p, none⟩ = some v → w'.cell? ⟨b, p, none⟩ = some v := fun p v h => by
    rw [hb.cell (p := ⟨b, p, none⟩) (cell_lt h)]; exact h
  exact ⟨b, o, ha, hc _ _ h0, hc _ _ h1, hc _ _ h2, hc _ _ h3, hc _ _ h4, hc _ _ h5, hc _ _ h6, hc _ _ h7, hc _ _ h8, hc _ _ h9, hc _ _ h10⟩
/-- The map's block lies below: the map is as it was. -/
theorem ownsMap_below {w w' : World} {B b n : Nat} {k : TypeId} {R : Value → Option (DataW Unit × List MemPlace)} {D : DataW Unit} (h : w.ownsMap Try.prog k R b n D) (hb : Below B w w') (hlt : b < B) : w'.ownsMap Try.prog k R b n D := by
  obtain ⟨es, clock, h1, h2⟩ := h
  exact ⟨es, clock, by rw [hb.block b hlt]; exact h1, h2⟩
theorem mapLaw : Maps.Keyed Try.prog 30 := Maps.int_keyed Try.underlying30
theorem zeroS (w : World) : (zeroValue 9).run Try.prog w = .ok (.string ByteArray.empty) w := by kernel_rfl
/-- A look-up in a map that was filled from R. -/
theorem look_is {w : World} {B n : Nat} {R : List Role} (h : w.ownsMap Try.prog 30 (plainElem Try.prog 9) B n (mapR R)) (a : Int) (hw : (Lit.int .i64 a).wf = true) :
    (Instr.lookup 37 (.map (some B)) (.int .i64 a) true).run Try.prog w = .ok (.tuple #[.string (nameR R a), .bool (hasR R a)]) w := by
  obtain ⟨v, ps, hrun, hv⟩ := h.look_ok mapLaw Try.underlying37 (zeroS w) (zd := nm ByteArray.empty) (zp := []) (plainElem_string Try.underlying9 (by decide)) (key := .int .i64 a) (kl := kl a) (Maps.keyOf_int_mk Try.underlying30 hw)
  obtain ⟨s, rfl, hz, _⟩ := plainElem_string_inv Try.underlying9 hv
  have h1 : (mapR R).atKey (kl a) (nm ByteArray.empty) = nm s := congrArg Prod.fst hz
  rw [at_mapR] at h1
  rw [hrun, has_mapR, nm_inj h1]
end Go.Proofs.Qxb6617593a
