/-
  What the slices' readings say of memory: the walks' hypotheses.
-/
import Derived.Test.Qxb6617603aRows
import Derived.Test.Qxb6617603aBase
import Derived.ProofKit
import Derived.Deep.Slices
import Derived.Deep.Fields
namespace Go.Proofs.Qxb6617603a
open Go.ChangeShapes Go.WideShapes Go.ChangeAt Go.RowKit Go.Deep

section
variable {H : Type} {enc : TypeId × Value → H} {P : Program} {w : World} {base : Nat} {spare : Nat → Bool} {held : Bool}
/-- A struct whose fields are one cell each, read at an address: field by field. -/
theorem fields_at {ts : TypeId} {fs : Array Field} {n : Nat} {a : Addr} {cs : List Value} {y : DataW H × List MemPlace} (hs : P.underlying ts = some (.struct fs))
    (hone : ∀ (i : Nat) (f : Field), fs[i]? = some f → f.offset = i ∧ P.cellsOf f.type = 1) (hC : P.cellsOf ts = fs.size) (hpos : 0 < fs.size)
    (hcells : w.cells? base a (P.cellsOf ts) = some cs) (hy : DataW.trod enc P w base spare held n ts cs = some y) :
    ∃ (b o n' : Nat), a = ⟨b, o, none⟩ ∧ ∀ (i : Nat) (f : Field), fs[i]? = some f → ∃ V Y, w.cell? ⟨b, o + i, none⟩ = some V ∧ DataW.trod enc P w base spare held n' f.type [V] = some Y := by
  obtain ⟨_, hlen, hcell⟩ := World.cells?_some hcells
  rw [hC] at hlen hcell
  obtain ⟨xs, m, _, _, _, hxl, hf⟩ := DataW.trod_struct hs hy
  obtain ⟨b, o, spot⟩ := a
  have h0 := hcell 0 hpos
  rw [List.getElem?_eq_getElem (by omega)] at h0
  have hspot : spot = none := by simpa [Addr.add] using World.cell?_spot h0
  subst hspot
  refine ⟨b, o, m, rfl, fun i f hi => ?_⟩
  have hlt : i < fs.size := (Array.getElem?_eq_some_iff.1 hi).1
  obtain ⟨ho, hc1⟩ := hone i f hi
  have g := hf i f hi
  rw [ho, hc1, take1_drop cs i undef (by omega), List.getElem?_eq_getElem (by omega)] at g
  have c := hcell i hlt
  rw [add_plain, List.getElem?_eq_getElem (by omega)] at c
  refine ⟨cs.getD i undef, _, ?_, g⟩
  rw [c]
  simp [List.getD, List.getElem?_eq_getElem (show i < cs.length by omega)]
end

theorem cells35 : Try.prog.cellsOf 35 = 3 := by kernel_rfl
theorem cells5 : Try.prog.cellsOf 5 = 1 := by kernel_rfl
theorem cells4 : Try.prog.cellsOf 4 = 1 := by kernel_rfl

/-- The address of a slice with an element that is a struct is plain. -/
theorem plain_addr {W : World} {ad : Addr} {k : Nat} {cs : List Value} (hk : 0 < k) (h : W.cells? 0 (ad.add (0 * k)) k = some cs) : ∃ b o, ad = ⟨b, o, none⟩ := by
  obtain ⟨_, hlen, hcell⟩ := World.cells?_some h
  have h0 := hcell 0 hk
  rw [List.getElem?_eq_getElem (by omega)] at h0
  obtain ⟨b, o, spot⟩ := ad
  have hspot : spot = none := by simpa [Addr.add] using World.cell?_spot h0
  subst hspot
  exact ⟨b, o, rfl⟩

/-- A hash, out of its own cell. -/
theorem open_hash {H : Type} {enc : TypeId × Value → H} {W : World} {n : Nat} {V : Value} {Y : DataW H × List MemPlace}
    (h : DataW.trod enc Try.prog W 0 (fun _ => true) true n 32 [V] = some Y) : ∃ (a : Option Addr) (c : Nat) (zs : List Int), V = .slice a zs.length c ∧ bytesAt W a zs ∧ (a = none → zs = []) := by
  rcases open_ints Try.underlying32 Try.underlying5 cells5 h with ⟨hcs, _⟩ | ⟨a, len, cap, zs, hcs, _, hl, _, hz, _, hcell, _⟩
  · simp at hcs
    subst hcs
    exact ⟨none, 0, [], rfl, fun i hi => absurd hi (Nat.not_lt_zero _), fun _ => rfl⟩
  simp at hcs
  subst hcs
  simp only [if_true] at hz
  refine ⟨some a, cap, zs.take len, by rw [List.length_take, Nat.min_eq_left (by omega)], fun i hi => ?_, fun h => by cases h⟩
  rw [List.length_take] at hi
  obtain ⟨b, o, spot⟩ := a
  have h0 := hcell 0 (by omega)
  have hspot : spot = none := by simpa [Addr.add] using World.cell?_spot h0
  subst hspot
  refine ⟨b, o, rfl, ?_⟩
  have := hcell i (by omega)
  rw [add_plain] at this
  rw [this]
  simp [List.getD, List.getElem?_eq_getElem (show i < zs.length by omega)]

theorem open_ents {H : Type} {enc : TypeId × Value → H} {W : World} {a : Option Addr} {len cap : Nat} {d : DataW H} {p : List MemPlace}
    (h : DataW.Trod enc Try.prog W 0 (fun _ => true) true 22 (.slice a len cap) d p) : ∃ L : List Ent, len = L.length ∧ entsAt W a L := by
  obtain ⟨fuel, hf⟩ := h
  rcases open_slice Try.underlying22 hf with ⟨hcs, _⟩ | ⟨ad, len', cap', m, n, D, Pl, hcs, _, hl, _, hm, _, hx⟩
  · simp [Value.cells] at hcs
    obtain ⟨rfl, rfl, rfl⟩ := hcs
    exact ⟨[], rfl, fun i hi => absurd hi (Nat.not_lt_zero _)⟩
  simp [Value.cells] at hcs
  obtain ⟨rfl, rfl, rfl⟩ := hcs
  simp only [if_true] at hm
  by_cases hz : len = 0
  · subst hz
    exact ⟨[], rfl, fun i hi => absurd hi (Nat.not_lt_zero _)⟩
  obtain ⟨b, o, rfl⟩ : ∃ b o, ad = ⟨b, o, none⟩ := by
    obtain ⟨cs', h1, _⟩ := hx 0 (by omega)
    rw [cells35] at h1
    exact plain_addr (by decide) h1
  have inh : Inhabited Ent := ⟨⟨ByteArray.empty, false, []⟩⟩
  obtain ⟨f, hf2⟩ := choose_lt (α := Ent) (n := len) (p := fun i r => entAt W b (o + i * 3) r) (fun i hi => by
    obtain ⟨cs', h1, h2⟩ := hx i (by omega)
    obtain ⟨b', o', n', hadd, hfl⟩ := fields_at Try.underlying35 (hone_of (by kernel_rfl)) (by kernel_rfl) (by decide) h1 h2
    obtain ⟨V0, _, k0, t0⟩ := hfl 0 _ rfl
    obtain ⟨V1, _, k1, t1⟩ := hfl 1 _ rfl
    obtain ⟨V2, _, k2, t2⟩ := hfl 2 _ rfl
    obtain ⟨s, e0, _, _⟩ := DataW.trod_string Try.underlying9 t0
    obtain ⟨x, e1, _⟩ := DataW.trod_bool Try.underlying4 t1
    simp only [List.cons.injEq, and_true] at e0 e1
    subst e0 e1
    obtain ⟨ha, hc, zs, rfl, hby, hnil⟩ := open_hash t2
    rw [cells35, add_plain] at hadd
    simp only [Addr.mk.injEq, and_true] at hadd
    obtain ⟨rfl, rfl⟩ := hadd
    exact ⟨⟨s, x, zs⟩, ha, hc, by simpa using k0, k1, k2, hby, hnil⟩)
  refine ⟨(List.range len).map f, by simp, fun i hi => ?_⟩
  simp at hi
  exact ⟨b, o, rfl, by simpa using hf2 i hi⟩

theorem open_bools {H : Type} {enc : TypeId × Value → H} {W : World} {a : Option Addr} {len cap : Nat} {d : DataW H} {p : List MemPlace}
    (h : DataW.Trod enc Try.prog W 0 (fun _ => true) true 23 (.slice a len cap) d p) : ∃ bs : List Bool, len = bs.length ∧ boolsAt W a bs := by
  obtain ⟨fuel, hf⟩ := h
  rcases open_slice1 Try.underlying23 cells4 hf with ⟨hcs, _⟩ | ⟨ad, len', cap', m, n, V, D, Pl, hcs, _, hl, _, hm, _, hx⟩
  · simp [Value.cells] at hcs
    obtain ⟨rfl, rfl, rfl⟩ := hcs
    exact ⟨[], rfl, fun i hi => absurd hi (Nat.not_lt_zero _)⟩
  simp [Value.cells] at hcs
  obtain ⟨rfl, rfl, rfl⟩ := hcs
  simp only [if_true] at hm
  obtain ⟨f, hf2⟩ := choose_lt (α := Bool) (n := len) (p := fun i r => W.cell? (ad.add i) = some (.bool r)) (fun i hi => by
    obtain ⟨h1, h2⟩ := hx i (by omega)
    obtain ⟨x, e, _⟩ := DataW.trod_bool Try.underlying4 h2
    simp only [List.cons.injEq, and_true] at e
    exact ⟨x, by rw [h1, e]⟩)
  refine ⟨(List.range len).map f, by simp, fun i hi => ?_⟩
  simp at hi
  obtain ⟨b, o, spot⟩ := ad
  have h0 := hf2 0 (by omega)
  have hspot : spot = none := by simpa [Addr.add] using World.cell?_spot h0
  subst hspot
  refine ⟨b, o, rfl, ?_⟩
  have := hf2 i hi
  rw [add_plain] at this
  simpa using this
end Go.Proofs.Qxb6617603a
