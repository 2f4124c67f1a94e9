/-
  What the two slices' readings say of memory: the walks' hypotheses.
-/
import Derived.Test.Qxb6617593aRows
import Derived.Test.Qxb6617593aBase
import Derived.ProofKit
import Derived.Deep.Slices
import Derived.Deep.Fields
namespace Go.Proofs.Qxb6617593a
open Go.ChangeShapes Go.WideShapes Go.ChangeAt Go.RowKit Go.Deep

section
variable {H : Type} {enc : TypeId × Value → H} {P : Program} {w : World} {base : Nat} {spare : Nat → Bool} {held : Bool}
/-- A struct whose fields are one cell each, read at an address: field by field. -/
theorem fields_at {ts : TypeId} {fs : Array Field} {n : Nat} {a : Addr} {cs : List Value} {y : DataW H × List MemPlace} (hs : P.underlying ts = some (.struct fs))
    (hone : ∀ (i : Nat) (f : Field), fs[i]? = some f → f.offset = i ∧ P.cellsOf f.type = 1) (hC : P.cellsOf ts = fs.size) (hpos : 0 < fs.size)
    (hcells : w.cells? base a (P.cellsOf ts) = some cs) (hy : DataW.trod enc P w base spare held n ts cs = some y) :
    ∃ (b o n' : Nat), a = ⟨b, o, none⟩ ∧ ∀ (i : Nat) (f : Field), fs[i]? = some f → ∃ V Y, w.cell? ⟨b, o + i, none⟩ = some V ∧ DataW.trod enc P w base spare held n' f.type [V] = some Y := by
  obtain ⟨_, hlen, hcell⟩ := World.cells?_some hcells
  rw [hC] at hlen hcell
  obtain ⟨xs, m, _, _, _, hxl, hf⟩ := DataW.trod_struct hs hy
  obtain ⟨b, o, spot⟩ := a
  have h0 := hcell 0 hpos
  rw [List.getElem?_eq_getElem (by omega)] at h0
  have hspot : spot = none := by simpa [Addr.add] using World.cell?_spot h0
  subst hspot
  refine ⟨b, o, m, rfl, fun i f hi => ?_⟩
  have hlt : i < fs.size := (Array.getElem?_eq_some_iff.1 hi).1
  obtain ⟨ho, hc1⟩ := hone i f hi
  have g := hf i f hi
  rw [ho, hc1, take1_drop cs i undef (by omega), List.getElem?_eq_getElem (by omega)] at g
  have c := hcell i hlt
  rw [add_plain, List.getElem?_eq_getElem (by omega)] at c
  refine ⟨cs.getD i undef, _, ?_, g⟩
  rw [c]
  simp [List.getD, List.getElem?_eq_getElem (show i < cs.length by omega)]
end

theorem cells26 : Try.prog.cellsOf 26 = 2 := by kernel_rfl
theorem cells28 : Try.prog.cellsOf 28 = 11 := by kernel_rfl

/-- The address of a slice with an element that is a struct is plain. -/
theorem plain_addr {W : World} {ad : Addr} {k : Nat} {cs : List Value} (hk : 0 < k) (h : W.cells? 0 (ad.add (0 * k)) k = some cs) : ∃ b o, ad = ⟨b, o, none⟩ := by
  obtain ⟨_, hlen, hcell⟩ := World.cells?_some h
  have h0 := hcell 0 hk
  rw [List.getElem?_eq_getElem (by omega)] at h0
  obtain ⟨b, o, spot⟩ := ad
  have hspot : spot = none := by simpa [Addr.add] using World.cell?_spot h0
  subst hspot
  exact ⟨b, o, rfl⟩

theorem open_roles {H : Type} {enc : TypeId × Value → H} {W : World} {a : Option Addr} {len cap : Nat} {d : DataW H} {p : List MemPlace}
    (h : DataW.Trod enc Try.prog W 0 (fun _ => true) true 22 (.slice a len cap) d p) : ∃ L : List Role, len = L.length ∧ rolesAt W a L ∧ okRoles L ∧ (a = none → len = 0) := by
  obtain ⟨fuel, hf⟩ := h
  rcases open_slice Try.underlying22 hf with ⟨hcs, _⟩ | ⟨ad, len', cap', m, n, D, Pl, hcs, _, hl, _, hm, _, hx⟩
  · simp [Value.cells] at hcs
    obtain ⟨rfl, rfl, rfl⟩ := hcs
    exact ⟨[], rfl, fun i hi => absurd hi (Nat.not_lt_zero _), fun p hp => absurd hp (List.not_mem_nil), fun _ => rfl⟩
  simp [Value.cells] at hcs
  obtain ⟨rfl, rfl, rfl⟩ := hcs
  simp only [if_true] at hm
  by_cases hz : len = 0
  · subst hz
    exact ⟨[], rfl, fun i hi => absurd hi (Nat.not_lt_zero _), fun p hp => absurd hp (List.not_mem_nil), fun _ => rfl⟩
  obtain ⟨b, o, rfl⟩ : ∃ b o, ad = ⟨b, o, none⟩ := by
    obtain ⟨cs', h1, _⟩ := hx 0 (by omega)
    rw [cells26] at h1
    exact plain_addr (by decide) h1
  obtain ⟨f, hf2⟩ := choose_lt (α := Role) (n := len) (p := fun i r => W.cell? ⟨b, o + i * 2, none⟩ = some (.int .i64 r.1) ∧ W.cell? ⟨b, o + i * 2 + 1, none⟩ = some (.string r.2) ∧ (Lit.int .i64 r.1).wf = true ∧ r.2.size ≤ maxLen) (fun i hi => by
    obtain ⟨cs', h1, h2⟩ := hx i (by omega)
    obtain ⟨b', o', n', hadd, hfl⟩ := fields_at Try.underlying26 (hone_of (by kernel_rfl)) (by kernel_rfl) (by decide) h1 h2
    obtain ⟨V0, Y0, k0, t0⟩ := hfl 0 _ rfl
    obtain ⟨V1, Y1, k1, t1⟩ := hfl 1 _ rfl
    obtain ⟨x, e0, _, hwf⟩ := DataW.trod_int Try.underlying2 t0
    obtain ⟨s, e1, _, hsz⟩ := DataW.trod_string Try.underlying9 t1
    simp only [List.cons.injEq, and_true] at e0 e1
    subst e0 e1
    rw [cells26, add_plain] at hadd
    simp only [Addr.mk.injEq, and_true] at hadd
    obtain ⟨rfl, rfl⟩ := hadd
    exact ⟨(x, s), by simpa using k0, k1, hwf, hsz⟩)
  refine ⟨(List.range len).map f, by simp, fun i hi => ?_, fun p hp => ?_, fun h => by cases h⟩
  · simp at hi
    obtain ⟨h1, h2, _⟩ := hf2 i hi
    exact ⟨b, o, rfl, by simpa using h1, by simpa using h2⟩
  · obtain ⟨i, hi, rfl⟩ := List.mem_map.1 hp
    obtain ⟨_, _, h3, h4⟩ := hf2 i (List.mem_range.1 hi)
    exact ⟨h3, h4⟩

theorem open_attrs {H : Type} {enc : TypeId × Value → H} {W : World} {a : Option Addr} {len cap : Nat} {d : DataW H} {p : List MemPlace}
    (h : DataW.Trod enc Try.prog W 0 (fun _ => true) true 23 (.slice a len cap) d p) : ∃ M : List Attr, len = M.length ∧ attrsAt W a M ∧ (a = none → len = 0) := by
  obtain ⟨fuel, hf⟩ := h
  rcases open_slice Try.underlying23 hf with ⟨hcs, _⟩ | ⟨ad, len', cap', m, n, D, Pl, hcs, _, hl, _, hm, _, hx⟩
  · simp [Value.cells] at hcs
    obtain ⟨rfl, rfl, rfl⟩ := hcs
    exact ⟨[], rfl, fun i hi => absurd hi (Nat.not_lt_zero _), fun _ => rfl⟩
  simp [Value.cells] at hcs
  obtain ⟨rfl, rfl, rfl⟩ := hcs
  simp only [if_true] at hm
  by_cases hz : len = 0
  · subst hz
    exact ⟨[], rfl, fun i hi => absurd hi (Nat.not_lt_zero _), fun _ => rfl⟩
  obtain ⟨b, o, rfl⟩ : ∃ b o, ad = ⟨b, o, none⟩ := by
    obtain ⟨cs', h1, _⟩ := hx 0 (by omega)
    rw [cells28] at h1
    exact plain_addr (by decide) h1
  have inh : Inhabited Attr := ⟨⟨0, ByteArray.empty, ByteArray.empty, ByteArray.empty, ByteArray.empty, false, false, false, false, false, ByteArray.empty⟩⟩
  obtain ⟨f, hf2⟩ := choose_lt (α := Attr) (n := len) (p := fun i r => W.cell? ⟨b, o + i * 11, none⟩ = some (.int .i64 r.id) ∧
    W.cell? ⟨b, o + i * 11 + 1, none⟩ = some (.string r.s1) ∧ W.cell? ⟨b, o + i * 11 + 2, none⟩ = some (.string r.s2) ∧ W.cell? ⟨b, o + i * 11 + 3, none⟩ = some (.string r.s3) ∧
    W.cell? ⟨b, o + i * 11 + 4, none⟩ = some (.string r.s4) ∧ W.cell? ⟨b, o + i * 11 + 5, none⟩ = some (.bool r.b5) ∧ W.cell? ⟨b, o + i * 11 + 6, none⟩ = some (.bool r.b6) ∧
    W.cell? ⟨b, o + i * 11 + 7, none⟩ = some (.bool r.b7) ∧ W.cell? ⟨b, o + i * 11 + 8, none⟩ = some (.bool r.b8) ∧ W.cell? ⟨b, o + i * 11 + 9, none⟩ = some (.bool r.b9) ∧
    W.cell? ⟨b, o + i * 11 + 10, none⟩ = some (.string r.s10)) (fun i hi => by
    obtain ⟨cs', h1, h2⟩ := hx i (by omega)
    obtain ⟨b', o', n', hadd, hfl⟩ := fields_at Try.underlying28 (hone_of (by kernel_rfl)) (by kernel_rfl) (by decide) h1 h2
    obtain ⟨V0, _, k0, t0⟩ := hfl 0 _ rfl
    obtain ⟨V1, _, k1, t1⟩ := hfl 1 _ rfl
    obtain ⟨V2, _, k2, t2⟩ := hfl 2 _ rfl
    obtain ⟨V3, _, k3, t3⟩ := hfl 3 _ rfl
    obtain ⟨V4, _, k4, t4⟩ := hfl 4 _ rfl
    obtain ⟨V5, _, k5, t5⟩ := hfl 5 _ rfl
    obtain ⟨V6, _, k6, t6⟩ := hfl 6 _ rfl
    obtain ⟨V7, _, k7, t7⟩ := hfl 7 _ rfl
    obtain ⟨V8, _, k8, t8⟩ := hfl 8 _ rfl
    obtain ⟨V9, _, k9, t9⟩ := hfl 9 _ rfl
    obtain ⟨V10, _, k10, t10⟩ := hfl 10 _ rfl
    obtain ⟨x, e0, _, _⟩ := DataW.trod_int Try.underlying2 t0
    obtain ⟨s1, e1, _, _⟩ := DataW.trod_string Try.underlying9 t1
    obtain ⟨s2, e2, _, _⟩ := DataW.trod_string Try.underlying9 t2
    obtain ⟨s3, e3, _, _⟩ := DataW.trod_string Try.underlying9 t3
    obtain ⟨s4, e4, _, _⟩ := DataW.trod_string Try.underlying9 t4
    obtain ⟨b5, e5, _⟩ := DataW.trod_bool Try.underlying4 t5
    obtain ⟨b6, e6, _⟩ := DataW.trod_bool Try.underlying4 t6
    obtain ⟨b7, e7, _⟩ := DataW.trod_bool Try.underlying4 t7
    obtain ⟨b8, e8, _⟩ := DataW.trod_bool Try.underlying4 t8
    obtain ⟨b9, e9, _⟩ := DataW.trod_bool Try.underlying4 t9
    obtain ⟨s10, e10, _, _⟩ := DataW.trod_string Try.underlying9 t10
    simp only [List.cons.injEq, and_true] at e0 e1 e2 e3 e4 e5 e6 e7 e8 e9 e10
    subst e0 e1 e2 e3 e4 e5 e6 e7 e8 e9 e10
    rw [cells28, add_plain] at hadd
    simp only [Addr.mk.injEq, and_true] at hadd
    obtain ⟨rfl, rfl⟩ := hadd
    exact ⟨⟨x, s1, s2, s3, s4, b5, b6, b7, b8, b9, s10⟩, by simpa using k0, k1, k2, k3, k4, k5, k6, k7, k8, k9, k10⟩)
  refine ⟨(List.range len).map f, by simp, fun i hi => ?_, fun h => by cases h⟩
  simp at hi
  obtain ⟨h0, h1, h2, h3, h4, h5, h6, h7, h8, h9, h10⟩ := hf2 i hi
  refine ⟨b, o, rfl, ?_, ?_, ?_, ?_, ?_, ?_, ?_, ?_, ?_, ?_, ?_⟩ <;> simp only [List.getElem_map, List.getElem_range] <;> assumption
end Go.Proofs.Qxb6617593a
