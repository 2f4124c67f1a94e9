/-
  The two parts of the copied roles.
-/
import Derived.Test.Qxb6617593aBase
namespace Go.Proofs.Qxb6617593a
open Go.RowKit Go.Maps

theorem run_bound (q y : Nat) (h : q ≤ y) (code : BoundsCode) (w : World) : (Instr.sliceBound (.int .i64 (q : Int)) y code).run Try.prog w = .ok q w := by
  simp [Instr.sliceBound, asIntOf]
  omega
theorem map_add0 (a : Option Addr) : a.map (·.add 0) = a := by
  cases a with
  | none => rfl
  | some a => cases a; rfl
theorem slice_lo (a : Option Addr) (n c q : Nat) (h : q ≤ c) (w : World) :
    (Instr.slice 29 (.slice a n c) none (some (.int .i64 (q : Int))) none).run Try.prog w = .ok (.slice a q c) w := by
  simp [Instr.slice, Instr.sliceBounds, run_underlying Try.underlying29, run_bound q c h, Result.andThen, map_add0]
theorem slice_hi (a : Option Addr) (n c q : Nat) (h : q ≤ n) (w : World) :
    (Instr.slice 29 (.slice a n c) (some (.int .i64 (q : Int))) none none).run Try.prog w = .ok (.slice (if c = q then a else a.map (·.add (q * 2))) (n - q) (c - q)) w := by
  simp [Instr.slice, Instr.sliceBounds, run_underlying Try.underlying29, run_bound q n h, Result.andThen]
theorem roles_lo {w : World} {a : Option Addr} {L : List Role} (h : rolesAt w a L) (q : Nat) : rolesAt w a (L.take q) := by
  intro i hi
  rw [List.length_take] at hi
  have := h i (by omega)
  simpa [List.getElem_take] using this
theorem roles_hi {w : World} {a : Option Addr} {L : List Role} {n c : Nat} (h : rolesAt w a L) (hn : n = L.length) (hc : n ≤ c) (q : Nat) : rolesAt w (if c = q then a else a.map (·.add (q * 2))) (L.drop q) := by
  intro i hi
  rw [List.length_drop] at hi
  rw [if_neg (by omega)]
  obtain ⟨b, o, rfl, h0, h1⟩ := h (q + i) (by omega)
  refine ⟨b, o + q * 2, by simp [Addr.add], ?_, ?_⟩
  · rw [show o + q * 2 + i * 2 = o + (q + i) * 2 by omega, h0]; simp [List.getElem_drop]
  · rw [show o + q * 2 + i * 2 + 1 = o + (q + i) * 2 + 1 by omega, h1]; simp [List.getElem_drop]
end Go.Proofs.Qxb6617593a
