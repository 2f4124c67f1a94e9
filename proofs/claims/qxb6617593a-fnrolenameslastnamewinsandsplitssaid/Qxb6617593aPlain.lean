/-
  The plain law: what a map filled from a list of roles holds: the last name of each id. No Go in sight.
-/
import Derived.Maps.OwnSet
import Derived.Maps.StringElems
namespace Go.Proofs.Qxb6617593a
open Go.Maps

/-- One role: its id and its name. -/
abbrev Role := Int × ByteArray
def kl (a : Int) : Lit := .int .i64 a
def nm (s : ByteArray) : DataW Unit := .lit (.string s.data.toList)
/-- The map filled from R's end to its head. -/
def mapR : List Role → DataW Unit
  | [] => .map []
  | p :: r => (mapR r).put (kl p.1) (nm p.2)
def mapOf (L : List Role) : DataW Unit := mapR L.reverse
def hasR (R : List Role) (a : Int) : Bool := R.any fun p => p.1 == a
/-- The name of the first of R with that id. -/
def nameR (R : List Role) (a : Int) : ByteArray := match R.find? (fun p => p.1 == a) with
  | some p => p.2
  | none => ByteArray.empty

theorem key_kl (a : Int) : WideAt.IsKeyLit (kl a) := by
  trivial
theorem kl_inj {a b : Int} (h : ¬ a = b) : kl a ≠ kl b := fun e => h (by injection e)
theorem tidy_mapR : ∀ R, Tidy (mapR R)
  | [] => tidy_empty
  | _ :: r => (tidy_mapR r).put (key_kl _) _
theorem has_mapR (a : Int) : ∀ R, has (mapR R) (kl a) = hasR R a
  | [] => rfl
  | p :: r => by
    unfold mapR hasR
    rw [List.any_cons]
    by_cases h : p.1 = a
    · subst h
      rw [has_put_same (tidy_mapR r).isMap (key_kl _)]; simp
    · rw [has_put_other (fun e => kl_inj h e.symm), has_mapR a r]
      have : (p.1 == a) = false := by simpa using h
      rw [this]; rfl
theorem at_mapR (a : Int) : ∀ R, (mapR R).atKey (kl a) (nm ByteArray.empty) = nm (nameR R a)
  | [] => rfl
  | p :: r => by
    unfold mapR nameR
    rw [List.find?_cons]
    by_cases h : p.1 = a
    · subst h
      rw [atKey_put_same (tidy_mapR r).isMap (key_kl _)]; simp
    · rw [atKey_put_other (fun e => kl_inj h e.symm), at_mapR a r]
      have : (p.1 == a) = false := by simpa using h
      rw [this]; rfl
theorem size_mapR (p : Role) (r : List Role) : Maps.size (mapR (p :: r)) = if hasR r p.1 = true then Maps.size (mapR r) else Maps.size (mapR r) + 1 := by
  show Maps.size ((mapR r).put (kl p.1) (nm p.2)) = _
  rw [size_put (tidy_mapR r), has_mapR]
theorem nm_inj {s t : ByteArray} (h : nm s = nm t) : s = t := by
  unfold nm at h
  injection h with h
  injection h with h
  exact WideShapes.bytes_inj h

/-- The roles from lo up to hi. -/
def seg (L : List Role) (lo hi : Nat) : List Role := (L.take hi).drop lo
theorem seg_self (L : List Role) (lo : Nat) : seg L lo lo = [] := by
  unfold seg; apply List.drop_eq_nil_of_le; simp; omega
theorem seg_snoc (L : List Role) (lo k : Nat) (h1 : lo ≤ k) (h2 : k < L.length) : seg L lo (k + 1) = seg L lo k ++ [L[k]] := by
  unfold seg
  rw [List.take_succ_eq_append_getElem h2, List.drop_append_of_le_length (by simp; omega)]
theorem seg_cons (L : List Role) (lo hi : Nat) (h1 : lo < hi) (h2 : lo < L.length) : seg L lo hi = L[lo] :: seg L (lo + 1) hi := by
  unfold seg
  rw [List.drop_eq_getElem_cons (by simp; omega)]
  simp
theorem map_snoc (L : List Role) (lo k : Nat) (h1 : lo ≤ k) (h2 : k < L.length) : mapOf (seg L lo (k + 1)) = (mapOf (seg L lo k)).put (kl L[k].1) (nm L[k].2) := by
  unfold mapOf
  rw [seg_snoc L lo k h1 h2, List.reverse_append]; rfl
theorem size_snoc (L : List Role) (lo k : Nat) (h1 : lo ≤ k) (h2 : k < L.length) :
    Maps.size (mapOf (seg L lo (k + 1))) = if hasR (seg L lo k) L[k].1 = true then Maps.size (mapOf (seg L lo k)) else Maps.size (mapOf (seg L lo k)) + 1 := by
  have := size_mapR L[k] (seg L lo k).reverse
  unfold mapOf
  rw [seg_snoc L lo k h1 h2, List.reverse_append]
  show Maps.size (mapR (L[k] :: (seg L lo k).reverse)) = _
  rw [this]
  congr 1
  simp [hasR, List.any_reverse]
theorem mem_seg {L : List Role} {lo hi : Nat} {p : Role} : p ∈ seg L lo hi ↔ ∃ j, lo ≤ j ∧ j < hi ∧ L[j]? = some p := by
  unfold seg
  rw [List.mem_iff_getElem?]
  constructor
  · rintro ⟨i, hi'⟩
    rw [List.getElem?_drop, List.getElem?_take] at hi'
    split at hi'
    · exact ⟨lo + i, by omega, by omega, hi'⟩
    · cases hi'
  · rintro ⟨j, h1, h2, h3⟩
    refine ⟨j - lo, ?_⟩
    rw [List.getElem?_drop, List.getElem?_take, show lo + (j - lo) = j by omega, if_pos h2]
    exact h3
theorem has_seg {L : List Role} {lo hi : Nat} {a : Int} : hasR (seg L lo hi) a = true ↔ ∃ j, ∃ h : j < L.length, lo ≤ j ∧ j < hi ∧ L[j].1 = a := by
  unfold hasR
  rw [List.any_eq_true]
  constructor
  · rintro ⟨p, hp, hpa⟩
    obtain ⟨j, h1, h2, h3⟩ := mem_seg.1 hp
    obtain ⟨h4, h5⟩ := List.getElem?_eq_some_iff.1 h3
    exact ⟨j, h4, h1, h2, by rw [h5]; simpa using hpa⟩
  · rintro ⟨j, h4, h1, h2, h5⟩
    exact ⟨L[j], mem_seg.2 ⟨j, h1, h2, List.getElem?_eq_getElem h4⟩, by simpa using h5⟩
theorem has_of {L : List Role} {lo hi : Nat} (i : Nat) (hl : hi ≤ L.length) (h1 : lo ≤ i) (h2 : i < hi) : hasR (seg L lo hi) (L[i]'(by omega)).1 = true :=
  has_seg.2 ⟨i, by omega, h1, h2, rfl⟩

/-- The name of the last of L with that id. -/
def lastName (L : List Role) (a : Int) : ByteArray := nameR L.reverse a
theorem last_hit {L : List Role} {lo hi j : Nat} (a : Int) (hl : hi ≤ L.length) (h1 : lo ≤ j) (h2 : j < hi) (hj : (L[j]'(by omega)).1 = a) (hno : ∀ j', ∀ h : j' < L.length, j < j' → j' < hi → ¬ L[j'].1 = a) :
    lastName (seg L lo hi) a = (L[j]'(by omega)).2 := by
  have e : seg L lo hi = seg L lo j ++ L[j]'(by omega) :: seg L (j + 1) hi := by
    rw [← seg_cons L j hi h2 (by omega)]
    unfold seg
    have : L.take hi = L.take j ++ (L.take hi).drop j := by
      rw [show L.take j = (L.take hi).take j by rw [List.take_take]; congr 1; omega, List.take_append_drop]
    conv => lhs; rw [this]
    rw [List.drop_append_of_le_length (by simp; omega)]
  unfold lastName nameR
  rw [e, List.reverse_append, List.reverse_cons, List.append_assoc, List.find?_append]
  have hn : (seg L (j + 1) hi).reverse.find? (fun p => p.1 == a) = none := by
    rw [List.find?_eq_none]
    intro p hp
    obtain ⟨j', g1, g2, g3⟩ := mem_seg.1 (List.mem_reverse.1 hp)
    obtain ⟨g4, g5⟩ := List.getElem?_eq_some_iff.1 g3
    have := hno j' g4 (by omega) g2
    rw [g5] at this
    simpa using this
  rw [hn]
  simp [hj]
theorem last_append (A B : List Role) (a : Int) : lastName (A ++ B) a = if hasR B a = true then lastName B a else lastName A a := by
  unfold lastName nameR
  rw [List.reverse_append, List.find?_append]
  by_cases h : hasR B a = true
  · rw [if_pos h]
    cases hf : B.reverse.find? (fun p => p.1 == a) with
    | some p => rfl
    | none =>
      exfalso
      rw [List.find?_eq_none] at hf
      unfold hasR at h
      obtain ⟨p, hp, hpa⟩ := List.any_eq_true.1 h
      exact hf p (List.mem_reverse.2 hp) hpa
  · rw [if_neg h]
    have hf : B.reverse.find? (fun p => p.1 == a) = none := by
      rw [List.find?_eq_none]
      intro p hp hpa
      exact h (List.any_eq_true.2 ⟨p, List.mem_reverse.1 hp, hpa⟩)
    rw [hf]; rfl
theorem has_append (A B : List Role) (a : Int) : hasR (A ++ B) a = (hasR A a || hasR B a) := by
  unfold hasR; rw [List.any_append]
theorem sizeR_le : ∀ R : List Role, Maps.size (mapR R) ≤ R.length
  | [] => Nat.le_refl _
  | p :: r => by
    have := sizeR_le r
    rw [size_mapR, List.length_cons]
    split <;> omega
theorem size_le (L : List Role) (lo k : Nat) : Maps.size (mapOf (seg L lo k)) ≤ L.length := by
  refine Nat.le_trans (sizeR_le _) ?_
  rw [List.length_reverse]
  unfold seg
  simp; omega
end Go.Proofs.Qxb6617593a
