/-
  The plain law: the entries that are kept where a bool is false. No Go in sight.
-/
namespace Go.Proofs.Qxb6617603a
/-- The elements at which the bool is false. -/
def keep {α : Type} : List α → List Bool → List α
  | x :: l, b :: bs => if b = true then keep l bs else x :: keep l bs
  | _, _ => []
theorem keep_nil {α : Type} (bs : List Bool) : keep ([] : List α) bs = [] := by cases bs <;> rfl
theorem keep_append {α : Type} : ∀ (l l' : List α) (bs bs' : List Bool), l.length = bs.length → keep (l ++ l') (bs ++ bs') = keep l bs ++ keep l' bs'
  | [], _, [], _, _ => rfl
  | x :: l, l', b :: bs, bs', h => by
    have := keep_append l l' bs bs' (by simpa using h)
    simp only [List.cons_append, keep, this]
    split <;> simp
theorem keep_le {α : Type} : ∀ (l : List α) (bs : List Bool), (keep l bs).length ≤ l.length
  | [], bs => by simp [keep_nil]
  | x :: l, [] => by simp [keep]
  | x :: l, b :: bs => by
    have := keep_le l bs
    simp only [keep]
    split <;> simp <;> omega
theorem keep_mem {α : Type} {p : α → Prop} : ∀ (l : List α) (bs : List Bool), (∀ x ∈ l, p x) → ∀ x ∈ keep l bs, p x
  | [], bs, _, x, hx => by simp [keep_nil] at hx
  | y :: l, [], _, x, hx => by simp [keep] at hx
  | y :: l, b :: bs, h, x, hx => by
    have ih := keep_mem l bs (fun z hz => h z (List.mem_cons_of_mem _ hz))
    simp only [keep] at hx
    split at hx
    · exact ih x hx
    · rcases List.mem_cons.1 hx with rfl | hx
      · exact h _ List.mem_cons_self
      · exact ih x hx
/-- One more. -/
theorem keep_snoc {α : Type} (l : List α) (bs : List Bool) (k : Nat) (h1 : k < l.length) (h2 : k < bs.length) :
    keep (l.take (k + 1)) (bs.take (k + 1)) = keep (l.take k) (bs.take k) ++ (if bs[k] = true then [] else [l[k]]) := by
  rw [List.take_succ_eq_append_getElem h1, List.take_succ_eq_append_getElem h2, keep_append _ _ _ _ (by simp; omega)]
  congr 1
/-- The bools beyond the list do not count. -/
theorem keep_take {α : Type} : ∀ (l : List α) (bs : List Bool), keep l (bs.take l.length) = keep l bs
  | [], bs => by simp [keep_nil]
  | x :: l, [] => by simp [keep]
  | x :: l, b :: bs => by
    simp only [List.length_cons, List.take_succ_cons, keep, keep_take l bs]
/-- How many are kept among the first k. -/
def cnt (bs : List Bool) : Nat := (bs.filter (fun b => !b)).length
theorem keep_length {α : Type} : ∀ (l : List α) (bs : List Bool), l.length = bs.length → (keep l bs).length = cnt bs
  | [], [], _ => rfl
  | x :: l, b :: bs, h => by
    have := keep_length l bs (by simpa using h)
    cases b <;> simp [keep, cnt, this] <;> rfl
theorem cnt_snoc (bs : List Bool) (k : Nat) (h : k < bs.length) : cnt (bs.take (k + 1)) = cnt (bs.take k) + (if bs[k] = true then 0 else 1) := by
  unfold cnt
  rw [List.take_succ_eq_append_getElem h, List.filter_append, List.length_append]
  cases bs[k] <;> simp
/-- The next that is kept. -/
theorem keep_at {α : Type} (l : List α) (bs : List Bool) (k : Nat) (h1 : k < l.length) (h2 : k < bs.length) (hb : bs[k] = false) :
    (keep l bs)[cnt (bs.take k)]? = some l[k] := by
  have e : keep l bs = keep (l.take k) (bs.take k) ++ l[k] :: keep (l.drop (k + 1)) (bs.drop (k + 1)) := by
    conv => lhs; rw [← List.take_append_drop k l, ← List.take_append_drop k bs]
    rw [keep_append _ _ _ _ (by simp; omega), List.drop_eq_getElem_cons h1, List.drop_eq_getElem_cons h2]
    simp [keep, hb]
  rw [e, List.getElem?_append_right (by rw [keep_length _ _ (by simp; omega)]; exact Nat.le_refl _), keep_length _ _ (by simp; omega)]
  simp
/-- The bools turned. -/
def neg (bs : List Bool) : List Bool := bs.map (fun b => !b)
end Go.Proofs.Qxb6617603a
