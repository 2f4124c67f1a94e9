/-
  The plain law: the automaton's longest accepted start is what 'numberPrefix' reckons; and that start, cut off, is read whole again. No Go in sight.
-/
namespace Go.Proofs.Qxb6617082a

/-- A byte as the walk spells it. -/
def isDig (c : UInt8) : Bool := decide (48 ≤ (c.toNat : Int) ∧ (c.toNat : Int) ≤ 57)
def isSgn (c : UInt8) : Bool := decide ((c.toNat : Int) = 43 ∨ (c.toNat : Int) = 45)
def isExp (c : UInt8) : Bool := decide ((c.toNat : Int) = 101 ∨ (c.toNat : Int) = 69)
/-- The letters of Infinity. -/
def infL : List UInt8 := [73, 110, 102, 105, 110, 105, 116, 121]

/-- One step of the automaton, at the states that are reached. -/
def step (st : Nat) (c : UInt8) : Option Nat :=
  if 10 ≤ st then (if infL[st - 10]? = some c then some (st + 1) else none)
  else if st = 0 ∧ isSgn c = true then some 1
  else if st ≤ 1 then (if isDig c = true then some 2 else if c = 46 then some 3 else if c = 73 then some 11 else none)
  else if st = 2 then (if isDig c = true then some 2 else if c = 46 then some 4 else if isExp c = true then some 6 else none)
  else if st = 3 then (if isDig c = true then some 5 else none)
  else if st ≤ 5 then (if isDig c = true then some 5 else if isExp c = true then some 6 else none)
  else if st = 6 then (if isSgn c = true then some 7 else if isDig c = true then some 8 else none)
  else if st ≤ 8 then (if isDig c = true then some 8 else none)
  else none
def acc (st : Nat) : Bool := decide (st = 2 ∨ st = 4 ∨ st = 5 ∨ st = 8 ∨ st = 18)

/-- The longest accepted start, seen from state 'st' at index 'i', the best so far 'b'. -/
def best : Nat → List UInt8 → Nat → Nat → Nat
  | _, [], _, b => b
  | st, c :: r, i, b => match step st c with
    | none => b
    | some st' => best st' r (i + 1) (if acc st' = true then i + 1 else b)

def digs (l : List UInt8) : Nat := (l.takeWhile isDig).length
def sgn : List UInt8 → Nat
  | c :: _ => if isSgn c = true then 1 else 0
  | [] => 0
/-- The length of an exponent at the head. -/
def expo : List UInt8 → Nat
  | c :: r => if isExp c = true then (if digs (r.drop (sgn r)) = 0 then 0 else 1 + sgn r + digs (r.drop (sgn r))) else 0
  | [] => 0
/-- The length of a fraction at the head, the point included; 0 where there is no point. -/
def frac : List UInt8 → Nat
  | c :: r => if c = 46 then 1 + digs r else 0
  | [] => 0
/-- What follows the sign. -/
def body (r : List UInt8) : Nat :=
  if infL.isPrefixOf r = true then 8
  else if digs r + (frac (r.drop (digs r)) - 1) = 0 then 0
  else digs r + frac (r.drop (digs r)) + expo (r.drop (digs r + frac (r.drop (digs r))))
def np (l : List UInt8) : Nat :=
  if body (l.drop (sgn l)) = 0 then 0 else sgn l + body (l.drop (sgn l))

theorem digs_nil : digs [] = 0 := rfl
theorem digs_cons (c : UInt8) (r : List UInt8) : digs (c :: r) = if isDig c = true then 1 + digs r else 0 := by
  unfold digs
  rw [List.takeWhile_cons]
  cases h : isDig c <;> simp [Nat.add_comm]
theorem dig_not {c : UInt8} (h : isDig c = true) : isSgn c = false ∧ isExp c = false ∧ c ≠ 46 ∧ c ≠ 73 := by
  simp only [isDig, decide_eq_true_eq] at h
  refine ⟨?_, ?_, ?_, ?_⟩
  · simp only [isSgn, decide_eq_false_iff_not]; omega
  · simp only [isExp, decide_eq_false_iff_not]; omega
  · rintro rfl; simp at h
  · rintro rfl; simp at h
theorem sgn_not {c : UInt8} (h : isSgn c = true) : isDig c = false ∧ isExp c = false ∧ c ≠ 46 ∧ c ≠ 73 := by
  simp only [isSgn, decide_eq_true_eq] at h
  refine ⟨?_, ?_, ?_, ?_⟩
  · simp only [isDig, decide_eq_false_iff_not]; omega
  · simp only [isExp, decide_eq_false_iff_not]; omega
  · rintro rfl; simp at h
  · rintro rfl; simp at h
theorem exp_not46 {c : UInt8} (h : isExp c = true) : c ≠ 46 := by
  rintro rfl; simp [isExp] at h
theorem dot_not : isDig 46 = false ∧ isSgn 46 = false ∧ isExp 46 = false := by decide
theorem I_not : isDig 73 = false ∧ isSgn 73 = false ∧ isExp 73 = false := by decide

/-! ### the automaton, state by state -/
theorem best8 : ∀ (r : List UInt8) (i : Nat), best 8 r i i = i + digs r
  | [], i => by simp [best, digs_nil]
  | c :: r, i => by
    rw [digs_cons]
    cases h : isDig c
    · simp [best, step, h]
    · have := best8 r (i + 1)
      simp [best, step, h, acc, this]; omega
theorem best7 (r : List UInt8) (i b : Nat) : best 7 r i b = if digs r = 0 then b else i + digs r := by
  cases r with
  | nil => simp [best, digs_nil]
  | cons c r =>
    rw [digs_cons]
    cases h : isDig c
    · simp [best, step, h]
    · have := best8 r (i + 1)
      simp [best, step, h, acc, this]; omega
theorem best6 (r : List UInt8) (i b : Nat) : best 6 r i b = if digs (r.drop (sgn r)) = 0 then b else i + sgn r + digs (r.drop (sgn r)) := by
  cases r with
  | nil => simp [best, digs_nil, sgn]
  | cons c r =>
    cases hs : isSgn c
    · simp only [sgn, hs, Bool.false_eq_true, if_false, List.drop_zero]
      rw [digs_cons]
      cases h : isDig c
      · simp [best, step, h, hs]
      · have := best8 r (i + 1)
        simp [best, step, h, hs, acc, this]; omega
    · have := best7 r (i + 1) b
      simp [best, step, hs, acc, this, sgn]
theorem best5 : ∀ (r : List UInt8) (i : Nat), best 5 r i i = i + digs r + expo (r.drop (digs r))
  | [], i => by simp [best, digs_nil, expo]
  | c :: r, i => by
    rw [digs_cons]
    cases h : isDig c
    · cases he : isExp c
      · simp [best, step, h, he, expo]
      · have := best6 r (i + 1) i
        simp [best, step, h, he, acc, this, expo]
        split <;> omega
    · have := best5 r (i + 1)
      simp [best, step, h, acc, this, Nat.add_comm 1 (digs r)]; omega
theorem best4 (r : List UInt8) (i b : Nat) : best 4 r i b = best 5 r i b := by
  cases r with
  | nil => rfl
  | cons c r => simp [best, step]
theorem best3 (r : List UInt8) (i b : Nat) : best 3 r i b = if digs r = 0 then b else i + digs r + expo (r.drop (digs r)) := by
  cases r with
  | nil => simp [best, digs_nil]
  | cons c r =>
    rw [digs_cons]
    cases h : isDig c
    · simp [best, step, h]
    · have := best5 r (i + 1)
      simp [best, step, h, acc, this, Nat.add_comm 1 (digs r)]; omega
theorem best2 : ∀ (r : List UInt8) (i : Nat), best 2 r i i = i + digs r + frac (r.drop (digs r)) + expo (r.drop (digs r + frac (r.drop (digs r))))
  | [], i => by simp [best, digs_nil, expo, frac]
  | c :: r, i => by
    rw [digs_cons]
    cases h : isDig c
    · by_cases hd : c = 46
      · subst hd
        have := best5 r (i + 1)
        simp [best, step, h, acc, best4, this, frac, Nat.add_comm 1 (digs r)]; omega
      · cases he : isExp c
        · simp [best, step, h, hd, he, expo, frac]
        · have := best6 r (i + 1) i
          simp [best, step, h, hd, he, acc, this, expo, frac]
          split <;> omega
    · have := best2 r (i + 1)
      have e1 : (c :: r).drop (1 + digs r) = r.drop (digs r) := by rw [Nat.add_comm, List.drop_succ_cons]
      have e2 : (c :: r).drop (1 + digs r + frac (r.drop (digs r))) = r.drop (digs r + frac (r.drop (digs r))) := by
        rw [Nat.add_assoc, Nat.add_comm 1, List.drop_succ_cons]
      simp only [if_true, e1, e2]
      simp [best, step, h, acc, this]; omega
/-- Behind j letters of Infinity. -/
theorem bestI (j : Nat) : ∀ (r : List UInt8) (i b : Nat), j ≤ 7 → best (18 - j - 1) r i b = if (infL.drop (7 - j)).isPrefixOf r = true then i + j + 1 else b := by
  induction j with
  | zero =>
    intro r i b _
    cases r with
    | nil => simp [best, infL]
    | cons c r =>
      by_cases hc : (121 : UInt8) = c
      · subst hc
        cases r with
        | nil => simp [best, step, infL, acc]
        | cons d r => simp [best, step, infL, acc]
      · simp [best, step, infL, hc]
  | succ j ih =>
    intro r i b hj
    cases r with
    | nil =>
      have : infL.drop (7 - (j + 1)) ≠ [] := by simp [infL]; omega
      cases h : infL.drop (7 - (j + 1)) with
      | nil => exact absurd h this
      | cons a t => simp [best]
    | cons c r =>
      have hl : 7 - (j + 1) < infL.length := by simp [infL]; omega
      have e1 : infL.drop (7 - (j + 1)) = infL[7 - (j + 1)] :: infL.drop (7 - j) := by
        rw [List.drop_eq_getElem_cons hl]; congr 2; omega
      have e2 : infL[18 - (j + 1) - 1 - 10]? = some infL[7 - (j + 1)] := by
        rw [show 18 - (j + 1) - 1 - 10 = 7 - (j + 1) by omega]; exact List.getElem?_eq_getElem hl
      have ha : acc (18 - j - 1) = false := by simp [acc]; omega
      have e3 : 18 - (j + 1) - 1 + 1 = 18 - j - 1 := by omega
      have h10 : 10 ≤ 18 - (j + 1) - 1 := by omega
      rw [e1, List.isPrefixOf_cons_cons]
      by_cases hc : infL[7 - (j + 1)] = c
      · have := ih r (i + 1) b (by omega)
        simp only [best, step, if_pos h10, e2, hc, if_true, e3, ha, Bool.false_eq_true, if_false, this, beq_self_eq_true, Bool.true_and]
        split <;> omega
      · have hb : (infL[7 - (j + 1)] == c) = false := by simpa using hc
        have hc' : ¬ (some infL[7 - (j + 1)] = some c) := fun h => hc (Option.some.inj h)
        simp only [best, step, if_pos h10, e2, if_neg hc', hb, Bool.false_and, Bool.false_eq_true, if_false]
theorem best11 (r : List UInt8) (i b : Nat) : best 11 r i b = if (infL.drop 1).isPrefixOf r = true then i + 7 else b := by
  have := bestI 6 r i b (by omega)
  simpa using this
theorem inf_cons (c : UInt8) (r : List UInt8) : infL.isPrefixOf (c :: r) = ((73 : UInt8) == c && (infL.drop 1).isPrefixOf r) := by
  unfold infL
  rw [List.isPrefixOf_cons_cons]
  rfl
theorem inf_not {c : UInt8} (h : c ≠ 73) (r : List UInt8) : infL.isPrefixOf (c :: r) = false := by
  have : ((73 : UInt8) == c) = false := by simpa using fun h' => h h'.symm
  rw [inf_cons, this, Bool.false_and]
/-- Behind the sign: one body for the states 0 (no sign at hand) and 1. -/
theorem best1 (st : Nat) (r : List UInt8) (i b : Nat) (hst : st = 1 ∨ (st = 0 ∧ sgn r = 0)) : best st r i b = if body r = 0 then b else i + body r := by
  cases r with
  | nil => simp [best, body, infL, digs_nil, frac]
  | cons c r =>
    have hs0 : ¬ (st = 0 ∧ isSgn c = true) := by
      rintro ⟨rfl, h⟩
      rcases hst with h1 | ⟨_, h1⟩
      · omega
      · simp [sgn, h] at h1
    have hst1 : st ≤ 1 := by omega
    have h10 : ¬ 10 ≤ st := by omega
    unfold body
    cases h : isDig c
    · by_cases hd : c = 46
      · subst hd
        have hp : infL.isPrefixOf (46 :: r) = false := inf_not (by decide) r
        have a3 : acc 3 = false := rfl
        have e0 : digs (46 :: r) = 0 := by rw [digs_cons, h]; rfl
        have := best3 r (i + 1) b
        simp only [best, step, if_neg h10, if_neg hs0, if_pos hst1, h, Bool.false_eq_true, if_false, if_true, a3, hp, e0, List.drop_zero, frac, this]
        simp only [Nat.zero_add, Nat.add_sub_cancel_left]
        by_cases h0 : digs r = 0
        · simp [h0]
        · simp [h0, Nat.add_comm 1 (digs r)]; omega
      · by_cases hI : c = 73
        · subst hI
          have hp : infL.isPrefixOf (73 :: r) = (infL.drop 1).isPrefixOf r := by rw [inf_cons]; simp only [beq_self_eq_true, Bool.true_and]
          have a11 : acc 11 = false := rfl
          have e0 : digs (73 :: r) = 0 := by rw [digs_cons, h]; rfl
          have e1 : frac (73 :: r) = 0 := by simp [frac]
          have := best11 r (i + 1) b
          simp only [best, step, if_neg h10, if_neg hs0, if_pos hst1, h, hd, Bool.false_eq_true, if_false, if_true, a11, hp, e0, List.drop_zero, e1, this]
          by_cases hq : (infL.drop 1).isPrefixOf r = true
          · rw [if_pos hq, if_pos hq, if_neg (by decide)]
          · rw [if_neg hq, if_neg hq, if_pos (by decide)]
        · have hp : infL.isPrefixOf (c :: r) = false := inf_not hI r
          have e0 : digs (c :: r) = 0 := by rw [digs_cons, h]; rfl
          have e1 : frac (c :: r) = 0 := by simp [frac, hd]
          simp only [best, step, if_neg h10, if_neg hs0, if_pos hst1, h, hd, hI, Bool.false_eq_true, if_false, hp, e0, List.drop_zero, e1]
          simp
    · have hn := dig_not h
      have hp : infL.isPrefixOf (c :: r) = false := inf_not hn.2.2.2 r
      have := best2 r (i + 1)
      have e0 : digs (c :: r) = 1 + digs r := by rw [digs_cons, h]; rfl
      have e1 : (c :: r).drop (1 + digs r) = r.drop (digs r) := by rw [Nat.add_comm, List.drop_succ_cons]
      have e2 : (c :: r).drop (1 + digs r + frac (r.drop (digs r))) = r.drop (digs r + frac (r.drop (digs r))) := by
        rw [Nat.add_assoc, Nat.add_comm 1, List.drop_succ_cons]
      have ha : acc 2 = true := rfl
      have h0 : ¬ (1 + digs r + (frac (r.drop (digs r)) - 1) = 0) := by omega
      simp only [best, step, if_neg h10, if_neg hs0, if_pos hst1, h, if_true, ha, this, hp, Bool.false_eq_true, if_false, e0, e1, e2, if_neg h0]
      rw [if_neg (by omega)]
      omega
theorem best_np (l : List UInt8) : best 0 l 0 0 = np l := by
  unfold np
  cases l with
  | nil => simp [best, sgn, body, infL, digs_nil, frac]
  | cons c r =>
    cases hs : isSgn c
    · have h0 : sgn (c :: r) = 0 := by simp [sgn, hs]
      rw [best1 0 (c :: r) 0 0 (Or.inr ⟨rfl, h0⟩), h0]; rfl
    · have h1 : sgn (c :: r) = 1 := by simp [sgn, hs]
      have := best1 1 r 1 0 (Or.inl rfl)
      rw [h1]
      simp [best, step, hs, acc, this]

/-! ### that start is read whole again -/
theorem best_ge : ∀ (st : Nat) (l : List UInt8) (i b : Nat), b ≤ i → best st l i b = b ∨ i < best st l i b
  | _, [], _, _, _ => Or.inl rfl
  | st, c :: r, i, b, hb => by
    unfold best
    cases h : step st c with
    | none => exact Or.inl rfl
    | some st' =>
      simp only
      cases ha : acc st'
      · rcases best_ge st' r (i + 1) b (by omega) with h1 | h1
        · left; simpa using h1
        · right; simp; omega
      · rcases best_ge st' r (i + 1) (i + 1) (by omega) with h1 | h1
        · right; simp; omega
        · right; simp; omega
theorem best_take : ∀ (st : Nat) (l : List UInt8) (i b : Nat), b ≤ i → best st (l.take (best st l i b - i)) i b = best st l i b
  | _, [], _, _, _ => by simp [best]
  | st, c :: r, i, b, hb => by
    have hge := best_ge st (c :: r) i b hb
    by_cases hk : best st (c :: r) i b ≤ i
    · rw [Nat.sub_eq_zero_of_le hk]
      rcases hge with h1 | h1
      · rw [h1]; rfl
      · omega
    · have hlen : best st (c :: r) i b - i = (best st (c :: r) i b - (i + 1)) + 1 := by omega
      rw [hlen, List.take_succ_cons]
      cases h : step st c with
      | none => exfalso; apply hk; simp [best, h]; omega
      | some st' =>
        have e : ∀ l', best st (c :: l') i b = best st' l' (i + 1) (if acc st' = true then i + 1 else b) := fun l' => by simp [best, h]
        rw [e, e]
        exact best_take st' r (i + 1) _ (by split <;> omega)
theorem np_take (l : List UInt8) : np (l.take (np l)) = np l := by
  have := best_take 0 l 0 0 (Nat.le_refl _)
  rw [Nat.sub_zero, best_np, best_np] at this
  exact this
theorem best_le : ∀ (st : Nat) (l : List UInt8) (i b : Nat), b ≤ i → best st l i b ≤ i + l.length
  | _, [], _, _, hb => by simpa [best] using hb
  | st, c :: r, i, b, hb => by
    unfold best
    cases h : step st c with
    | none => simp; omega
    | some st' =>
      have := best_le st' r (i + 1) (if acc st' = true then i + 1 else b) (by split <;> omega)
      simp; omega
theorem np_le (l : List UInt8) : np l ≤ l.length := by
  have := best_le 0 l 0 0 (Nat.le_refl _)
  rw [best_np] at this; omega

/-! ### 'np' in the walk's cases -/
theorem np_inf {l : List UInt8} {g : Nat} (hg : g = sgn l) (h : infL.isPrefixOf (l.drop g) = true) : np l = g + 8 := by
  subst hg
  have hb : body (l.drop (sgn l)) = 8 := by unfold body; rw [if_pos h]
  unfold np; rw [hb, if_neg (by decide)]
theorem np_zero {l : List UInt8} {g d f : Nat} (hg : g = sgn l) (h : infL.isPrefixOf (l.drop g) = false) (hd : d = digs (l.drop g)) (hf : f = frac (l.drop (g + d))) (h0 : d + (f - 1) = 0) : np l = 0 := by
  subst hg hd
  rw [← List.drop_drop] at hf
  subst hf
  have hb : body (l.drop (sgn l)) = 0 := by
    unfold body
    rw [if_neg (by rw [h]; decide), if_pos h0]
  unfold np; rw [hb, if_pos rfl]
theorem np_pos {l : List UInt8} {g d f x : Nat} (hg : g = sgn l) (h : infL.isPrefixOf (l.drop g) = false) (hd : d = digs (l.drop g)) (hf : f = frac (l.drop (g + d))) (h0 : ¬ d + (f - 1) = 0)
    (hx : x = expo (l.drop (g + d + f))) : np l = g + d + f + x := by
  subst hg hd
  rw [← List.drop_drop] at hf
  have e : l.drop (sgn l + digs (l.drop (sgn l)) + f) = (l.drop (sgn l)).drop (digs (l.drop (sgn l)) + f) := by
    rw [List.drop_drop, Nat.add_assoc]
  rw [e] at hx
  subst hf
  have hb : body (l.drop (sgn l)) = digs (l.drop (sgn l)) + frac ((l.drop (sgn l)).drop (digs (l.drop (sgn l)))) + x := by
    unfold body
    rw [if_neg (by rw [h]; decide), if_neg h0, ← hx]
  unfold np; rw [hb, if_neg (by omega)]; omega
theorem sgn_le (l : List UInt8) : sgn l ≤ 1 ∧ sgn l ≤ l.length := by
  cases l with
  | nil => simp [sgn]
  | cons c r => simp only [sgn]; split <;> simp
theorem digs_le (l : List UInt8) : digs l ≤ l.length := by
  unfold digs; exact List.Sublist.length_le (List.takeWhile_sublist _)
end Go.Proofs.Qxb6617082a
