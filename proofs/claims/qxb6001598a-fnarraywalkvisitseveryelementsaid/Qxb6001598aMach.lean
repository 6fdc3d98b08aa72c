/-
  SEAT b6001598a. THE PLAIN MACHINE of skipValue's inner loop: no Go in sight.
-/
import Derived.Test.Qxb6001598aScan
namespace Go.Proofs.Qxb6001598a

/-- One sign on. The state: (0, d): outside a string, d brackets open; (1, d): in a string; (2, d): in a string, behind an open backslash; (3, 0): the last bracket has just been closed; (4, _): beyond that. -/
def step (s : Nat × Nat) (c : Int) : Nat × Nat :=
  if s.1 = 0 then
    (if c = 34 then (1, s.2) else if c = 123 ∨ c = 91 then (0, s.2 + 1) else if c = 125 ∨ c = 93 then (if s.2 = 0 then (4, 0) else if s.2 = 1 then (3, 0) else (0, s.2 - 1)) else (0, s.2))
  else if s.1 = 1 then (if c = 34 then (0, s.2) else if c = 92 then (2, s.2) else (1, s.2))
  else if s.1 = 2 then (1, s.2)
  else (4, 0)

def fold (s : Nat × Nat) (xs : List Int) : Nat × Nat := xs.foldl step s

theorem fold_nil (s : Nat × Nat) : fold s [] = s := rfl
theorem fold_cons (s : Nat × Nat) (c : Int) (r : List Int) : fold s (c :: r) = fold (step s c) r := rfl
theorem fold_append (s : Nat × Nat) (a b : List Int) : fold s (a ++ b) = fold (fold s a) b := by simp [fold]

theorem step_q (d : Nat) : step (0, d) 34 = (1, d) := rfl
theorem step_open {d : Nat} {c : Int} (h : c = 123 ∨ c = 91) : step (0, d) c = (0, d + 1) := by rcases h with rfl | rfl <;> rfl
theorem step_close {d : Nat} {c : Int} (h : c = 125 ∨ c = 93) : step (0, d) c = if d = 0 then (4, 0) else if d = 1 then (3, 0) else (0, d - 1) := by rcases h with rfl | rfl <;> rfl
theorem step_other {d : Nat} {c : Int} (h1 : c ≠ 34) (h2 : c ≠ 123) (h3 : c ≠ 91) (h4 : c ≠ 125) (h5 : c ≠ 93) : step (0, d) c = (0, d) := by
  unfold step; rw [if_pos rfl, if_neg h1, if_neg (by omega), if_neg (by omega)]
theorem step_in_q (d : Nat) : step (1, d) 34 = (0, d) := rfl
theorem step_in_b (d : Nat) : step (1, d) 92 = (2, d) := rfl
theorem step_in {d : Nat} {c : Int} (h1 : c ≠ 34) (h2 : c ≠ 92) : step (1, d) c = (1, d) := by simp [step, h1, h2]
theorem step_esc (d : Nat) (c : Int) : step (2, d) c = (1, d) := rfl

theorem fold_four (xs : List Int) : fold (4, 0) xs = (4, 0) := by
  induction xs with
  | nil => rfl
  | cons c r ih => rw [fold_cons]; exact ih
theorem fold_three {xs : List Int} (h : fold (3, 0) xs = (3, 0)) : xs = [] := by
  cases xs with
  | nil => rfl
  | cons c r => rw [fold_cons, show step (3, 0) c = (4, 0) from rfl, fold_four] at h; cases h

/-- From inside a string the machine comes out of it, just where the scan does. -/
theorem fold_scan : ∀ (ys zs : List Int) (d : Nat),
    (fold (1, d) ys = (3, 0) → ∃ m r, m + r.length = ys.length ∧ scanS false (ys ++ zs) = some m ∧ ys.drop m = r ∧ fold (0, d) r = (3, 0)) ∧
    (fold (2, d) ys = (3, 0) → ∃ m r, m + r.length = ys.length ∧ scanS true (ys ++ zs) = some m ∧ ys.drop m = r ∧ fold (0, d) r = (3, 0)) := by
  intro ys
  induction ys with
  | nil => intro zs d; exact ⟨fun h => by simp [fold] at h, fun h => by simp [fold] at h⟩
  | cons c ys ih =>
    intro zs d
    constructor
    · intro h
      rw [fold_cons] at h
      by_cases c1 : c = 34
      · subst c1
        rw [step_in_q] at h
        exact ⟨1, ys, by simp; omega, by simp [scanS], rfl, h⟩
      · by_cases c2 : c = 92
        · subst c2
          rw [step_in_b] at h
          obtain ⟨m, r, e1, e2, e3, e4⟩ := (ih zs d).2 h
          exact ⟨m + 1, r, by simp; omega, by simp [scanS, e2], by simpa using e3, e4⟩
        · rw [step_in c1 c2] at h
          obtain ⟨m, r, e1, e2, e3, e4⟩ := (ih zs d).1 h
          refine ⟨m + 1, r, by simp; omega, ?_, by simpa using e3, e4⟩
          rw [List.cons_append, scanS_plain c1 c2, e2]; rfl
    · intro h
      rw [fold_cons, step_esc] at h
      obtain ⟨m, r, e1, e2, e3, e4⟩ := (ih zs d).1 h
      exact ⟨m + 1, r, by simp; omega, by simp [scanS, e2], by simpa using e3, e4⟩

/-- Where the walk stands: from j on the data begins with ys, which the machine runs from (0, d) to its end; behind it zs. -/
structure At (xs : List Int) (E j d : Nat) : Prop where
  run : ∃ ys zs, xs.drop j = ys ++ zs ∧ fold (0, d) ys = (3, 0) ∧ j + ys.length = E

theorem At.lt {xs : List Int} {E j d : Nat} (h : At xs E j d) : j < xs.length := by
  obtain ⟨ys, zs, e, hf, _⟩ := h.run
  rcases Nat.lt_or_ge j xs.length with h1 | h1
  · exact h1
  · rw [List.drop_eq_nil_of_le h1] at e
    have : ys = [] := (List.append_eq_nil_iff.1 e.symm).1
    subst this; simp [fold] at hf

theorem At.cons {xs : List Int} {E j d : Nat} (h : At xs E j d) : ∃ ys zs, xs.drop (j + 1) = ys ++ zs ∧ fold (step (0, d) (ati xs j)) ys = (3, 0) ∧ j + 1 + ys.length = E := by
  obtain ⟨ys, zs, e, hf, hE⟩ := h.run
  rw [drop_ati h.lt] at e
  cases ys with
  | nil => simp [fold] at hf
  | cons c r =>
    rw [List.cons_append, List.cons.injEq] at e
    exact ⟨r, zs, e.2, by rw [e.1]; exact hf, by simp at hE; omega⟩

theorem At.quote {xs : List Int} {E j d : Nat} (h : At xs E j d) (hc : ati xs j = 34) : ∃ m, scanS false (xs.drop (j + 1)) = some m ∧ At xs E (j + 1 + m) d := by
  obtain ⟨ys, zs, e, hf, hE⟩ := h.cons
  rw [hc, step_q] at hf
  obtain ⟨m, r, e1, e2, e3, e4⟩ := (fold_scan ys zs d).1 hf
  refine ⟨m, by rw [e]; exact e2, ⟨r, zs, ?_, e4, by omega⟩⟩
  rw [← List.drop_drop, e, List.drop_append_of_le_length (by omega), e3]
theorem At.opens {xs : List Int} {E j d : Nat} (h : At xs E j d) (hc : ati xs j = 123 ∨ ati xs j = 91) : At xs E (j + 1) (d + 1) := by
  obtain ⟨ys, zs, e, hf, hE⟩ := h.cons
  rw [step_open hc] at hf
  exact ⟨ys, zs, e, hf, hE⟩
theorem At.close {xs : List Int} {E j d : Nat} (h : At xs E j d) (hc : ati xs j = 125 ∨ ati xs j = 93) : (d = 1 ∧ j + 1 = E) ∨ (2 ≤ d ∧ At xs E (j + 1) (d - 1)) := by
  obtain ⟨ys, zs, e, hf, hE⟩ := h.cons
  rw [step_close hc] at hf
  by_cases d0 : d = 0
  · rw [if_pos d0, fold_four] at hf; cases hf
  · rw [if_neg d0] at hf
    by_cases d1 : d = 1
    · rw [if_pos d1] at hf
      have := fold_three hf
      subst this
      exact .inl ⟨d1, by simpa using hE⟩
    · rw [if_neg d1] at hf
      exact .inr ⟨by omega, ⟨ys, zs, e, hf, hE⟩⟩
theorem At.other {xs : List Int} {E j d : Nat} (h : At xs E j d) (h1 : ati xs j ≠ 34) (h2 : ati xs j ≠ 123) (h3 : ati xs j ≠ 91) (h4 : ati xs j ≠ 125) (h5 : ati xs j ≠ 93) : At xs E (j + 1) d := by
  obtain ⟨ys, zs, e, hf, hE⟩ := h.cons
  rw [step_other h1 h2 h3 h4 h5] at hf
  exact ⟨ys, zs, e, hf, hE⟩
end Go.Proofs.Qxb6001598a
