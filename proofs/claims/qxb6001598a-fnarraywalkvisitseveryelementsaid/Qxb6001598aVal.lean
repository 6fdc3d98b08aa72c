/-
  SEAT b6001598a. THE PLAIN LAWS of a built value: bare, a string, or a box: no Go in sight.
-/
import Derived.Test.Qxb6001598aMach
namespace Go.Proofs.Qxb6001598a

def Bytes (xs : List Int) : Prop := ∀ x ∈ xs, 0 ≤ x ∧ x ≤ 255
theorem Bytes.append {a b : List Int} (h : Bytes a) (k : Bytes b) : Bytes (a ++ b) := by
  intro x hx
  rw [List.mem_append] at hx
  rcases hx with hx | hx
  · exact h x hx
  · exact k x hx

/-- A sign that a number or a literal is made of: none of the quote, the brackets, the delimiters. -/
def bare (c : Int) : Prop := 0 ≤ c ∧ c ≤ 255 ∧ c ≠ 34 ∧ c ≠ 123 ∧ c ≠ 91 ∧ c ≠ 125 ∧ c ≠ 93 ∧ c ≠ 44 ∧ c ≠ 32 ∧ c ≠ 9 ∧ c ≠ 10 ∧ c ≠ 13
def Bare (xs : List Int) : Prop := 0 < xs.length ∧ ∀ c ∈ xs, bare c
/-- A string, its quotes with it. -/
def Str (xs : List Int) : Prop := ∃ body, xs = 34 :: body ∧ (∀ r, scanS false (body ++ r) = some body.length) ∧ Bytes xs
/-- An array or an object. -/
def Box (xs : List Int) : Prop := (∃ c r, xs = c :: r ∧ (c = 123 ∨ c = 91)) ∧ fold (0, 0) xs = (3, 0) ∧ Bytes xs
def IsVal (xs : List Int) : Prop := Bare xs ∨ Str xs ∨ Box xs

theorem Bare.bytes {xs : List Int} (h : Bare xs) : Bytes xs := fun x hx => ⟨(h.2 x hx).1, (h.2 x hx).2.1⟩
theorem IsVal.bytes {xs : List Int} (h : IsVal xs) : Bytes xs := by
  rcases h with h | ⟨_, _, _, h⟩ | ⟨_, _, h⟩
  · exact h.bytes
  · exact h
  · exact h
theorem IsVal.pos {xs : List Int} (h : IsVal xs) : 0 < xs.length := by
  rcases h with h | ⟨b, rfl, _⟩ | ⟨⟨c, r, rfl, _⟩, _⟩
  · exact h.1
  · simp
  · simp

theorem scanS_fold : ∀ (ys : List Int) (d : Nat), (scanS false ys = some ys.length → fold (1, d) ys = (0, d)) ∧ (scanS true ys = some ys.length → fold (2, d) ys = (0, d)) := by
  intro ys
  induction ys with
  | nil => intro d; exact ⟨fun h => by simp [scanS] at h, fun h => by simp [scanS] at h⟩
  | cons c ys ih =>
    intro d
    constructor
    · intro h
      rw [fold_cons]
      by_cases c1 : c = 34
      · subst c1
        have : ys = [] := by
          have h' : (1 : Nat) = ys.length + 1 := by simpa [scanS] using h
          exact List.eq_nil_of_length_eq_zero (by omega)
        subst this; rfl
      · by_cases c2 : c = 92
        · subst c2
          rw [step_in_b]
          refine (ih d).2 ?_
          simpa [scanS] using h
        · rw [step_in c1 c2]
          refine (ih d).1 ?_
          rw [scanS_plain c1 c2] at h
          simpa using h
    · intro h
      rw [fold_cons, step_esc]
      refine (ih d).1 ?_
      simpa [scanS] using h

theorem fold_bare {xs : List Int} (h : ∀ c ∈ xs, bare c) (d : Nat) : fold (0, d) xs = (0, d) := by
  induction xs with
  | nil => rfl
  | cons c r ih =>
    obtain ⟨_, _, h1, h2, h3, h4, h5, _⟩ := h c (by simp)
    rw [fold_cons, step_other h1 h2 h3 h4 h5]
    exact ih (fun x hx => h x (by simp [hx]))
theorem fold_str {xs : List Int} (h : Str xs) (d : Nat) : fold (0, d) xs = (0, d) := by
  obtain ⟨body, rfl, hs, _⟩ := h
  rw [fold_cons, step_q]
  refine (scanS_fold body d).1 ?_
  have := hs []
  rwa [List.append_nil] at this

/-- What comes to its end from e open brackets comes back to d from e + d. -/
theorem fold_shift : ∀ (xs : List Int) (e d : Nat), 1 ≤ d →
    (fold (0, e) xs = (3, 0) → fold (0, e + d) xs = (0, d)) ∧ (fold (1, e) xs = (3, 0) → fold (1, e + d) xs = (0, d)) ∧ (fold (2, e) xs = (3, 0) → fold (2, e + d) xs = (0, d)) := by
  intro xs
  induction xs with
  | nil => intro e d hd; exact ⟨fun h => by simp [fold] at h, fun h => by simp [fold] at h, fun h => by simp [fold] at h⟩
  | cons c xs ih =>
    intro e d hd
    refine ⟨fun h => ?_, fun h => ?_, fun h => ?_⟩
    · rw [fold_cons] at h ⊢
      by_cases c1 : c = 34
      · subst c1; rw [step_q] at h ⊢; exact (ih e d hd).2.1 h
      · by_cases c2 : c = 123 ∨ c = 91
        · rw [step_open c2] at h ⊢
          have := (ih (e + 1) d hd).1 h
          rwa [show e + 1 + d = e + d + 1 from by omega] at this
        · by_cases c3 : c = 125 ∨ c = 93
          · rw [step_close c3] at h ⊢
            by_cases e0 : e = 0
            · rw [if_pos e0, fold_four] at h; cases h
            · rw [if_neg e0] at h
              rw [if_neg (by omega), if_neg (by omega)]
              by_cases e1 : e = 1
              · rw [if_pos e1] at h
                have := fold_three h
                subst this
                rw [fold_nil]; simp; omega
              · rw [if_neg e1] at h
                have := (ih (e - 1) d hd).1 h
                rwa [show e - 1 + d = e + d - 1 from by omega] at this
          · rw [step_other c1 (by omega) (by omega) (by omega) (by omega)] at h ⊢
            exact (ih e d hd).1 h
    · rw [fold_cons] at h ⊢
      by_cases c1 : c = 34
      · subst c1; rw [step_in_q] at h ⊢; exact (ih e d hd).1 h
      · by_cases c2 : c = 92
        · subst c2; rw [step_in_b] at h ⊢; exact (ih e d hd).2.2 h
        · rw [step_in c1 c2] at h ⊢; exact (ih e d hd).2.1 h
    · rw [fold_cons] at h ⊢
      rw [step_esc] at h ⊢; exact (ih e d hd).2.1 h

/-- A value inside a container turns nothing. -/
theorem IsVal.inside {xs : List Int} (h : IsVal xs) {d : Nat} (hd : 1 ≤ d) : fold (0, d) xs = (0, d) := by
  rcases h with h | h | h
  · exact fold_bare h.2 d
  · exact fold_str h d
  · have := (fold_shift xs 0 d hd).1 h.2.1
    rwa [Nat.zero_add] at this

/-- The state while d containers are open: at none the machine is at its end. -/
def dep (d : Nat) : Nat × Nat := if d = 0 then (3, 0) else (0, d)
theorem dep_pos {d : Nat} (h : 1 ≤ d) : dep d = (0, d) := by unfold dep; rw [if_neg (by omega)]
theorem dep_close {d : Nat} (h : 1 ≤ d) {c : Int} (hc : c = 125 ∨ c = 93) : step (dep d) c = dep (d - 1) := by
  rw [dep_pos h, step_close hc, if_neg (by omega)]
  unfold dep
  by_cases d1 : d = 1
  · subst d1; rfl
  · rw [if_neg d1, if_neg (by omega)]

/-- Text written so far: it begins with an open bracket, d containers are open. -/
structure Text (ys : List Int) (d : Nat) : Prop where
  head : ∃ c r, ys = c :: r ∧ (c = 123 ∨ c = 91)
  run : fold (0, 0) ys = dep d
  bytes : Bytes ys

theorem Text.box {ys : List Int} (h : Text ys 0) : Box ys := ⟨h.head, h.run, h.bytes⟩
theorem Text.start {c : Int} (h : c = 123 ∨ c = 91) : Text [c] 1 :=
  ⟨⟨c, [], rfl, h⟩, by rw [fold_cons, step_open h]; rfl, fun x hx => by simp at hx; omega⟩
theorem Text.more {ys zs : List Int} {d : Nat} (h : Text ys d) (hd : 1 ≤ d) (hz : fold (0, d) zs = (0, d)) (hb : Bytes zs) : Text (ys ++ zs) d := by
  obtain ⟨⟨c, r, e, hc⟩, hr, hby⟩ := h
  refine ⟨⟨c, r ++ zs, by rw [e]; rfl, hc⟩, ?_, hby.append hb⟩
  rw [fold_append, hr, dep_pos hd]; exact hz
theorem Text.val {ys zs : List Int} {d : Nat} (h : Text ys d) (hd : 1 ≤ d) (hz : IsVal zs) : Text (ys ++ zs) d := h.more hd (hz.inside hd) hz.bytes
theorem Text.opens {ys : List Int} {d : Nat} {c : Int} (h : Text ys d) (hd : 1 ≤ d) (hc : c = 123 ∨ c = 91) : Text (ys ++ [c]) (d + 1) := by
  obtain ⟨⟨c', r, e, hc'⟩, hr, hby⟩ := h
  refine ⟨⟨c', r ++ [c], by rw [e]; rfl, hc'⟩, ?_, hby.append (fun x hx => by simp at hx; omega)⟩
  rw [fold_append, hr, dep_pos hd, fold_cons, step_open hc, dep_pos (by omega)]; rfl
theorem Text.closes {ys : List Int} {d : Nat} {c : Int} (h : Text ys d) (hd : 1 ≤ d) (hc : c = 125 ∨ c = 93) : Text (ys ++ [c]) (d - 1) := by
  obtain ⟨⟨c', r, e, hc'⟩, hr, hby⟩ := h
  refine ⟨⟨c', r ++ [c], by rw [e]; rfl, hc'⟩, ?_, hby.append (fun x hx => by simp at hx; omega)⟩
  rw [fold_append, hr, fold_cons, dep_close hd hc]; rfl
theorem Text.comma {ys : List Int} {d : Nat} (h : Text ys d) (hd : 1 ≤ d) : Text (ys ++ [44, 32]) d :=
  h.more hd (by rw [fold_cons, step_other (by decide) (by decide) (by decide) (by decide) (by decide), fold_cons, step_other (by decide) (by decide) (by decide) (by decide) (by decide)]; rfl) (fun x hx => by simp at hx; omega)
theorem key_bytes : Bytes [34, 107, 92, 34, 125, 34, 58, 32] := fun x hx => by simp at hx; omega
theorem Text.key {ys : List Int} {d : Nat} (h : Text ys d) (hd : 1 ≤ d) : Text (ys ++ [34, 107, 92, 34, 125, 34, 58, 32]) d :=
  h.more hd rfl key_bytes

/-- What zzEmitString writes is a string. -/
theorem str_pair {c : Int} (h0 : 0 ≤ c) (h1 : c ≤ 255) : Str [34, 92, c, 92, 92, 92, 34, 34] :=
  ⟨[92, c, 92, 92, 92, 34, 34], rfl, fun r => by simp [scanS], fun x hx => by simp at hx; omega⟩
theorem str_one {c : Int} (h0 : 0 ≤ c) (h1 : c ≤ 255) (h2 : c ≠ 34) (h3 : c ≠ 92) : Str [34, c, 92, 92, 92, 34, 34] := by
  refine ⟨[c, 92, 92, 92, 34, 34], rfl, fun r => ?_, fun x hx => by simp at hx; omega⟩
  show scanS false (c :: ([92, 92, 92, 34, 34] ++ r)) = _
  rw [scanS_plain h2 h3]; simp [scanS]

end Go.Proofs.Qxb6001598a
