/-
  SEAT b6001598a. THE PLAIN LAYOUT of a built array: no Go in sight.
-/
import Derived.Test.Qxb6001598aNext
import Derived.Test.Qxb6001598aVal
import Derived.Test.Qxb6001598aIdx
namespace Go.Proofs.Qxb6001598a

/-- An element: what leads to it (nothing, or a comma and spaces), its text, the spaces behind it. -/
def El : Type := List Int × List Int × List Int
def El.all (x : El) : List Int := x.1 ++ (x.2.1 ++ x.2.2)
def flat : List El → List Int
  | [] => []
  | x :: r => x.all ++ flat r
theorem flat_append (a b : List El) : flat (a ++ b) = flat a ++ flat b := by
  induction a with
  | nil => rfl
  | cons x r ih => simp only [List.cons_append, flat, ih, List.append_assoc]
theorem flat_snoc (a : List El) (x : El) : flat (a ++ [x]) = flat a ++ x.all := by rw [flat_append]; simp [flat]

/-- Where each element begins and ends. -/
def sts : Nat → List El → List Int
  | _, [] => []
  | p, x :: r => ((p + x.1.length : Nat) : Int) :: sts (p + x.all.length) r
def ens : Nat → List El → List Int
  | _, [] => []
  | p, x :: r => ((p + x.1.length + x.2.1.length : Nat) : Int) :: ens (p + x.all.length) r
theorem sts_append (p : Nat) (a b : List El) : sts p (a ++ b) = sts p a ++ sts (p + (flat a).length) b := by
  induction a generalizing p with
  | nil => simp [sts, flat]
  | cons x r ih => simp only [List.cons_append, sts, ih, flat, List.length_append, Nat.add_assoc]
theorem ens_append (p : Nat) (a b : List El) : ens p (a ++ b) = ens p a ++ ens (p + (flat a).length) b := by
  induction a generalizing p with
  | nil => simp [ens, flat]
  | cons x r ih => simp only [List.cons_append, ens, ih, flat, List.length_append, Nat.add_assoc]
theorem sts_length (p : Nat) (a : List El) : (sts p a).length = a.length := by
  induction a generalizing p with
  | nil => rfl
  | cons x r ih => simp only [sts, List.length_cons, ih]
theorem ens_length (p : Nat) (a : List El) : (ens p a).length = a.length := by
  induction a generalizing p with
  | nil => rfl
  | cons x r ih => simp only [ens, List.length_cons, ih]
theorem sts_at (p : Nat) (a b : List El) (x : El) : ati (sts p (a ++ x :: b)) a.length = ((p + (flat a).length + x.1.length : Nat) : Int) := by
  rw [sts_append]
  have : ati (sts p a ++ sts (p + (flat a).length) (x :: b)) ((sts p a).length + 0) = ati (sts (p + (flat a).length) (x :: b)) 0 := ati_right
  rw [Nat.add_zero, sts_length] at this
  rw [this]; rfl
theorem ens_at (p : Nat) (a b : List El) (x : El) : ati (ens p (a ++ x :: b)) a.length = ((p + (flat a).length + x.1.length + x.2.1.length : Nat) : Int) := by
  rw [ens_append]
  have : ati (ens p a ++ ens (p + (flat a).length) (x :: b)) ((ens p a).length + 0) = ati (ens (p + (flat a).length) (x :: b)) 0 := ati_right
  rw [Nat.add_zero, ens_length] at this
  rw [this]; rfl

/-- Each element but the first is led to by a comma and spaces. -/
def GoodT (els : List El) : Prop := ∀ x ∈ els, (∃ g, x.1 = 44 :: g ∧ Spaces g) ∧ IsVal x.2.1 ∧ Spaces x.2.2
def Good : List El → Prop
  | [] => True
  | x :: r => x.1 = [] ∧ IsVal x.2.1 ∧ Spaces x.2.2 ∧ GoodT r
theorem Good.snoc {els : List El} {x : El} (h : Good els) (hx : (els = [] ∧ x.1 = []) ∨ (els ≠ [] ∧ ∃ g, x.1 = 44 :: g ∧ Spaces g)) (hv : IsVal x.2.1) (hs : Spaces x.2.2) : Good (els ++ [x]) := by
  cases els with
  | nil =>
    rcases hx with ⟨_, hx⟩ | ⟨hx, _⟩
    · exact ⟨hx, hv, hs, fun y hy => by simp at hy⟩
    · exact absurd rfl hx
  | cons y r =>
    rcases hx with ⟨hx, _⟩ | ⟨_, hx⟩
    · cases hx
    · obtain ⟨h1, h2, h3, h4⟩ := h
      refine ⟨h1, h2, h3, fun z hz => ?_⟩
      replace hz : z ∈ r ++ [x] := hz
      rw [List.mem_append] at hz
      rcases hz with hz | hz
      · exact h4 z hz
      · simp at hz; subst hz; exact ⟨hx, hv, hs⟩
/-- Of an element in the middle. -/
theorem Good.at {a b : List El} {x : El} (h : Good (a ++ x :: b)) : IsVal x.2.1 ∧ Spaces x.2.2 ∧ GoodT b := by
  cases a with
  | nil => exact ⟨h.2.1, h.2.2.1, h.2.2.2⟩
  | cons y r =>
    have h4 := h.2.2.2
    have hx := h4 x (by simp)
    exact ⟨hx.2.1, hx.2.2, fun z hz => h4 z (by simp [hz])⟩

theorem IsVal.head {ys : List Int} (h : IsVal ys) : ∃ c r, ys = c :: r ∧ ¬ isSp c ∧ c ≠ 44 := by
  rcases h with ⟨h0, h⟩ | ⟨b, e, _⟩ | ⟨⟨c, r, e, hc⟩, _⟩
  · cases ys with
    | nil => simp at h0
    | cons c r =>
      have := h c (by simp)
      unfold bare at this
      exact ⟨c, r, rfl, by unfold isSp; omega, by omega⟩
  · exact ⟨34, b, e, by unfold isSp; omega, by omega⟩
  · exact ⟨c, r, e, by unfold isSp; omega, by omega⟩

/-- Behind an element: a delimiter. -/
theorem tail_delim {h : List Int} {b : List El} (hs : Spaces h) (hb : GoodT b) : ∃ c r, h ++ (flat b ++ [93]) = c :: r ∧ isDelim c := by
  cases h with
  | cons c r =>
    have := hs c (by simp)
    unfold isSp at this
    exact ⟨c, _, rfl, by unfold isDelim; omega⟩
  | nil =>
    cases b with
    | nil => exact ⟨93, [], rfl, by unfold isDelim; omega⟩
    | cons x r =>
      obtain ⟨⟨g, hg, _⟩, _⟩ := hb x (by simp)
      refine ⟨44, g ++ (x.2.1 ++ x.2.2) ++ flat r ++ [93], ?_, by unfold isDelim; omega⟩
      show x.all ++ flat r ++ [93] = _
      unfold El.all
      rw [hg]
      rfl

theorem Bytes.spaces {a : List Int} (h : Spaces a) : Bytes a := fun x hx => by have := h x hx; unfold isSp at this; omega
theorem Good.bytes {els : List El} (h : Good els) : Bytes (flat els) := by
  have key : ∀ r : List El, GoodT r → Bytes (flat r) := by
    intro r
    induction r with
    | nil => intro _ x hx; simp [flat] at hx
    | cons x r ih =>
      intro hr
      obtain ⟨⟨g, hg, hgs⟩, hv, hs⟩ := hr x (by simp)
      refine Bytes.append (Bytes.append ?_ (Bytes.append hv.bytes (Bytes.spaces hs))) (ih (fun y hy => hr y (by simp [hy])))
      rw [hg]
      intro y hy
      rw [List.mem_cons] at hy
      rcases hy with rfl | hy
      · omega
      · exact Bytes.spaces hgs y hy
  cases els with
  | nil => intro x hx; simp [flat] at hx
  | cons x r =>
    obtain ⟨h1, h2, h3, h4⟩ := h
    refine Bytes.append (Bytes.append ?_ (Bytes.append h2.bytes (Bytes.spaces h3))) (key r h4)
    rw [h1]; intro y hy; simp at hy

/-- The whole text, its parts dropped. -/
def whole (g0 : List Int) (els : List El) : List Int := 91 :: (g0 ++ (flat els ++ [93]))
theorem drop_one (g0 : List Int) (els : List El) : (whole g0 els).drop 1 = g0 ++ (flat els ++ [93]) := rfl
theorem drop_parts (g0 : List Int) (a b : List El) : (whole g0 (a ++ b)).drop (1 + g0.length + (flat a).length) = flat b ++ [93] := by
  unfold whole
  rw [Nat.add_assoc, ← List.drop_drop]
  show (g0 ++ (flat (a ++ b) ++ [93])).drop _ = _
  rw [← List.drop_drop, List.drop_left, flat_append, List.append_assoc, List.drop_left]
theorem drop_val (g0 : List Int) (a b : List El) (x : El) : (whole g0 (a ++ x :: b)).drop (1 + g0.length + (flat a).length + x.1.length) = x.2.1 ++ (x.2.2 ++ (flat b ++ [93])) := by
  rw [← List.drop_drop, drop_parts]
  show (x.all ++ flat b ++ [93]).drop _ = _
  unfold El.all
  rw [List.append_assoc, List.append_assoc, List.drop_left, List.append_assoc]
theorem drop_gap (g0 : List Int) (a b : List El) (x : El) : (whole g0 (a ++ x :: b)).drop (1 + g0.length + (flat a).length + x.1.length + x.2.1.length) = x.2.2 ++ (flat b ++ [93]) := by
  rw [← List.drop_drop, drop_val, List.drop_left]
theorem whole_length (g0 : List Int) (els : List El) : (whole g0 els).length = 2 + g0.length + (flat els).length := by
  simp [whole]; omega
theorem El.all_length (x : El) : x.all.length = x.1.length + x.2.1.length + x.2.2.length := by simp [El.all]; omega
end Go.Proofs.Qxb6001598a
