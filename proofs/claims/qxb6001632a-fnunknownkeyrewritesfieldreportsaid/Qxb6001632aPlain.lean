/-
  SEAT b6001632a. THE PLAIN LAWS: what unknownKey makes of a report that was put together, and of one that lacks a mark. No Go in sight.
-/
import Derived.Test.Qxb6001632aUnknown
namespace Go.Proofs.Qxb6001632a
open Go.RowKit Go.Lib

theorem least (P : Nat → Bool) : ∀ n, (∀ j, j < n → P j = false) ∨ ∃ i, i < n ∧ P i = true ∧ ∀ j, j < i → P j = false
  | 0 => .inl fun _ h => absurd h (Nat.not_lt_zero _)
  | n + 1 => by
    rcases least P n with h | ⟨i, hi, hp, hn⟩
    · cases hp : P n with
      | true => exact .inr ⟨n, by omega, hp, h⟩
      | false =>
        refine .inl fun j hj => ?_
        rcases Nat.lt_or_eq_of_le (Nat.le_of_lt_succ hj) with h' | h'
        · exact h j h'
        · exact h' ▸ hp
    · exact .inr ⟨i, by omega, hp, hn⟩

theorem index_none_inv {s sub : List UInt8} (h : index s sub = -1) : ∀ j, j ≤ s.length → occAt s sub j = false := by
  rcases least (occAt s sub) (s.length + 1) with hn | ⟨i, hi, hp, hn⟩
  · exact fun j hj => hn j (by omega)
  · have := index_first (i := i) (by omega) hp hn
    omega

theorem index_inv {s sub : List UInt8} {n : Nat} (h : index s sub = n) : occAt s sub n = true ∧ ∀ j, j < n → occAt s sub j = false := by
  rcases least (occAt s sub) (s.length + 1) with hn | ⟨i, hi, hp, hn⟩
  · have := index_none (s := s) (sub := sub) fun j hj => hn j (by omega)
    omega
  · have := index_first (i := i) (by omega) hp hn
    have hi : i = n := by omega
    subst hi
    exact ⟨hp, hn⟩

theorem occ_far {s sub : List UInt8} (hs : sub ≠ []) {j : Nat} (hj : s.length ≤ j) : occAt s sub j = false := by
  unfold occAt
  rw [List.drop_eq_nil_of_le hj]
  cases sub with
  | nil => exact absurd rfl hs
  | cons _ _ => rfl

theorem occ_drop (s sub : List UInt8) (k j : Nat) : occAt (s.drop k) sub j = occAt s sub (k + j) := by
  unfold occAt
  rw [List.drop_drop]

/-- A piece behind holds no instance where the whole holds none. -/
theorem index_drop_none {s sub : List UInt8} (hs : sub ≠ []) (h : index s sub = -1) (k : Nat) : index (s.drop k) sub = -1 := by
  refine index_none fun j _ => ?_
  rw [occ_drop]
  by_cases hk : k + j ≤ s.length
  · exact index_none_inv h _ hk
  · exact occ_far hs (by omega)

/-- The first instance stays the first, whatever is laid behind it. -/
theorem index_more {p sep r : List UInt8} (h : index (p ++ sep) sep = p.length) : index (p ++ sep ++ r) sep = p.length := by
  obtain ⟨_, hn⟩ := index_inv h
  refine index_first (by simp only [List.length_append]; omega) ?_ fun j hj => ?_
  · unfold occAt
    rw [List.append_assoc, List.drop_left]
    exact List.isPrefixOf_iff_prefix.2 ⟨r, rfl⟩
  · cases ho : occAt (p ++ sep ++ r) sep j with
    | false => rfl
    | true =>
      have := hn j hj
      unfold occAt at this ho
      have hd : (p ++ sep ++ r).drop j = (p ++ sep).drop j ++ r := List.drop_append_of_le_length (by simp only [List.length_append]; omega)
      rw [hd] at ho
      have h1 := List.isPrefixOf_iff_prefix.1 ho
      have h2 : sep <+: (p ++ sep).drop j := List.prefix_of_prefix_length_le h1 ⟨r, rfl⟩ (by simp only [List.length_drop, List.length_append]; omega)
      rw [List.isPrefixOf_iff_prefix.2 h2] at this
      exact absurd this (by decide)

theorem cut_more {p sep r : List UInt8} (h : index (p ++ sep) sep = p.length) : cut (p ++ sep ++ r) sep = (p, r, true) := by
  have e := index_more (r := r) h
  unfold cut
  rw [e, if_pos (by omega), Int.toNat_natCast, List.append_assoc, List.take_left]
  rw [show p.length + sep.length = (p ++ sep).length by simp, ← List.append_assoc, List.drop_left]

theorem uk_made {p k t : List UInt8} (h1 : index (p ++ sepF) sepF = p.length) (h2 : index (k ++ sepT) sepT = k.length) :
    ukOf (p ++ sepF ++ k ++ sepT ++ t) = p ++ sepU ++ k := by
  have e1 : cut (p ++ sepF ++ k ++ sepT ++ t) sepF = (p, k ++ sepT ++ t, true) := by
    have := cut_more (r := k ++ sepT ++ t) h1
    rw [← this]
    simp only [List.append_assoc]
  have e2 : cut (k ++ sepT ++ t) sepT = (k, t, true) := cut_more h2
  unfold ukOf
  rw [e1]
  simp only [e2, if_true]

theorem cut_none {s sep : List UInt8} (h : index s sep = -1) : cut s sep = (s, [], false) := by
  unfold cut
  rw [h, if_neg (by decide)]

theorem uk_other {m : List UInt8} (h : index m sepF = -1 ∨ index m sepT = -1) : ukOf m = m := by
  by_cases hF : index m sepF = -1
  · unfold ukOf
    rw [cut_none hF]
    rfl
  · have hT : index m sepT = -1 := h.resolve_left hF
    have e1 : cut m sepF = (m.take (index m sepF).toNat, m.drop ((index m sepF).toNat + sepF.length), true) := by
      unfold cut
      rw [if_pos (by have := index_ge m sepF; omega)]
    unfold ukOf
    rw [e1]
    simp only [cut_none (index_drop_none (sub := sepT) (by decide) hT _)]
    rfl
end Go.Proofs.Qxb6001632a
