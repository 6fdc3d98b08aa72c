/-
  SEAT b6001598a. THE SCAN of a JSON string's text: no Go in sight.
-/
import Derived.Test.Qxb6001598aMem
namespace Go.Proofs.Qxb6001598a

/-- How far a JSON string's text runs from here to just past its closing quote ('b': the sign before was an open backslash). -/
def scanS : Bool → List Int → Option Nat
  | _, [] => none
  | true, _ :: r => (scanS false r).map (· + 1)
  | false, c :: r => if c = 34 then some 1 else (scanS (c == 92) r).map (· + 1)

theorem scanS_plain {c : Int} (h1 : c ≠ 34) (h2 : c ≠ 92) (r : List Int) : scanS false (c :: r) = (scanS false r).map (· + 1) := by
  have e : (c == 92) = false := by simp [h2]
  simp [scanS, h1, e]
theorem scanS_pair (c : Int) (r : List Int) : scanS false (92 :: c :: r) = (scanS false r).map (· + 2) := by
  simp [scanS, Function.comp_def]

theorem scanS_none : scanS false [] = none := rfl
theorem scanS_at {xs : List Int} {j m : Nat} (h : scanS false (xs.drop j) = some m) : j < xs.length := by
  rcases Nat.lt_or_ge j xs.length with h1 | h1
  · exact h1
  · rw [List.drop_eq_nil_of_le h1] at h; cases h
theorem scanS_q {xs : List Int} {j m : Nat} (h : scanS false (xs.drop j) = some m) (hc : ati xs j = 34) : m = 1 := by
  rw [drop_ati (scanS_at h), hc] at h
  simpa [scanS] using h.symm
theorem scanS_b {xs : List Int} {j m : Nat} (h : scanS false (xs.drop j) = some m) (hc : ati xs j = 92) : j + 1 < xs.length ∧ ∃ m', m = m' + 2 ∧ scanS false (xs.drop (j + 2)) = some m' := by
  rw [drop_ati (scanS_at h), hc] at h
  rcases Nat.lt_or_ge (j + 1) xs.length with h1 | h1
  · rw [drop_ati h1, scanS_pair, Option.map_eq_some_iff] at h
    obtain ⟨m', h, e⟩ := h
    exact ⟨h1, m', e.symm, h⟩
  · rw [List.drop_eq_nil_of_le h1] at h; simp [scanS] at h
theorem scanS_o {xs : List Int} {j m : Nat} (h : scanS false (xs.drop j) = some m) (h1 : ati xs j ≠ 34) (h2 : ati xs j ≠ 92) : ∃ m', m = m' + 1 ∧ scanS false (xs.drop (j + 1)) = some m' := by
  rw [drop_ati (scanS_at h), scanS_plain h1 h2, Option.map_eq_some_iff] at h
  obtain ⟨m', h, e⟩ := h
  exact ⟨m', e.symm, h⟩
end Go.Proofs.Qxb6001598a
