/-
  SEAT b6001736a. PLAIN: the text that the law writes: a quote, the content with a backslash ahead of each quote and backslash, a quote.
-/
import Derived.Test.Qxb6001736aMem
namespace Go.Proofs.Qxb6001736a

def spec (c : Int) : Bool := c == 34 || c == 92
def esc1 (c : Int) : List Int := if spec c then [92, c] else [c]
def esc : List Int → List Int
  | [] => []
  | c :: r => esc1 c ++ esc r
def txt (ys : List Int) : List Int := 34 :: (esc ys ++ [34])

theorem esc_append (a b : List Int) : esc (a ++ b) = esc a ++ esc b := by
  induction a with
  | nil => rfl
  | cons c r ih => simp [esc, ih]

theorem esc_snoc (a : List Int) (c : Int) : esc (a ++ [c]) = esc a ++ esc1 c := by rw [esc_append]; simp [esc]

theorem esc_take {ys : List Int} {i : Nat} (h : i < ys.length) : esc (ys.take (i + 1)) = esc (ys.take i) ++ esc1 (ati ys i) := by rw [take_ati h, esc_snoc]

theorem esc1_len (c : Int) : 1 ≤ (esc1 c).length ∧ (esc1 c).length ≤ 2 := by
  unfold esc1; split <;> simp

theorem esc_len (ys : List Int) : (esc ys).length ≤ 2 * ys.length := by
  induction ys with
  | nil => simp [esc]
  | cons c r ih =>
    have := esc1_len c
    simp [esc]
    omega

theorem txt_len (ys : List Int) : (txt ys).length = (esc ys).length + 2 := by simp [txt]

theorem txt_split {ys : List Int} {i : Nat} (h : i < ys.length) : txt ys = (34 :: esc (ys.take i)) ++ (esc1 (ati ys i) ++ (esc (ys.drop (i + 1)) ++ [34])) := by
  have e : ys = ys.take i ++ (ati ys i :: ys.drop (i + 1)) := by rw [← drop_ati h, List.take_append_drop]
  unfold txt
  conv => lhs; rw [e]
  rw [esc_append]
  simp [esc, List.append_assoc]

/-- Where the reader stands ahead of the i-th byte of the content. -/
def posn (ys : List Int) (i : Nat) : Nat := 1 + (esc (ys.take i)).length

theorem posn_zero (ys : List Int) : posn ys 0 = 1 := by simp [posn, esc]
theorem posn_le (ys : List Int) (i : Nat) : posn ys i + 1 ≤ (txt ys).length := by
  rw [txt_len]
  have : esc ys = esc (ys.take i) ++ esc (ys.drop i) := by rw [← esc_append, List.take_append_drop]
  rw [this]
  simp [posn]
  omega
theorem posn_end (ys : List Int) : posn ys ys.length + 1 = (txt ys).length := by
  rw [txt_len]; simp [posn]; omega

theorem posn_spec {ys : List Int} {i : Nat} (h : i < ys.length) (hs : spec (ati ys i) = true) : ati (txt ys) (posn ys i) = 92 ∧ posn ys (i + 1) = posn ys i + 2 := by
  constructor
  · have hp : posn ys i = (34 :: esc (ys.take i)).length + 0 := by simp [posn]; omega
    have e1 : esc1 (ati ys i) = [92, ati ys i] := by simp only [esc1, hs, if_true]
    rw [txt_split h, hp, ati_right, e1]
    rfl
  · unfold posn
    rw [esc_take h]
    simp [esc1, hs]
    omega

theorem posn_plain {ys : List Int} {i : Nat} (h : i < ys.length) (hs : spec (ati ys i) = false) : ati (txt ys) (posn ys i) = ati ys i ∧ posn ys (i + 1) = posn ys i + 1 := by
  constructor
  · have hp : posn ys i = (34 :: esc (ys.take i)).length + 0 := by simp [posn]; omega
    have e1 : esc1 (ati ys i) = [ati ys i] := by unfold esc1; rw [hs]; rfl
    rw [txt_split h, hp, ati_right, e1]
    rfl
  · unfold posn
    rw [esc_take h]
    simp [esc1, hs]
    omega

theorem txt_last (ys : List Int) : ati (txt ys) (posn ys ys.length) = 34 := by
  have hp : posn ys ys.length = (34 :: esc ys).length + 0 := by simp [posn]; omega
  have e : txt ys = (34 :: esc ys) ++ [34] := rfl
  rw [e, hp, ati_right]
  rfl
theorem txt_zero (ys : List Int) : ati (txt ys) 0 = 34 := rfl
end Go.Proofs.Qxb6001736a
