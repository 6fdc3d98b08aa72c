/-
  SEAT b6001551a. THE PLAIN LAWS of zzEscape's text: no Go in sight.
-/
import Derived.Test.Qxb6001551aMem
namespace Go.Proofs.Qxb6001551a

/-- A hexadecimal digit's sign. -/
def hexd (v : Int) : Int := if v < 10 then 48 + v else 87 + v
/-- What zzEscape writes for one byte. -/
def esc1 (c : Int) : List Int :=
  if c = 34 ∨ c = 92 then [92, c] else if c = 10 then [92, 110] else if c = 9 then [92, 116] else if c < 32 then [92, 117, 48, 48, hexd (c / 16), hexd (c % 16)] else [c]
def esc (cs : List Int) : List Int := cs.flatMap esc1

theorem esc1_q {c : Int} (h1 : 34 ≤ c) (h2 : c ≤ 34) : esc1 c = [92, c] := by unfold esc1; rw [if_pos (by omega)]
theorem esc1_b {c : Int} (h1 : 92 ≤ c) (h2 : c ≤ 92) : esc1 c = [92, c] := by unfold esc1; rw [if_pos (by omega)]
theorem esc1_n {c : Int} (h1 : 10 ≤ c) (h2 : c ≤ 10) : esc1 c = [92, 110] := by unfold esc1; rw [if_neg (by omega), if_pos (by omega)]
theorem esc1_t {c : Int} (h1 : 9 ≤ c) (h2 : c ≤ 9) : esc1 c = [92, 116] := by unfold esc1; rw [if_neg (by omega), if_neg (by omega), if_pos (by omega)]
theorem esc1_u {c : Int} (h1 : c < 32) (h2 : c ≠ 10) (h3 : c ≠ 9) : esc1 c = [92, 117, 48, 48, hexd (c / 16), hexd (c % 16)] := by
  unfold esc1; rw [if_neg (by omega), if_neg (by omega), if_neg (by omega), if_pos (by omega)]
theorem esc1_p {c : Int} (h1 : 32 ≤ c) (h2 : c ≠ 34) (h3 : c ≠ 92) : esc1 c = [c] := by
  unfold esc1; rw [if_neg (by omega), if_neg (by omega), if_neg (by omega), if_neg (by omega)]

theorem esc1_length (c : Int) : 1 ≤ (esc1 c).length ∧ (esc1 c).length ≤ 6 := by
  unfold esc1; repeat' split
  all_goals simp

theorem hexd_byte {v : Int} (h0 : 0 ≤ v) (h1 : v ≤ 15) : 48 ≤ hexd v ∧ hexd v ≤ 102 ∧ hexd v ≠ 92 := by unfold hexd; split <;> omega

theorem esc1_byte {c : Int} (h0 : 0 ≤ c) (h1 : c ≤ 255) : ∀ x ∈ esc1 c, 0 ≤ x ∧ x ≤ 255 := by
  intro x hx
  by_cases a : c < 32 ∧ c ≠ 10 ∧ c ≠ 9
  · rw [esc1_u a.1 a.2.1 a.2.2] at hx
    have := hexd_byte (v := c / 16) (by omega) (by omega)
    have := hexd_byte (v := c % 16) (by omega) (by omega)
    simp only [List.mem_cons, List.not_mem_nil, or_false] at hx
    omega
  · unfold esc1 at hx
    split at hx
    · simp at hx; omega
    · split at hx
      · simp at hx; omega
      · split at hx
        · simp at hx; omega
        · rw [if_neg (by omega)] at hx; simp at hx; omega

theorem esc_nil : esc [] = [] := rfl
theorem esc_cons (c : Int) (cs : List Int) : esc (c :: cs) = esc1 c ++ esc cs := by simp [esc]
theorem esc_append (a b : List Int) : esc (a ++ b) = esc a ++ esc b := by simp [esc]
theorem esc_snoc (cs : List Int) (c : Int) : esc (cs ++ [c]) = esc cs ++ esc1 c := by simp [esc]
theorem esc_length (cs : List Int) : cs.length ≤ (esc cs).length ∧ (esc cs).length ≤ 6 * cs.length := by
  induction cs with
  | nil => simp [esc]
  | cons c cs ih => rw [esc_cons, List.length_append, List.length_cons]; have := esc1_length c; omega
theorem esc_byte {cs : List Int} (h : ∀ x ∈ cs, 0 ≤ x ∧ x ≤ 255) : ∀ x ∈ esc cs, 0 ≤ x ∧ x ≤ 255 := by
  intro x hx
  simp only [esc, List.mem_flatMap] at hx
  obtain ⟨c, hc, hx⟩ := hx
  exact esc1_byte (h c hc).1 (h c hc).2 x hx
theorem esc_take {cs : List Int} {k : Nat} (h : k < cs.length) : esc (cs.take (k + 1)) = esc (cs.take k) ++ esc1 (ati cs k) := by
  rw [take_ati h, esc_snoc]

/-- How far a JSON string's text runs from here to just past its closing quote ('b': the sign before was an open backslash). -/
def scanS : Bool → List Int → Option Nat
  | _, [] => none
  | true, _ :: r => (scanS false r).map (· + 1)
  | false, c :: r => if c = 34 then some 1 else (scanS (c == 92) r).map (· + 1)

theorem scanS_plain {c : Int} (h1 : c ≠ 34) (h2 : c ≠ 92) (r : List Int) : scanS false (c :: r) = (scanS false r).map (· + 1) := by
  have e : (c == 92) = false := by simp [h2]
  simp [scanS, h1, e]
theorem scanS_pair (c : Int) (r : List Int) : scanS false (92 :: c :: r) = (scanS false r).map (· + 2) := by
  simp [scanS, Function.comp_def]

theorem scanS_esc1 (c : Int) (h0 : 0 ≤ c) (h1 : c ≤ 255) (r : List Int) : scanS false (esc1 c ++ r) = (scanS false r).map (· + (esc1 c).length) := by
  by_cases a : c = 34 ∨ c = 92
  · have : esc1 c = [92, c] := by unfold esc1; rw [if_pos a]
    rw [this]; exact scanS_pair c r
  · by_cases b : c = 10
    · rw [esc1_n (by omega) (by omega)]; exact scanS_pair _ r
    · by_cases d : c = 9
      · rw [esc1_t (by omega) (by omega)]; exact scanS_pair _ r
      · by_cases e : c < 32
        · have g1 := hexd_byte (v := c / 16) (by omega) (by omega)
          have g2 := hexd_byte (v := c % 16) (by omega) (by omega)
          rw [esc1_u e b d]
          show scanS false (92 :: 117 :: 48 :: 48 :: hexd (c / 16) :: hexd (c % 16) :: r) = _
          rw [scanS_pair, scanS_plain (by omega) (by omega), scanS_plain (by omega) (by omega), scanS_plain (by omega) (by omega), scanS_plain (by omega) (by omega)]
          simp [Function.comp_def]
        · rw [esc1_p (by omega) (by omega) (by omega)]
          show scanS false (c :: r) = _
          rw [scanS_plain (by omega) (by omega)]; rfl

theorem scanS_esc (cs : List Int) (h : ∀ x ∈ cs, 0 ≤ x ∧ x ≤ 255) (r : List Int) : scanS false (esc cs ++ r) = (scanS false r).map (· + (esc cs).length) := by
  induction cs with
  | nil => simp [esc]
  | cons c cs ih =>
    rw [esc_cons, List.append_assoc, scanS_esc1 c (h c (by simp)).1 (h c (by simp)).2, ih (fun x hx => h x (by simp [hx])), Option.map_map]
    congr 1
    funext n
    simp only [Function.comp_def, List.length_append]; omega

/-- THE LAW: the text that encodes cs, then a quote, is run through to just past that quote. -/
theorem scanS_text (cs : List Int) (h : ∀ x ∈ cs, 0 ≤ x ∧ x ≤ 255) (r : List Int) : scanS false (esc cs ++ 34 :: r) = some ((esc cs).length + 1) := by
  rw [scanS_esc cs h]
  have : scanS false (34 :: r) = some 1 := by simp [scanS]
  rw [this]; simp; omega

/-- Where in the text a byte of the content stands. -/
theorem ati_esc {cs : List Int} {k j : Nat} (h : k < cs.length) (hj : j < (esc1 (ati cs k)).length) : ati (esc cs) ((esc (cs.take k)).length + j) = ati (esc1 (ati cs k)) j := by
  have e : esc cs = esc (cs.take k) ++ (esc1 (ati cs k) ++ esc (cs.drop (k + 1))) := by
    rw [← esc_cons, ← drop_ati h, ← esc_append, List.take_append_drop]
  rw [e, ati_right, ati_left hj]
theorem esc_take_le {cs : List Int} {k : Nat} (h : k < cs.length) : (esc (cs.take k)).length + (esc1 (ati cs k)).length ≤ (esc cs).length := by
  have e : esc cs = esc (cs.take k) ++ (esc1 (ati cs k) ++ esc (cs.drop (k + 1))) := by
    rw [← esc_cons, ← drop_ati h, ← esc_append, List.take_append_drop]
  rw [e]; simp only [List.length_append]; omega
end Go.Proofs.Qxb6001551a
