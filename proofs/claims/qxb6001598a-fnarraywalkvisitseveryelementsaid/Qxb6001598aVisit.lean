/-
  SEAT b6001598a. WHAT nextPart AND valueEnd ANSWER over the whole text, element by element.
-/
import Derived.Test.Qxb6001598aLay
import Derived.Test.Qxb6001598aSkipV
namespace Go.Proofs.Qxb6001598a
open Go.RowKit

/-- Where the walk over the array stands when the elements a lie behind it and b ahead. -/
def pos (g0 : List Int) (a : List El) : List El → Nat
  | [] => 1 + g0.length + (flat a).length
  | x :: _ => 1 + g0.length + (flat a).length + x.1.length

theorem pos_nil (g0 : List Int) (a : List El) : pos g0 a [] = 1 + g0.length + (flat a).length := rfl
theorem pos_cons (g0 : List Int) (a r : List El) (x : El) : pos g0 a (x :: r) = 1 + g0.length + (flat a).length + x.1.length := rfl

theorem whole_bytes {g0 : List Int} {els : List El} (hg : Spaces g0) (he : Good els) : Bytes (whole g0 els) := by
  intro x hx
  unfold whole at hx
  rw [List.mem_cons, List.mem_append, List.mem_append] at hx
  rcases hx with rfl | hx | hx | hx
  · omega
  · exact Bytes.spaces hg x hx
  · exact he.bytes x hx
  · simp at hx; omega
theorem whole_at {g0 : List Int} {els : List El} (hg : Spaces g0) (he : Good els) (k : Nat) : 0 ≤ ati (whole g0 els) k ∧ ati (whole g0 els) k ≤ 255 := by
  by_cases hk : k < (whole g0 els).length
  · rw [ati_lt hk]; exact whole_bytes hg he _ (List.getElem_mem _)
  · have : ati (whole g0 els) k = 0 := by simp [ati]; rw [List.getElem?_eq_none (by omega)]; rfl
    omega

section
variable {w : World} {b cap n : Nat} {g0 : List Int} {els : List El}

theorem visit_first (hl : (whole g0 els).length = n) (hn : n ≤ 100000000000000) (hcell : ∀ k, k < n → w.cell? ⟨b, 0 + k, none⟩ = some (.int .u8 (ati (whole g0 els) k))) (hg : Spaces g0) (he : Good els) :
    Calls Try.prog 13 #[.slice (some ⟨b, 0, none⟩) n cap, .int .i64 ((1 : Nat) : Int)] w fun e w' => e = .returned (.int .i64 (pos g0 [] els : Int)) ∧ w' = w := by
  cases els with
  | nil =>
    have := next_end w b 0 n cap 1 (whole g0 []) g0 [] 93 hl hn hcell (drop_one g0 []) hg (by unfold isSp; omega) (by omega)
    exact this
  | cons x r =>
    obtain ⟨h1, h2, h3, h4⟩ := he
    obtain ⟨c, r', e, hc1, hc2⟩ := h2.head
    have hd : (whole g0 (x :: r)).drop 1 = g0 ++ c :: (r' ++ (x.2.2 ++ (flat r ++ [93]))) := by
      rw [drop_one]
      show g0 ++ (x.all ++ flat r ++ [93]) = _
      unfold El.all
      rw [h1, e]; simp
    have := next_end w b 0 n cap 1 (whole g0 (x :: r)) g0 _ c hl hn hcell hd hg hc1 hc2
    have ep : pos g0 [] (x :: r) = 1 + g0.length := by rw [pos_cons, h1]; rfl
    rw [ep]; exact this

theorem visit_value {a r : List El} {x : El} (hl : (whole g0 (a ++ x :: r)).length = n) (hn : n ≤ 100000000000000) (hcell : ∀ k, k < n → w.cell? ⟨b, 0 + k, none⟩ = some (.int .u8 (ati (whole g0 (a ++ x :: r)) k))) (hg : Spaces g0) (he : Good (a ++ x :: r)) :
    Calls Try.prog 18 #[.slice (some ⟨b, 0, none⟩) n cap, .int .i64 (pos g0 a (x :: r) : Int)] w fun e w' => e = .returned (.int .i64 ((pos g0 a (x :: r) + x.2.1.length : Nat) : Int)) ∧ w' = w := by
  obtain ⟨hv, hs, ht⟩ := he.at
  exact skipV_val w b 0 n cap (pos g0 a (x :: r)) (whole g0 (a ++ x :: r)) x.2.1 _ hl hn hcell (whole_at hg he) (drop_val g0 a r x) hv (.inr (tail_delim hs ht))

theorem visit_next {a r : List El} {x : El} (hl : (whole g0 (a ++ x :: r)).length = n) (hn : n ≤ 100000000000000) (hcell : ∀ k, k < n → w.cell? ⟨b, 0 + k, none⟩ = some (.int .u8 (ati (whole g0 (a ++ x :: r)) k))) (he : Good (a ++ x :: r)) :
    Calls Try.prog 13 #[.slice (some ⟨b, 0, none⟩) n cap, .int .i64 ((pos g0 a (x :: r) + x.2.1.length : Nat) : Int)] w fun e w' => e = .returned (.int .i64 (pos g0 (a ++ [x]) r : Int)) ∧ w' = w := by
  obtain ⟨hv, hs, ht⟩ := he.at
  have hd := drop_gap g0 a r x
  have hfl : (flat (a ++ [x])).length = (flat a).length + (x.1.length + x.2.1.length + x.2.2.length) := by rw [flat_snoc, List.length_append, El.all_length]
  cases r with
  | nil =>
    have := next_end w b 0 n cap (pos g0 a [x] + x.2.1.length) _ x.2.2 [] 93 hl hn hcell hd hs (by unfold isSp; omega) (by omega)
    have ep : pos g0 (a ++ [x]) [] = pos g0 a [x] + x.2.1.length + x.2.2.length := by rw [pos_nil, pos_cons, hfl]; omega
    rw [ep]; exact this
  | cons y r2 =>
    obtain ⟨⟨g, hgy, hgs⟩, hvy, _⟩ := ht y (by simp)
    obtain ⟨c, r', e, hc1, hc2⟩ := hvy.head
    have hd2 : (whole g0 (a ++ x :: y :: r2)).drop (pos g0 a (x :: y :: r2) + x.2.1.length) = x.2.2 ++ 44 :: (g ++ c :: (r' ++ (y.2.2 ++ (flat r2 ++ [93])))) := by
      show (whole g0 (a ++ x :: y :: r2)).drop (1 + g0.length + (flat a).length + x.1.length + x.2.1.length) = _
      rw [hd]
      show x.2.2 ++ (y.all ++ flat r2 ++ [93]) = _
      unfold El.all
      rw [hgy, e]; simp
    have := next_comma w b 0 n cap (pos g0 a (x :: y :: r2) + x.2.1.length) _ x.2.2 g _ c hl hn hcell hd2 hs hgs hc1
    have ep : pos g0 (a ++ [x]) (y :: r2) = pos g0 a (x :: y :: r2) + x.2.1.length + x.2.2.length + 1 + g.length := by
      rw [pos_cons, pos_cons, hfl, hgy, List.length_cons]; omega
    rw [ep]; exact this
end
theorem pos_at_start (g0 : List Int) (a r : List El) (x : El) : ati (sts (1 + g0.length) (a ++ x :: r)) a.length = (pos g0 a (x :: r) : Int) := sts_at _ _ _ _
theorem pos_at_end (g0 : List Int) (a r : List El) (x : El) : ati (ens (1 + g0.length) (a ++ x :: r)) a.length = ((pos g0 a (x :: r) + x.2.1.length : Nat) : Int) := ens_at _ _ _ _
theorem pos_le (g0 : List Int) (a r : List El) (x : El) : pos g0 a (x :: r) + x.2.1.length ≤ (whole g0 (a ++ x :: r)).length := by
  rw [whole_length, flat_append]
  have : (flat (x :: r)).length = x.1.length + x.2.1.length + x.2.2.length + (flat r).length := by
    show (x.all ++ flat r).length = _
    rw [List.length_append, El.all_length]
  rw [pos_cons, List.length_append, this]; omega
end Go.Proofs.Qxb6001598a
