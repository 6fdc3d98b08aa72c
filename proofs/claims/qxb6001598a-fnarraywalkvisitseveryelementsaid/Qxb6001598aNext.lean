/-
  SEAT b6001598a. THE WALKS of skipSpace and nextPart.
-/
import Derived.Test.Qxb6001598aSkipS
namespace Go.Proofs.Qxb6001598a
open Go.RowKit

def isSp (c : Int) : Prop := c = 32 ∨ c = 9 ∨ c = 10 ∨ c = 13
def Spaces (xs : List Int) : Prop := ∀ c ∈ xs, isSp c

set_option maxHeartbeats 1000000 in
theorem skipSp_calls (w : World) (b off n cap i : Nat) (xs h r : List Int) (c : Int) (hl : xs.length = n) (hn : n ≤ 100000000000000) (hcell : ∀ k, k < n → w.cell? ⟨b, off + k, none⟩ = some (.int .u8 (ati xs k)))
    (hd : xs.drop i = h ++ c :: r) (hh : Spaces h) (hc : ¬ isSp c) :
    Calls Try.prog 28 #[.slice (some ⟨b, off, none⟩) n cap, .int .i64 i] w fun e w' => e = .returned (.int .i64 ((i + h.length : Nat) : Int)) ∧ w' = w := by
  have hdl : n - i = h.length + (r.length + 1) := by have := congrArg List.length hd; rw [List.length_drop, List.length_append, List.length_cons, hl] at this; exact this
  have hat : ∀ k, k < h.length → isSp (ati xs (i + k)) := fun k hk => by rw [← ati_drop, hd, ati_left hk, ati_lt hk]; exact hh _ (List.getElem_mem _)
  have hend : ati xs (i + h.length) = c := by
    rw [← ati_drop, hd]
    have : ati (h ++ c :: r) (h.length + 0) = ati (c :: r) 0 := ati_right
    rw [Nat.add_zero] at this
    rw [this]; rfl
  rw [← hend] at hc
  obtain ⟨L, hL⟩ : ∃ L, L = h.length := ⟨_, rfl⟩
  rw [← hL] at hdl hat hc ⊢
  have HC := hide hcell
  have HA := hide hat
  have HN := hide hc
  clear hcell hat hc hend hL hd hh
  go_enter Try.func28, Try.ntmps28
  go_wp2_with fail
  go_loop [1] (fun q => ∃ j : Nat, q = .int .i64 j ∧ i ≤ j ∧ j ≤ i + L) (fun q => i + L - (intOf q).toNat)
  case atStart => exact ⟨i, rfl, Nat.le_refl _, by omega⟩
  case round =>
    obtain ⟨j, rfl, hj1, hj2⟩ := hrel
    have hjn : j < n := by omega
    have hc := HC.out j hjn
    by_cases hlt : j < i + L
    · have hs : isSp (ati xs j) := by
        have := unhide HA (j - i) (by omega)
        rwa [show i + (j - i) = j from by omega] at this
      have hs' : (ati xs j == 32) = true ∨ ((ati xs j == 32) = false ∧ (ati xs j == 9) = true) ∨ ((ati xs j == 32) = false ∧ (ati xs j == 9) = false ∧ (ati xs j == 10) = true) ∨ ((ati xs j == 32) = false ∧ (ati xs j == 9) = false ∧ (ati xs j == 10) = false ∧ (ati xs j == 13) = true) := by
        rcases hs with e | e | e | e <;> simp [e]
      clear hs
      rcases hs' with t1 | ⟨t1, t2⟩ | ⟨t1, t2, t3⟩ | ⟨t1, t2, t3, t4⟩
      all_goals
        go_wp2_with fail
        go_round
        case rel => exact ⟨j + 1, by go_num, by omega, by omega⟩
        case measure => simp [intOf]; omega
    · have hje : j = i + L := by omega
      have hn := unhide HN
      rw [← hje] at hn
      unfold isSp at hn
      have t1 : (ati xs j == 32) = false := by simp; omega
      have t2 : (ati xs j == 9) = false := by simp; omega
      have t3 : (ati xs j == 10) = false := by simp; omega
      have t4 : (ati xs j == 13) = false := by simp; omega
      have HJ := hide hje
      clear hn hje
      go_wp2_with fail
      go_ret
      exact ⟨ret_i64 (by have := unhide HJ; omega), rfl⟩

set_option maxHeartbeats 400000 in
theorem next23_comma (w : World) (b off n cap i : Nat) (xs h g r : List Int) (c : Int) (hl : xs.length = n) (hn : n ≤ 100000000000000) (hcell : ∀ k, k < n → w.cell? ⟨b, off + k, none⟩ = some (.int .u8 (ati xs k)))
    (hd : xs.drop i = h ++ 44 :: (g ++ c :: r)) (hh : Spaces h) (hg : Spaces g) (hc : ¬ isSp c) :
    Calls Try.prog 23 #[.slice (some ⟨b, off, none⟩) n cap, .int .i64 i] w fun e w' => e = .returned (.int .i64 ((i + h.length + 1 + g.length : Nat) : Int)) ∧ w' = w := by
  have hdl : n - i = h.length + (g.length + (r.length + 1) + 1) := by have := congrArg List.length hd; rw [List.length_drop, List.length_append, List.length_cons, List.length_append, List.length_cons, hl] at this; exact this
  have hd2 : xs.drop (i + h.length + 1) = g ++ c :: r := by
    rw [Nat.add_assoc, ← List.drop_drop, hd, ← List.drop_drop, List.drop_left]; rfl
  have hcm : ati xs (i + h.length) = 44 := by
    rw [← ati_drop, hd]
    have : ati (h ++ 44 :: (g ++ c :: r)) (h.length + 0) = ati (44 :: (g ++ c :: r)) 0 := ati_right
    rw [Nat.add_zero] at this
    rw [this]; rfl
  have K1 := skipSp_calls w b off n cap i xs h _ 44 hl hn hcell hd hh (by unfold isSp; omega)
  have K2 := skipSp_calls w b off n cap (i + h.length + 1) xs g _ c hl hn hcell hd2 hg hc
  have hc44 := hcell (i + h.length) (by omega)
  rw [hcm] at hc44
  obtain ⟨L, hL⟩ : ∃ L, L = h.length := ⟨_, rfl⟩
  obtain ⟨G, hG⟩ : ∃ G, G = g.length := ⟨_, rfl⟩
  rw [← hL] at K1 K2 hc44 hdl ⊢
  rw [← hG] at K2 hdl ⊢
  rw [show ((i + L + 1 : Nat) : Int) = (i : Int) + L + 1 from by omega] at K2
  have HK1 := hide K1
  have HK2 := hide K2
  clear K1 K2 hcell hd hd2 hh hg hc hcm hL hG
  go_enter Try.func23, Try.ntmps23
  go_wp2_with fail
  refine (unhide HK1).mono ?_
  rintro e w1 ⟨rfl, hw⟩
  replace hw := hw.symm
  subst hw
  go_wp2_with fail
  refine (unhide HK2).mono ?_
  rintro e w1 ⟨rfl, hw⟩
  replace hw := hw.symm
  subst hw
  go_wp2_with fail
  go_ret
  exact ⟨rfl, rfl⟩

set_option maxHeartbeats 400000 in
theorem next23_end (w : World) (b off n cap i : Nat) (xs h r : List Int) (c : Int) (hl : xs.length = n) (hn : n ≤ 100000000000000) (hcell : ∀ k, k < n → w.cell? ⟨b, off + k, none⟩ = some (.int .u8 (ati xs k)))
    (hd : xs.drop i = h ++ c :: r) (hh : Spaces h) (hc : ¬ isSp c) (hc4 : c ≠ 44) :
    Calls Try.prog 23 #[.slice (some ⟨b, off, none⟩) n cap, .int .i64 i] w fun e w' => e = .returned (.int .i64 ((i + h.length : Nat) : Int)) ∧ w' = w := by
  have hdl : n - i = h.length + (r.length + 1) := by have := congrArg List.length hd; rw [List.length_drop, List.length_append, List.length_cons, hl] at this; exact this
  have hcm : ati xs (i + h.length) = c := by
    rw [← ati_drop, hd]
    have : ati (h ++ c :: r) (h.length + 0) = ati (c :: r) 0 := ati_right
    rw [Nat.add_zero] at this
    rw [this]; rfl
  have K1 := skipSp_calls w b off n cap i xs h _ c hl hn hcell hd hh hc
  have hc44 := hcell (i + h.length) (by omega)
  rw [hcm] at hc44
  have t1 : (c == 44) = false := by simp [hc4]
  obtain ⟨L, hL⟩ : ∃ L, L = h.length := ⟨_, rfl⟩
  rw [← hL] at K1 hc44 hdl ⊢
  have HK1 := hide K1
  clear K1 hcell hd hh hc hcm hL hc4
  go_enter Try.func23, Try.ntmps23
  go_wp2_with fail
  refine (unhide HK1).mono ?_
  rintro e w1 ⟨rfl, hw⟩
  replace hw := hw.symm
  subst hw
  go_wp2_with fail
  go_ret
  exact ⟨rfl, rfl⟩

theorem next_zz (w : World) (v : Value) (i r : Nat) (H0 : Calls Try.prog 23 #[v, .int .i64 i] w fun e w' => e = .returned (.int .i64 (r : Int)) ∧ w' = w) :
    Calls Try.prog 13 #[v, .int .i64 i] w fun e w' => e = .returned (.int .i64 (r : Int)) ∧ w' = w := by
  have H := hide H0
  clear H0
  go_enter Try.func13, Try.ntmps13
  go_wp2_with fail
  refine (unhide H).mono ?_
  rintro e w1 ⟨rfl, rfl⟩
  go_wp2_with fail
  go_ret
  exact ⟨rfl, rfl⟩

theorem next_comma (w : World) (b off n cap i : Nat) (xs h g r : List Int) (c : Int) (hl : xs.length = n) (hn : n ≤ 100000000000000) (hcell : ∀ k, k < n → w.cell? ⟨b, off + k, none⟩ = some (.int .u8 (ati xs k)))
    (hd : xs.drop i = h ++ 44 :: (g ++ c :: r)) (hh : Spaces h) (hg : Spaces g) (hc : ¬ isSp c) :
    Calls Try.prog 13 #[.slice (some ⟨b, off, none⟩) n cap, .int .i64 i] w fun e w' => e = .returned (.int .i64 ((i + h.length + 1 + g.length : Nat) : Int)) ∧ w' = w :=
  next_zz _ _ _ _ (next23_comma w b off n cap i xs h g r c hl hn hcell hd hh hg hc)

theorem next_end (w : World) (b off n cap i : Nat) (xs h r : List Int) (c : Int) (hl : xs.length = n) (hn : n ≤ 100000000000000) (hcell : ∀ k, k < n → w.cell? ⟨b, off + k, none⟩ = some (.int .u8 (ati xs k)))
    (hd : xs.drop i = h ++ c :: r) (hh : Spaces h) (hc : ¬ isSp c) (hc4 : c ≠ 44) :
    Calls Try.prog 13 #[.slice (some ⟨b, off, none⟩) n cap, .int .i64 i] w fun e w' => e = .returned (.int .i64 ((i + h.length : Nat) : Int)) ∧ w' = w :=
  next_zz _ _ _ _ (next23_end w b off n cap i xs h r c hl hn hcell hd hh hc hc4)
end Go.Proofs.Qxb6001598a
