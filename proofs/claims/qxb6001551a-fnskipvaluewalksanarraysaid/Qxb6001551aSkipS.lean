import Derived.Test.Qxb6001551aEsc
namespace Go.Proofs.Qxb6001551a
open Go.RowKit

theorem scanS_none : scanS false [] = none := rfl
theorem scanS_at {xs : List Int} {j m : Nat} (h : scanS false (xs.drop j) = some m) : j < xs.length := by
  rcases Nat.lt_or_ge j xs.length with h1 | h1
  · exact h1
  · rw [List.drop_eq_nil_of_le h1] at h; cases h
theorem scanS_q {xs : List Int} {j m : Nat} (h : scanS false (xs.drop j) = some m) (hc : ati xs j = 34) : m = 1 := by
  rw [drop_ati (scanS_at h), hc] at h
  simpa [scanS] using h.symm
theorem scanS_b {xs : List Int} {j m : Nat} (h : scanS false (xs.drop j) = some m) (hc : ati xs j = 92) : j + 1 < xs.length ∧ ∃ m', m = m' + 2 ∧ scanS false (xs.drop (j + 2)) = some m' := by
  rw [drop_ati (scanS_at h), hc] at h
  rcases Nat.lt_or_ge (j + 1) xs.length with h1 | h1
  · rw [drop_ati h1, scanS_pair, Option.map_eq_some_iff] at h
    obtain ⟨m', h, e⟩ := h
    exact ⟨h1, m', e.symm, h⟩
  · rw [List.drop_eq_nil_of_le h1] at h; simp [scanS] at h
theorem scanS_o {xs : List Int} {j m : Nat} (h : scanS false (xs.drop j) = some m) (h1 : ati xs j ≠ 34) (h2 : ati xs j ≠ 92) : ∃ m', m = m' + 1 ∧ scanS false (xs.drop (j + 1)) = some m' := by
  rw [drop_ati (scanS_at h), scanS_plain h1 h2, Option.map_eq_some_iff] at h
  obtain ⟨m', h, e⟩ := h
  exact ⟨m', e.symm, h⟩
theorem ret_i64 {a b : Int} (h : a = b) : Ending.returned (.int .i64 a) = .returned (.int .i64 b) := by rw [h]

set_option maxHeartbeats 400000 in
theorem skipS_calls (w : World) (b off n cap i m : Nat) (xs : List Int) (hl : xs.length = n) (hn : n ≤ 1000000000) (hcell : ∀ k, k < n → w.cell? ⟨b, off + k, none⟩ = some (.int .u8 (ati xs k)))
    (hs : scanS false (xs.drop (i + 1)) = some m) :
    Calls Try.prog 20 #[.slice (some ⟨b, off, none⟩) n cap, .int .i64 i] w fun e w' => e = .returned (.int .i64 ((i + 1 + m : Nat) : Int)) ∧ w' = w := by
  have hi := scanS_at hs
  go_enter Try.func20, Try.ntmps20
  go_wp2
  go_loop [1] (fun q => ∃ j m' : Nat, q = .int .i64 j ∧ scanS false (xs.drop j) = some m' ∧ j + m' = i + 1 + m) (fun q => n - (intOf q).toNat)
  case atStart => exact ⟨i + 1, m, by go_num, hs, rfl⟩
  case round =>
    obtain ⟨j, m', rfl, hsc, hj⟩ := hrel
    have hjn : j < n := by have := scanS_at hsc; omega
    have hc := hcell j hjn
    have HJ : Hid (j + m' = i + 1 + m) := hj
    have HC : Hid (∀ k, k < n → w.cell? ⟨b, off + k, none⟩ = some (.int .u8 (ati xs k))) := hcell
    clear hj hcell hs
    by_cases c1 : ati xs j = 34
    · have e1 := scanS_q hsc c1
      have t1 : (ati xs j == 34) = true := by simp [c1]
      have t1' : (ati xs j != 34) = false := by simp [c1]
      clear c1 hsc
      go_wp2
      go_ret
      exact ⟨ret_i64 (by have := HJ.out; omega), rfl⟩
    · have t1 : (ati xs j != 34) = true := by simp [c1]
      by_cases c2 : ati xs j = 92
      · obtain ⟨h1, m2, e2, hs2⟩ := scanS_b hsc c2
        have t2 : (ati xs j == 92) = true := by simp [c2]
        have E2 : Hid (m' = m2 + 2) := e2
        have H2 : Hid (scanS false (xs.drop (j + 2)) = some m2) := hs2
        clear c1 c2 hsc e2 hs2
        go_wp2
        go_round
        case rel => exact ⟨j + 2, m2, by go_num, H2.out, by have := HJ.out; have := E2.out; omega⟩
        case measure => simp [intOf]; omega
      · obtain ⟨m2, e2, hs2⟩ := scanS_o hsc c1 c2
        have t2 : (ati xs j == 92) = false := by simp [c2]
        have E2 : Hid (m' = m2 + 1) := e2
        have H2 : Hid (scanS false (xs.drop (j + 1)) = some m2) := hs2
        clear c1 c2 hsc e2 hs2
        go_wp2
        go_round
        case rel => exact ⟨j + 1, m2, by go_num, H2.out, by have := HJ.out; have := E2.out; omega⟩
        case measure => simp [intOf]; omega

theorem skipS_zz (w : World) (b off n cap i m : Nat) (xs : List Int) (hl : xs.length = n) (hn : n ≤ 1000000000) (hcell : ∀ k, k < n → w.cell? ⟨b, off + k, none⟩ = some (.int .u8 (ati xs k)))
    (hs : scanS false (xs.drop (i + 1)) = some m) :
    Calls Try.prog 9 #[.slice (some ⟨b, off, none⟩) n cap, .int .i64 i] w fun e w' => e = .returned (.int .i64 ((i + 1 + m : Nat) : Int)) ∧ w' = w := by
  have H := skipS_calls w b off n cap i m xs hl hn hcell hs
  clear hcell hs
  go_enter Try.func9, Try.ntmps9
  go_wp2_with fail
  refine H.mono ?_
  rintro e w1 ⟨rfl, rfl⟩
  go_wp2
  go_ret
  exact ⟨rfl, rfl⟩
end Go.Proofs.Qxb6001551a
