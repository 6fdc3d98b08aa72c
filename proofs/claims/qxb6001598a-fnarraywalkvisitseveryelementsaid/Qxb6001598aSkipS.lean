/-
  SEAT b6001598a. THE WALK of stringEnd.
-/
import Derived.Test.Qxb6001598aScan
namespace Go.Proofs.Qxb6001598a
open Go.RowKit

theorem ret_i64 {a b : Int} (h : a = b) : Ending.returned (.int .i64 a) = .returned (.int .i64 b) := by rw [h]

set_option maxHeartbeats 400000 in
theorem skipS_calls (w : World) (b off n cap i m : Nat) (xs : List Int) (hl : xs.length = n) (hn : n ≤ 100000000000000) (hcell : ∀ k, k < n → w.cell? ⟨b, off + k, none⟩ = some (.int .u8 (ati xs k)))
    (hs : scanS false (xs.drop (i + 1)) = some m) :
    Calls Try.prog 21 #[.slice (some ⟨b, off, none⟩) n cap, .int .i64 i] w fun e w' => e = .returned (.int .i64 ((i + 1 + m : Nat) : Int)) ∧ w' = w := by
  have hi := scanS_at hs
  go_enter Try.func21, Try.ntmps21
  go_wp2
  go_loop [1] (fun q => ∃ j m' : Nat, q = .int .i64 j ∧ scanS false (xs.drop j) = some m' ∧ j + m' = i + 1 + m) (fun q => n - (intOf q).toNat)
  case atStart => exact ⟨i + 1, m, by go_num, hs, rfl⟩
  case round =>
    obtain ⟨j, m', rfl, hsc, hj⟩ := hrel
    have hjn : j < n := by have := scanS_at hsc; omega
    have hc := hcell j hjn
    have HJ : Hid (j + m' = i + 1 + m) := hj
    have HC : Hid (∀ k, k < n → w.cell? ⟨b, off + k, none⟩ = some (.int .u8 (ati xs k))) := hcell
    clear hj hcell hs
    by_cases c1 : ati xs j = 34
    · have e1 := scanS_q hsc c1
      have t1 : (ati xs j == 34) = true := by simp [c1]
      have t1' : (ati xs j != 34) = false := by simp [c1]
      clear c1 hsc
      go_wp2
      go_ret
      exact ⟨ret_i64 (by have := HJ.out; omega), rfl⟩
    · have t1 : (ati xs j != 34) = true := by simp [c1]
      by_cases c2 : ati xs j = 92
      · obtain ⟨h1, m2, e2, hs2⟩ := scanS_b hsc c2
        have t2 : (ati xs j == 92) = true := by simp [c2]
        have E2 : Hid (m' = m2 + 2) := e2
        have H2 : Hid (scanS false (xs.drop (j + 2)) = some m2) := hs2
        clear c1 c2 hsc e2 hs2
        go_wp2
        go_round
        case rel => exact ⟨j + 2, m2, by go_num, H2.out, by have := HJ.out; have := E2.out; omega⟩
        case measure => simp [intOf]; omega
      · obtain ⟨m2, e2, hs2⟩ := scanS_o hsc c1 c2
        have t2 : (ati xs j == 92) = false := by simp [c2]
        have E2 : Hid (m' = m2 + 1) := e2
        have H2 : Hid (scanS false (xs.drop (j + 1)) = some m2) := hs2
        clear c1 c2 hsc e2 hs2
        go_wp2
        go_round
        case rel => exact ⟨j + 1, m2, by go_num, H2.out, by have := HJ.out; have := E2.out; omega⟩
        case measure => simp [intOf]; omega

end Go.Proofs.Qxb6001598a
