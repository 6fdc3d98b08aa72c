/-
  SEAT b6001551a. THE WALKS of zzSameBytes (two slices that hold the same bytes) and of zzBytes_FnSkipStringEndsEncodedText.
-/
import Derived.Test.Qxb6001551aMem
import Derived.Deep.QuietTactic
import Derived.BigQuiet
import Derived.WalkSmall
namespace Go.Proofs.Qxb6001551a
open Go.RowKit

set_option maxHeartbeats 400000 in
theorem same_calls (B1 B2 : Nat) (w : World) (a1 a2 : Option Addr) (n c1 c2 : Nat) (xs : List Int) (h1 : Src B1 w a1 n xs) (h2 : Src B2 w a2 n xs) (hn : n ≤ 1000000000) :
    Calls Try.prog 12 #[.slice a1 n c1, .slice a2 n c2] w fun e w' => e = .returned (.bool true) ∧ ∃ q, w' = w.drewN q := by
  have t0 : ((n : Int) != (n : Int)) = false := by simp
  go_enter Try.func12, Try.ntmps12
  go_wp2
  go_loopw [5] (fun i wr => ∃ k q : Nat, k ≤ n ∧ i = .int .i64 k ∧ wr = w.drewN q) (fun i _ => n - (intOf i).toNat)
  case atStart => exact ⟨0, 0, Nat.zero_le _, rfl, rfl⟩
  case round =>
    obtain ⟨k, q, hk, rfl, rfl⟩ := hrel
    by_cases hlt : k < n
    · obtain ⟨b1, o1, e1, _, hc1⟩ := h1.place (by omega)
      obtain ⟨b2, o2, e2, _, hc2⟩ := h2.place (by omega)
      subst e1 e2
      have g1 := hc1 k hlt
      have g2 := hc2 k hlt
      have t1 : (ati xs k != ati xs k) = false := by simp
      clear hc1 hc2 h1 h2
      go_wp2
      go_quiet (fail)
      go_wp2
      exact ⟨⟨k + 1, _, by omega, by go_num, rfl⟩, by simp [intOf]; omega⟩
    · go_wp2
      go_ret
      exact ⟨rfl, q, rfl⟩

set_option maxHeartbeats 400000 in
theorem bytes7_calls (w : World) (a0 a1 a2 : Option Addr) (n0 n1 n2 c0 c1 c2 : Nat) (h0 : n0 ≤ 9223372036854775807) (h1 : n1 ≤ 9223372036854775807) (h2 : n2 ≤ 9223372036854775807) :
    Calls Try.prog 7 #[.slice a0 n0 c0, .slice a1 n1 c1, .slice a2 n2 c2] w fun e w' => (∃ b : Bool, e = .returned (.bool b) ∧ (b = true → n0 + n1 + n2 ≤ 1048576)) ∧ w' = w := by
  go_enter Try.func7, Try.ntmps7
  go_wp2
  all_goals
    go_ret
    refine ⟨⟨_, rfl, ?_⟩, rfl⟩
    first
      | (intro h; cases h; done)
      | (intro _; omega)
end Go.Proofs.Qxb6001551a
