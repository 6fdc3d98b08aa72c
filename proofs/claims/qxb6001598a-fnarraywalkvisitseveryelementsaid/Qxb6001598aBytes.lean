/-
  SEAT b6001598a. THE WALKS of zzBytes_FnArrayWalkVisitsEveryElement and zzSjStrsBytes.
-/
import Derived.Test.Qxb6001598aBld
import Derived.Test.Qxb6001598aSkipS
namespace Go.Proofs.Qxb6001598a
open Go.RowKit

/-- A slice of strings as it came in. -/
structure StrsIn (B : Nat) (w : World) (ao : Option Addr) (n : Nat) (ss : List ByteArray) : Prop where
  size : ∀ k, (sti ss k).size ≤ 9223372036854775807
  cell : n = 0 ∨ ∃ b off, ao = some ⟨b, off, none⟩ ∧ b < B ∧ ∀ k, k < n → w.cell? ⟨b, off + k, none⟩ = some (.string (sti ss k))
theorem StrsIn.place {B : Nat} {w : World} {ao : Option Addr} {n : Nat} {ss : List ByteArray} (h : StrsIn B w ao n ss) (hn : 0 < n) :
    ∃ b off, ao = some ⟨b, off, none⟩ ∧ b < B ∧ ∀ k, k < n → w.cell? ⟨b, off + k, none⟩ = some (.string (sti ss k)) := by
  rcases h.cell with h0 | h
  · omega
  · exact h
theorem StrsIn.small {B : Nat} {w : World} {ao : Option Addr} {n : Nat} {ss : List ByteArray} (h : StrsIn B w ao n ss) (hs : ∀ k, k < n → (sti ss k).size ≤ 1048576) : Strs B w ao n ss := ⟨hs, h.cell⟩

def Ok19 (n0 n1 n2 n3 : Nat) (ss : List ByteArray) (e : Ending) : Prop := ∃ b : Bool, e = .returned (.bool b) ∧ (b = true → n0 ≤ 1048576 ∧ n1 ≤ 1048576 ∧ n2 ≤ 1048576 ∧ n3 ≤ 1048576 ∧ ∀ k, k < n1 → (sti ss k).size ≤ 1048576)
theorem Ok19.no {n0 n1 n2 n3 : Nat} {ss : List ByteArray} : Ok19 n0 n1 n2 n3 ss (.returned (.bool false)) := ⟨false, rfl, fun h => by cases h⟩
theorem Ok19.yes {n0 n1 n2 n3 : Nat} {ss : List ByteArray} (h : n0 ≤ 1048576 ∧ n1 ≤ 1048576 ∧ n2 ≤ 1048576 ∧ n3 ≤ 1048576) (hs : ∀ k, k < n1 → (sti ss k).size ≤ 1048576) : Ok19 n0 n1 n2 n3 ss (.returned (.bool true)) :=
  ⟨true, rfl, fun _ => ⟨h.1, h.2.1, h.2.2.1, h.2.2.2, hs⟩⟩

set_option maxHeartbeats 1000000 in
theorem bytes19_calls (B : Nat) (w : World) (a0 a1 a2 a3 : Option Addr) (n0 n1 n2 n3 c0 c1 c2 c3 : Nat) (ss : List ByteArray) (hst : StrsIn B w a1 n1 ss) (h0 : n0 ≤ 9223372036854775807) (h1 : n1 ≤ 9223372036854775807) (h2 : n2 ≤ 9223372036854775807) (h3 : n3 ≤ 9223372036854775807) :
    Calls Try.prog 19 #[.slice a0 n0 c0, .slice a1 n1 c1, .slice a2 n2 c2, .slice a3 n3 c3] w fun e w' => Ok19 n0 n1 n2 n3 ss e ∧ w' = w := by
  have HST := hide hst
  clear hst
  by_cases hb : n0 ≤ 1048576 ∧ n1 ≤ 1048576 ∧ n0 + n1 ≤ 1048576
  · obtain ⟨hb0, hb1, hb2⟩ := hb
    go_enter Try.func19, Try.ntmps19
    go_wp2_with fail
    go_loop [9, 10] (fun z i => ∃ k m : Nat, i = .int .i64 k ∧ z = .int .i64 m ∧ k ≤ n1 ∧ m ≤ 1048576 ∧ Hid (∀ j, j < k → (sti ss j).size ≤ 1048576)) (fun _ i => n1 - (intOf i).toNat)
    case atStart => exact ⟨0, n0 + n1, rfl, by go_num, Nat.zero_le _, hb2, fun j hj => by omega⟩
    case round =>
      obtain ⟨k, m, rfl, rfl, hk, hm, hall⟩ := hrel
      by_cases hkn : k < n1
      · obtain ⟨bs, offs, has, hbs, hcells⟩ := (unhide HST).place (by omega)
        subst has
        have hcs := hcells k hkn
        have hsz := (unhide HST).size k
        clear hcells
        by_cases hs1 : (sti ss k).size ≤ 1048576
        · have HA : Hid (∀ j, j < k + 1 → (sti ss j).size ≤ 1048576) := fun j hj => by
            by_cases e : j = k
            · subst e; exact hs1
            · exact hall.out j (by omega)
          by_cases hs2 : m + (sti ss k).size ≤ 1048576
          · go_wp2_with fail
            go_round
            case rel => exact ⟨k + 1, m + (sti ss k).size, by go_num, by go_num, by omega, hs2, HA⟩
            case measure => simp [intOf]; omega
          · go_wp2_with fail
            go_ret
            exact ⟨Ok19.no, rfl⟩
        · go_wp2_with fail
          go_ret
          exact ⟨Ok19.no, rfl⟩
      · have HA : Hid (∀ j, j < n1 → (sti ss j).size ≤ 1048576) := fun j hj => hall.out j (by omega)
        clear hall
        go_wp2_with fail
        all_goals
          go_ret
          first
            | exact ⟨Ok19.no, rfl⟩
            | exact ⟨Ok19.yes (by omega) HA.out, rfl⟩
  · go_enter Try.func19, Try.ntmps19
    go_wp2_with fail
    all_goals
      go_ret
      exact ⟨Ok19.no, rfl⟩

set_option maxHeartbeats 1000000 in
theorem strsBytes_calls (B : Nat) (w : World) (a1 : Option Addr) (n1 c1 : Nat) (ss : List ByteArray) (hst : Strs B w a1 n1 ss) (h1 : n1 ≤ 1048576) :
    Calls Try.prog 15 #[.slice a1 n1 c1] w fun e w' => (∃ t : Nat, e = .returned (.int .i64 t) ∧ t ≤ 100000000) ∧ w' = w := by
  have HST := hide hst
  clear hst
  go_enter Try.func15, Try.ntmps15
  go_wp2_with fail
  go_loop [3, 4] (fun z i => ∃ k m : Nat, i = .int .i64 k ∧ z = .int .i64 m ∧ k ≤ n1 ∧ m ≤ 50000000) (fun _ i => n1 - (intOf i).toNat)
  case atStart => exact ⟨0, 16 * n1, rfl, by go_num, Nat.zero_le _, by omega⟩
  case round =>
    obtain ⟨k, m, rfl, rfl, hk, hm⟩ := hrel
    by_cases hkn : k < n1
    · obtain ⟨bs, offs, has, hbs, hcells⟩ := (unhide HST).place (by omega)
      subst has
      have hcs := hcells k hkn
      have hsz := (unhide HST).size k hkn
      clear hcells
      by_cases hs2 : m + (sti ss k).size ≤ 1048576
      · go_wp2_with fail
        go_round
        case rel => exact ⟨k + 1, m + (sti ss k).size, by go_num, by go_num, by omega, by omega⟩
        case measure => simp [intOf]; omega
      · go_wp2_with fail
        go_ret
        exact ⟨⟨m + (sti ss k).size, ret_i64 (by omega), by omega⟩, rfl⟩
    · go_wp2_with fail
      go_ret
      exact ⟨⟨m, rfl, by omega⟩, rfl⟩
end Go.Proofs.Qxb6001598a
