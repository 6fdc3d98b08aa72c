import Derived.Test.Qxb6001598aMem
import Derived.Lib.Bytealg
import Derived.Lib.Walk
namespace Go.Proofs.Qxb6001598a
open Go.RowKit

set_option maxHeartbeats 1000000 in
set_option maxRecDepth 100000 in
theorem ib31_calls (s : ByteArray) (c : Int) (w : World) :
    Calls Try.prog 31 #[.string s, .int .u8 c] w fun e w' => e = .returned (.int .i64 (Lib.indexByte s.data.toList c.toNat.toUInt8)) ∧ w' = w := by
  go_enter Try.func31, Try.ntmps31
  go_wp2
  rw [run_callFunc_extern Try.func32 (by kernel_rfl) (by kernel_rfl) (by kernel_rfl) (e := Extern.BytealgIndexByte.indexByte) (by kernel_rfl), Lib.run_indexByteString]
  simp only [Result.andThen]
  rw [Oper.upon_value]
  go_wp2
  go_ret
  exact ⟨rfl, rfl⟩

set_option maxHeartbeats 400000 in
theorem ib30_calls (s : ByteArray) (c : Int) (w : World) :
    Calls Try.prog 30 #[.string s, .int .u8 c] w fun e w' => e = .returned (.int .i64 (Lib.indexByte s.data.toList c.toNat.toUInt8)) ∧ w' = w := by
  go_enter Try.func30, Try.ntmps30
  go_wp2_with fail
  refine (ib31_calls s c w).mono ?_
  rintro e w1 ⟨rfl, rfl⟩
  go_wp2
  go_ret
  exact ⟨rfl, rfl⟩

/-- The seven signs that end a bare scalar. -/
def isDelim (c : Int) : Prop := c = 44 ∨ c = 125 ∨ c = 93 ∨ c = 32 ∨ c = 9 ∨ c = 10 ∨ c = 13

theorem delim_no {c : Int} (h0 : 0 ≤ c) (h1 : c ≤ 255) (h : ¬ isDelim c) : Lib.indexByte [44, 93, 125, 32, 9, 10, 13] c.toNat.toUInt8 = -1 := by
  have key : ∀ m : Nat, m < 256 → (m ≠ 44 ∧ m ≠ 125 ∧ m ≠ 93 ∧ m ≠ 32 ∧ m ≠ 9 ∧ m ≠ 10 ∧ m ≠ 13) → Lib.indexByte [44, 93, 125, 32, 9, 10, 13] m.toUInt8 = -1 := by decide +kernel
  unfold isDelim at h
  exact key c.toNat (by omega) (by omega)
theorem delim_yes {c : Int} (h : isDelim c) : 0 ≤ Lib.indexByte [44, 93, 125, 32, 9, 10, 13] c.toNat.toUInt8 := by
  unfold isDelim at h
  rcases h with rfl | rfl | rfl | rfl | rfl | rfl | rfl <;> decide

theorem delim_no_calls (w : World) (c : Int) (h0 : 0 ≤ c) (h1 : c ≤ 255) (h : ¬ isDelim c) :
    Calls Try.prog 30 #[.string ⟨#[44, 93, 125, 32, 9, 10, 13]⟩, .int .u8 c] w fun e w' => e = .returned (.int .i64 (-1)) ∧ w' = w := by
  have := ib30_calls ⟨#[44, 93, 125, 32, 9, 10, 13]⟩ c w
  rw [show Lib.indexByte (ByteArray.mk #[44, 93, 125, 32, 9, 10, 13]).data.toList c.toNat.toUInt8 = -1 from delim_no h0 h1 h] at this
  exact this
theorem delim_yes_calls (w : World) (c : Int) (h : isDelim c) :
    Calls Try.prog 30 #[.string ⟨#[44, 93, 125, 32, 9, 10, 13]⟩, .int .u8 c] w fun e w' => ∃ r : Nat, e = .returned (.int .i64 r) ∧ w' = w := by
  refine (ib30_calls ⟨#[44, 93, 125, 32, 9, 10, 13]⟩ c w).mono ?_
  rintro e w1 ⟨rfl, rfl⟩
  obtain ⟨r, hr⟩ := Int.eq_ofNat_of_zero_le (delim_yes h)
  exact ⟨r, by rw [show Lib.indexByte (ByteArray.mk #[44, 93, 125, 32, 9, 10, 13]).data.toList c.toNat.toUInt8 = (r : Int) from hr], rfl⟩
end Go.Proofs.Qxb6001598a
