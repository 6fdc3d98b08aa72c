/-
  SEAT b6001736a. A []byte that came in, in the words of the walks ('Src').
-/
import Derived.Test.Qxb6001736aMem
namespace Go.Proofs.Qxb6001736a
open Go.RowKit

theorem row_src {w : World} {a : Option Addr} {len cap : Nat} {zs : List Int}
    (h : (a = none ∧ len = 0 ∧ cap = 0 ∧ zs = []) ∨ ∃ x, a = some x ∧ len ≤ cap ∧ cap ≤ maxLen ∧ zs.length = cap ∧ (∀ i, i < zs.length → w.cell? (x.add i) = some (.int .u8 (zs.getD i 0))) ∧ ∀ n ∈ zs, (Lit.int .u8 n).wf = true) :
    Src w.heap.size w a len (zs.take len) ∧ (a = none → cap = 0) ∧ len ≤ 9223372036854775807 := by
  rcases h with ⟨rfl, rfl, rfl, rfl⟩ | ⟨x, rfl, hl, hm, hz, hc, hw⟩
  · exact ⟨⟨rfl, by simp, .inl rfl⟩, fun _ => rfl, by omega⟩
  · unfold maxLen at hm
    refine ⟨⟨by rw [List.length_take]; omega, ?_, ?_⟩, (fun e => by cases e), by omega⟩
    · intro y hy
      have := bounds_u8 (hw y (List.mem_of_mem_take hy))
      omega
    · by_cases h0 : len = 0
      · exact .inl h0
      · obtain ⟨b, off, rfl, hcc⟩ := ints_at hc (by omega)
        refine .inr ⟨b, off, rfl, World.block_lt_of_cell? w _ (hcc 0 (by omega)), fun k hk => ?_⟩
        rw [hcc k (by omega)]
        simp [ati, hk]
end Go.Proofs.Qxb6001736a
