/-
  SEAT b6001736a. THE WALK of ZZNext: the tokens struct is laid, next reads, the three answers are handed back.
-/
import Derived.Test.Qxb6001736aNext
namespace Go.Proofs.Qxb6001736a
open Go.RowKit

set_option maxHeartbeats 2000000 in
set_option maxRecDepth 100000 in
theorem zznext_calls (w : World) (g n c : Nat) (ys : List Int) (hn : (txt ys).length = n) (hn1 : n ≤ 1000000000) (hc : n ≤ c)
    (htx : ∀ j, j < n → w.cell? ⟨g, j, none⟩ = some (.int .u8 (ati (txt ys) j))) :
    Calls Try.prog 13 #[.slice (some ⟨g, 0, none⟩) n c, .int .i64 0] w fun e w' => e = .returned (.tuple #[.int .u8 34, .slice (some ⟨g, 0, none⟩) n c, .int .i64 n]) ∧ Below w.heap.size w w' := by
  have hg : g < w.heap.size := World.block_lt_of_cell? _ _ (htx 0 (by rw [← hn, txt_len]; omega))
  have HN := hide (next_calls (w.alloc (.cells #[.slice (some ⟨g, 0, none⟩) n c, .int .i64 0] 51)) w.heap.size g n c ys hn hn1 hc
    (by rw [World.cell?_alloc_at _ _ _ _ rfl]; rfl) (by rw [World.cell?_alloc_at _ _ _ _ rfl]; rfl) (by rw [World.frozen?_alloc_at _ _ _ _ rfl])
    (fun j hj => by rw [World.cell?_alloc_past _ _ _ hg]; exact htx j hj) hg)
  clear htx hn
  go_enter Try.func13, Try.ntmps13
  go_wp2_with fail
  refine (unhide HN).mono ?_
  rintro e w' ⟨rfl, hp, hb⟩
  have hsz : w.heap.size < w'.heap.size := by have := hb.size; simp at this; omega
  have HB := hide (((Below.refl w.heap.size w).alloc (Nat.le_refl _) _).trans hb)
  clear HN hb
  go_wp2_with fail
  go_quiet (fail)
  go_wp2_with fail
  go_ret3
  have b := (unhide HB).alloc (by omega) (Obj.cells #[Value.int IntKind.u8 34, Value.slice (some { block := g, off := 0 }) n c] 53)
  exact ⟨rfl, ⟨b.os, b.tape, b.output, b.size, b.block⟩⟩
end Go.Proofs.Qxb6001736a
