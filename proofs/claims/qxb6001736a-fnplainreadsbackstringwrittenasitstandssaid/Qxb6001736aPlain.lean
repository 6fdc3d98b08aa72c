/-
  SEAT b6001736a. THE WALK of (token).plain and of ZZPlain: what stands between the quotes, or a refusal.
-/
import Derived.Test.Qxb6001736aNext
namespace Go.Proofs.Qxb6001736a
open Go.RowKit

/-- A byte that plain refuses. -/
def odd (c : Int) : Bool := c == 92 || decide (128 ≤ c)

theorem any_at {zs : List Int} {k : Nat} (h : k < zs.length) (ho : odd (ati zs k) = true) : zs.any odd = true := by
  rw [ati_lt h] at ho
  exact List.any_eq_true.2 ⟨_, List.getElem_mem h, ho⟩
theorem any_step {zs : List Int} {k : Nat} (h : k < zs.length) (h0 : (zs.take k).any odd = false) (ho : odd (ati zs k) = false) : (zs.take (k + 1)).any odd = false := by
  rw [take_ati h, List.any_append, h0]
  simp [ho]
theorem any_all {zs : List Int} {k : Nat} (h : ¬ k < zs.length) (h0 : (zs.take k).any odd = false) : zs.any odd = false := by
  rw [List.take_of_length_le (by omega)] at h0
  exact h0

/-- What plain hands back. -/
def plainOf (zs : List Int) (g c : Nat) : Value := .tuple #[if zs.any odd then .slice none 0 0 else .slice (some ⟨g, 1, none⟩) zs.length (c - 1), .bool (!zs.any odd)]
theorem plainOf_odd {zs : List Int} {g c : Nat} (h : zs.any odd = true) : plainOf zs g c = .tuple #[.slice none 0 0, .bool false] := by unfold plainOf; rw [h]; rfl
theorem plainOf_even {zs : List Int} {g c : Nat} (h : zs.any odd = false) : plainOf zs g c = .tuple #[.slice (some ⟨g, 1, none⟩) zs.length (c - 1), .bool true] := by unfold plainOf; rw [h]; rfl

set_option maxHeartbeats 2000000 in
set_option maxRecDepth 100000 in
theorem plain_calls (w : World) (g n c : Nat) (zs : List Int) (hn : zs.length + 2 = n) (hn1 : n ≤ 1000000000) (hc : n ≤ c)
    (htx : ∀ j, j < zs.length → w.cell? ⟨g, 1 + j, none⟩ = some (.int .u8 (ati zs j))) (hgw : g < w.heap.size) :
    Calls Try.prog 28 #[.agg #[.int .u8 34, .slice (some ⟨g, 0, none⟩) n c]] w fun e w' =>
      e = .returned (plainOf zs g c) ∧ Below w.heap.size w w' := by
  have HX := hide htx
  have HB := hide ((Below.refl w.heap.size w).alloc (Nat.le_refl _) (Obj.cells #[Value.int IntKind.u8 34, Value.slice (some { block := g, off := 0 }) n c] 53))
  clear htx
  have e1 : (n : Int) - 1 = (zs.length : Int) + 1 := by omega
  go_enter Try.func28, Try.ntmps28
  go_wp2_with fail
  go_loopg [19] zs.length (fun gk i wr => ∃ k : Nat, i = .int .i64 k ∧ k ≤ zs.length ∧ zs.length ≤ gk + k ∧ Hid ((zs.take k).any odd = false) ∧ w.alloc (Obj.cells #[Value.int IntKind.u8 34, Value.slice (some { block := g, off := 0 }) n c] 53) = wr)
  case atStart => exact ⟨0, rfl, by omega, by omega, hide (by simp), rfl⟩
  case round =>
    obtain ⟨k, rfl, hk, hgk, hcl, rfl⟩ := hrel
    by_cases hlt : k < zs.length
    · have x0 : w.cell? ⟨g, 1 + k, none⟩ = some (.int .u8 (ati zs k)) := unhide HX k hlt
      have hki : (k : Int) < (zs.length : Int) := by omega
      have HA := hide (any_at hlt)
      have HS := hide (any_step hlt (unhide hcl))
      obtain ⟨x, hx⟩ : ∃ x, ati zs k = x := ⟨_, rfl⟩
      rw [hx] at x0 HA HS
      clear hx
      cases h1 : (x == 92)
      · cases h2 : decide (128 ≤ x)
        · have h3 : decide (x ≥ 128) = false := h2
          have ho : odd x = false := by unfold odd; rw [h1, h2]; rfl
          have P := hide (unhide HS ho)
          clear ho HA HS
          go_wp2_with fail
          go_roundg (gk - 1)
          · exact ⟨k + 1, by go_num, by omega, by omega, P, rfl⟩
          · omega
        · have h3 : decide (x ≥ 128) = true := h2
          have ho : odd x = true := by unfold odd; rw [h1, h2]; rfl
          have P := hide (plainOf_odd (g := g) (c := c) (unhide HA ho))
          clear ho HA HS
          go_wp2_with fail
          go_ret2
          exact ⟨congrArg Ending.returned (unhide P).symm, unhide HB⟩
      · have ho : odd x = true := by unfold odd; rw [h1]; rfl
        have P := hide (plainOf_odd (g := g) (c := c) (unhide HA ho))
        clear ho HA HS
        go_wp2_with fail
        go_ret2
        exact ⟨congrArg Ending.returned (unhide P).symm, unhide HB⟩
    · have P := hide (plainOf_even (g := g) (c := c) (any_all hlt (unhide hcl)))
      go_wp2_with fail
      go_ret2
      exact ⟨congrArg Ending.returned (unhide P).symm, unhide HB⟩

set_option maxHeartbeats 2000000 in
theorem zzplain_calls (w : World) (g n c : Nat) (zs : List Int) (hn : zs.length + 2 = n) (hn1 : n ≤ 1000000000) (hc : n ≤ c)
    (htx : ∀ j, j < zs.length → w.cell? ⟨g, 1 + j, none⟩ = some (.int .u8 (ati zs j))) (hgw : g < w.heap.size) :
    Calls Try.prog 20 #[.int .u8 34, .slice (some ⟨g, 0, none⟩) n c] w fun e w' => e = .returned (plainOf zs g c) ∧ Below w.heap.size w w' := by
  have H := hide (plain_calls w g n c zs hn hn1 hc htx hgw)
  cases ho : zs.any odd
  · rw [plainOf_even ho] at H ⊢
    clear htx hn ho
    go_enter Try.func20, Try.ntmps20
    go_wp2_with fail
    refine (unhide H).mono ?_
    rintro e w' ⟨rfl, hb⟩
    have HB := hide hb
    clear hb
    go_wp2_with fail
    go_ret2
    exact ⟨rfl, unhide HB⟩
  · rw [plainOf_odd ho] at H ⊢
    clear htx hn ho
    go_enter Try.func20, Try.ntmps20
    go_wp2_with fail
    refine (unhide H).mono ?_
    rintro e w' ⟨rfl, hb⟩
    have HB := hide hb
    clear hb
    go_wp2_with fail
    go_ret2
    exact ⟨rfl, unhide HB⟩
end Go.Proofs.Qxb6001736a
