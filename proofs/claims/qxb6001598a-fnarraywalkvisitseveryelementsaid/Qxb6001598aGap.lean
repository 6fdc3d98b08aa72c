/-
  SEAT b6001598a. THE WALKS of zzSjSpace and zzSjGap: a run of white space.
-/
import Derived.Test.Qxb6001598aMem2
import Derived.Test.Qxb6001598aNext
import Derived.Deep.DeepCutAuto
namespace Go.Proofs.Qxb6001598a
open Go.RowKit

set_option maxHeartbeats 400000 in
theorem space_calls (w : World) (c : Int) (h0 : 0 ≤ c) (h1 : c ≤ 255) :
    Calls Try.prog 22 #[.int .u8 c] w fun e w' => (∃ s : Int, e = .returned (.int .u8 s) ∧ isSp s) ∧ w' = w := by
  have hq : (c % 4 == 0) = true ∨ ((c % 4 == 0) = false ∧ (c % 4 == 1) = true) ∨ ((c % 4 == 0) = false ∧ (c % 4 == 1) = false ∧ (c % 4 == 2) = true) ∨ ((c % 4 == 0) = false ∧ (c % 4 == 1) = false ∧ (c % 4 == 2) = false) := by
    by_cases c0 : c % 4 = 0
    · left; simp [c0]
    · by_cases c1 : c % 4 = 1
      · right; left; simp [c1]
      · by_cases c2 : c % 4 = 2
        · right; right; left; simp [c2]
        · right; right; right; simp [c0, c1, c2]
  rcases hq with t1 | ⟨t1, t2⟩ | ⟨t1, t2, t3⟩ | ⟨t1, t2, t3⟩
  all_goals
    go_enter Try.func22, Try.ntmps22
    go_wp2
    go_ret
    refine ⟨⟨_, rfl, ?_⟩, rfl⟩
    unfold isSp
    omega

theorem Spaces.snoc {a : List Int} {c : Int} (h : Spaces a) (hc : isSp c) : Spaces (a ++ [c]) := by
  intro x hx
  rw [List.mem_append] at hx
  rcases hx with hx | hx
  · exact h x hx
  · simp at hx; rw [hx]; exact hc

set_option maxHeartbeats 1000000 in
set_option maxRecDepth 100000 in
theorem gap_calls (B : Nat) (w : World) (v : Value) (xs ws : List Int) (ao : Option Addr) (n cap g : Nat) (hown : Own B w v xs) (hsrc : Src B w ao n ws) (hn : n ≤ 1048576) (hg : g ≤ 100000000) (hlen : xs.length ≤ 9000000000000) (hB : B ≤ w.heap.size) :
    Calls Try.prog 20 #[v, .slice ao n cap, .int .i64 g] w fun e w' => ∃ v' ys, e = .returned v' ∧ Spaces ys ∧ ys.length ≤ 7 ∧ Grew B w w' v v' (xs ++ ys) := by
  by_cases hn0 : n = 0
  · have t0 : ((n : Int) == 0) = true := by simp [hn0]
    clear hn0
    go_enter Try.func20, Try.ntmps20
    go_wp2
    go_ret
    exact ⟨_, [], rfl, fun x hx => by simp at hx, by simp, by simpa using Grew.refl hown⟩
  · have t0 : ((n : Int) == 0) = false := by simp [hn0]
    obtain ⟨ba, off, hao, hbB, hcell⟩ := hsrc.place (by omega)
    subst hao
    have hmod : g % n < n := Nat.mod_lt _ (by omega)
    have hc := hcell (g % n) hmod
    have hby := hsrc.at_byte (g % n)
    have HC := hide hcell
    have hnp : 0 < n := by omega
    clear hcell hn0
    go_enter Try.func20, Try.ntmps20
    go_wp2_with fail
    go_loopg [0, 9] 8 (fun gk u i wr => ∃ (k : Nat) (b : List Int), i = .int .i64 k ∧ (k : Int) ≤ ati ws (g % n) % 8 ∧ 8 ≤ gk + k ∧ Spaces b ∧ b.length ≤ k ∧ Grew B w wr v u (xs ++ b))
    case atStart => exact ⟨0, [], rfl, by omega, by omega, fun x hx => by simp at hx, by simp, by simpa using Grew.refl hown⟩
    case round =>
      obtain ⟨k, b, rfl, hk, hgk, hsp, hbl, hG⟩ := hrel
      have hbel := hG.below hown hB
      have hzr : B ≤ wr.heap.size := Nat.le_trans hB hbel.size
      have hO := hG.own
      have HG := hide hG
      have HS := hide hsp
      clear hG hsp hc
      by_cases hlt : (k : Int) < ati ws (g % n) % 8
      · have hmod2 : (g + k + 1) % n < n := Nat.mod_lt _ hnp
        have hc : wr.cell? ⟨ba, off + (g + k + 1) % n, none⟩ = some (.int .u8 (ati ws ((g + k + 1) % n))) := (hbel.cell (p := ⟨ba, off + (g + k + 1) % n, none⟩) hbB).trans (unhide HC _ hmod2)
        have hby2 := hsrc.at_byte ((g + k + 1) % n)
        have hi0 : 0 ≤ ((g : Int) + k + 1) % n := Int.emod_nonneg _ (by omega)
        have hi1 : ((g : Int) + k + 1) % n < n := Int.emod_lt_of_pos _ (by omega)
        go_wp2_with fail
        refine (space_calls wr _ hby2.1 hby2.2).mono ?_
        rintro e w1 ⟨⟨c, rfl, hc2⟩, hw⟩
        replace hw := hw.symm
        subst hw
        have HS2 := hide ((unhide HS).snoc hc2)
        clear hc2
        go_wp2_with (at_builtin; refine wp_app_lit rfl _ _ rfl B _ (xs ++ b) rfl hO _ _ 1 1 [c] rfl rfl rfl (by simp; omega) hzr ?_)
        intro u2 w2 g2
        have G2 := hide ((unhide HG).trans g2)
        clear g2
        go_wp2_with fail
        go_roundg (gk - 1)
        case measure => omega
        case rel => exact ⟨k + 1, b ++ [c], by go_num, by omega, by omega, unhide HS2, by simp; omega, by simpa using unhide G2⟩
      · go_wp2_with fail
        go_ret
        first | exact ⟨_, b, rfl, unhide HS, by omega, unhide HG⟩ | exact ⟨_, rfl, b, unhide HS, by omega, unhide HG⟩
end Go.Proofs.Qxb6001598a
