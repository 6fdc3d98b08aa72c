/-
  SEAT b6001551a. THE WALKS of the small writers: zzOpen, zzClose, zzAppendKey, zzEmitString, zzEmitNumber, zzEmitScalar.
-/
import Derived.Test.Qxb6001551aMem2
import Derived.Test.Qxb6001551aVal
import Derived.Deep.DeepCutAuto
namespace Go.Proofs.Qxb6001551a
open Go.RowKit

set_option maxHeartbeats 400000 in
theorem open_calls (B : Nat) (w : World) (v : Value) (xs : List Int) (k : Int) (hown : Own B w v xs) (hlen : xs.length ≤ 100000000) (hB : B ≤ w.heap.size) :
    Calls Try.prog 24 #[v, .int .u8 k] w fun e w' => ∃ v' c, e = .returned v' ∧ (c = 123 ∨ c = 91) ∧ Grew B w w' v v' (xs ++ [c]) := by
  by_cases hk : k = 0
  · have t : (k == 0) = true := by simp [hk]
    clear hk
    go_enter Try.func24, Try.ntmps24
    go_wp2_with (at_builtin; refine wp_app_lit rfl _ _ rfl B _ xs rfl hown _ _ 1 1 [91] rfl rfl rfl (by omega) hB ?_)
    intro u' w' hg
    go_wp2
    go_ret
    exact ⟨_, 91, rfl, .inr rfl, hg⟩
  · have t : (k == 0) = false := by simp [hk]
    clear hk
    go_enter Try.func24, Try.ntmps24
    go_wp2_with (at_builtin; refine wp_app_lit rfl _ _ rfl B _ xs rfl hown _ _ 1 1 [123] rfl rfl rfl (by omega) hB ?_)
    intro u' w' hg
    go_wp2
    go_ret
    exact ⟨_, 123, rfl, .inl rfl, hg⟩

set_option maxHeartbeats 400000 in
theorem close_calls (B : Nat) (w : World) (v : Value) (xs : List Int) (k : Int) (hown : Own B w v xs) (hlen : xs.length ≤ 100000000) (hB : B ≤ w.heap.size) :
    Calls Try.prog 25 #[v, .int .u8 k] w fun e w' => ∃ v' c, e = .returned v' ∧ (c = 125 ∨ c = 93) ∧ Grew B w w' v v' (xs ++ [c]) := by
  by_cases hk : k = 0
  · have t : (k == 0) = true := by simp [hk]
    clear hk
    go_enter Try.func25, Try.ntmps25
    go_wp2_with (at_builtin; refine wp_app_lit rfl _ _ rfl B _ xs rfl hown _ _ 1 1 [93] rfl rfl rfl (by omega) hB ?_)
    intro u' w' hg
    go_wp2
    go_ret
    exact ⟨_, 93, rfl, .inr rfl, hg⟩
  · have t : (k == 0) = false := by simp [hk]
    clear hk
    go_enter Try.func25, Try.ntmps25
    go_wp2_with (at_builtin; refine wp_app_lit rfl _ _ rfl B _ xs rfl hown _ _ 1 1 [125] rfl rfl rfl (by omega) hB ?_)
    intro u' w' hg
    go_wp2
    go_ret
    exact ⟨_, 125, rfl, .inl rfl, hg⟩

set_option maxHeartbeats 400000 in
theorem key_calls (B : Nat) (w : World) (v : Value) (xs : List Int) (hown : Own B w v xs) (hlen : xs.length ≤ 100000000) (hB : B ≤ w.heap.size) :
    Calls Try.prog 26 #[v] w fun e w' => ∃ v', e = .returned v' ∧ Grew B w w' v v' (xs ++ [34, 107, 92, 34, 125, 34, 58, 32]) := by
  go_enter Try.func26, Try.ntmps26
  go_wp2_with (at_builtin; refine wp_app_lit rfl _ _ rfl B _ xs rfl hown _ _ 8 8 [34, 107, 92, 34, 125, 34, 58, 32] rfl rfl rfl (by omega) hB ?_)
  intro u' w' hg
  go_wp2
  go_ret
  exact ⟨_, rfl, hg⟩

set_option maxHeartbeats 400000 in
theorem emitS_calls (B : Nat) (w : World) (v : Value) (xs : List Int) (c : Int) (h0 : 0 ≤ c) (h1 : c ≤ 255) (hown : Own B w v xs) (hlen : xs.length ≤ 100000000) (hB : B ≤ w.heap.size) :
    Calls Try.prog 29 #[v, .int .u8 c] w fun e w' => ∃ v' ys, e = .returned v' ∧ Str ys ∧ ys.length ≤ 8 ∧ Grew B w w' v v' (xs ++ ys) := by
  by_cases c1 : c = 34 ∨ c = 92
  · have hs := str_pair h0 h1
    have HS := hide hs
    have t1 : (c == 34 || c == 92) = true := by simpa using c1
    clear hs
    have t : (c == 34) = true ∨ ((c == 34) = false ∧ (c == 92) = true) := by rcases c1 with h | h <;> simp [h]
    clear c1 t1
    rcases t with t | ⟨t, t'⟩
    all_goals
      go_enter Try.func29, Try.ntmps29
      go_wp2_with (at_builtin; refine wp_app_lit rfl _ _ rfl B _ xs rfl hown _ _ 1 1 [34] rfl rfl rfl (by omega) hB ?_)
      intro u1 w1 g1
      have hB1 : B ≤ w1.heap.size := Nat.le_trans hB g1.grown.size
      go_wp2_with (at_builtin; refine wp_app_lit rfl _ _ rfl B _ (xs ++ [34]) rfl g1.own _ _ 2 2 [92, c] rfl rfl rfl (by simp; omega) hB1 ?_)
      intro u2 w2 g2
      have hB2 : B ≤ w2.heap.size := Nat.le_trans hB1 g2.grown.size
      have g12 := g1.trans g2
      clear g1 g2
      go_wp2_with (at_builtin; refine wp_app_lit rfl _ _ rfl B _ _ rfl g12.own _ _ 5 5 [92, 92, 92, 34, 34] rfl rfl rfl (by simp; omega) hB2 ?_)
      intro u3 w3 g3
      have g13 := g12.trans g3
      clear g12 g3
      go_wp2
      go_ret
      exact ⟨_, _, rfl, unhide HS, by simp, by simpa using g13⟩
  · have t : (c == 34) = false := by simp; omega
    have t' : (c == 92) = false := by simp; omega
    by_cases c2 : c < 32 ∨ 127 ≤ c
    · have HS := hide (str_one (c := 120) (by decide) (by decide) (by decide) (by decide))
      clear c1
      rcases c2 with c2 | c2
      all_goals
        go_enter Try.func29, Try.ntmps29
        go_wp2_with (at_builtin; refine wp_app_lit rfl _ _ rfl B _ xs rfl hown _ _ 1 1 [34] rfl rfl rfl (by omega) hB ?_)
        intro u1 w1 g1
        have hB1 : B ≤ w1.heap.size := Nat.le_trans hB g1.grown.size
        go_wp2_with (at_builtin; refine wp_app_lit rfl _ _ rfl B _ (xs ++ [34]) rfl g1.own _ _ 1 1 [120] rfl rfl rfl (by simp; omega) hB1 ?_)
        intro u2 w2 g2
        have hB2 : B ≤ w2.heap.size := Nat.le_trans hB1 g2.grown.size
        have g12 := g1.trans g2
        clear g1 g2
        go_wp2_with (at_builtin; refine wp_app_lit rfl _ _ rfl B _ _ rfl g12.own _ _ 5 5 [92, 92, 92, 34, 34] rfl rfl rfl (by simp; omega) hB2 ?_)
        intro u3 w3 g3
        have g13 := g12.trans g3
        clear g12 g3
        go_wp2
        go_ret
        exact ⟨_, _, rfl, unhide HS, by simp, by simpa using g13⟩
    · have HS := hide (str_one h0 h1 (by omega) (by omega))
      clear c1
      go_enter Try.func29, Try.ntmps29
      go_wp2_with (at_builtin; refine wp_app_lit rfl _ _ rfl B _ xs rfl hown _ _ 1 1 [34] rfl rfl rfl (by omega) hB ?_)
      intro u1 w1 g1
      have hB1 : B ≤ w1.heap.size := Nat.le_trans hB g1.grown.size
      go_wp2_with (at_builtin; refine wp_app_lit rfl _ _ rfl B _ (xs ++ [34]) rfl g1.own _ _ 1 1 [c] rfl rfl rfl (by simp; omega) hB1 ?_)
      intro u2 w2 g2
      have hB2 : B ≤ w2.heap.size := Nat.le_trans hB1 g2.grown.size
      have g12 := g1.trans g2
      clear g1 g2
      go_wp2_with (at_builtin; refine wp_app_lit rfl _ _ rfl B _ _ rfl g12.own _ _ 5 5 [92, 92, 92, 34, 34] rfl rfl rfl (by simp; omega) hB2 ?_)
      intro u3 w3 g3
      have g13 := g12.trans g3
      clear g12 g3
      go_wp2
      go_ret
      exact ⟨_, _, rfl, unhide HS, by simp, by simpa using g13⟩
end Go.Proofs.Qxb6001551a
