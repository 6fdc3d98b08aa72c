import Derived.Test.Qxb6001551aEsc
namespace Go.Proofs.Qxb6001551a
open Go.RowKit
theorem ret_int {k : IntKind} {a b : Int} (h : a = b) : Ending.returned (.int k a) = .returned (.int k b) := by rw [h]
set_option maxHeartbeats 400000 in
theorem hex_calls (v : Int) (w : World) (h0 : 0 ≤ v) (h1 : v ≤ 15) :
    Calls Try.prog 19 #[.int .u8 v] w fun e w' => e = .returned (.int .u8 (hexd v)) ∧ w' = w := by
  by_cases h : v < 10
  · have e : hexd v = 48 + v := by unfold hexd; rw [if_pos h]
    rw [e]; clear e
    go_enter Try.func19, Try.ntmps19
    go_wp2
    go_ret
    exact ⟨rfl, rfl⟩
  · have e : hexd v = 87 + v := by unfold hexd; rw [if_neg h]
    rw [e]; clear e
    go_enter Try.func19, Try.ntmps19
    go_wp2
    go_ret
    exact ⟨ret_int (by omega), rfl⟩

set_option maxHeartbeats 400000 in
theorem escape_calls (B : Nat) (w : World) (v : Value) (xs cs : List Int) (ao : Option Addr) (n cap : Nat) (hown : Own B w v xs) (hsrc : Src B w ao n cs) (hlen : xs.length + 6 * n ≤ 100000000) (hB : B ≤ w.heap.size) :
    Calls Try.prog 8 #[v, .slice ao n cap] w fun e w' => ∃ v', e = .returned v' ∧ Grew B w w' v v' (xs ++ esc cs) := by
  go_enter Try.func8, Try.ntmps8
  go_wp2
  go_loopw [0, 5] (fun u i wr => ∃ k : Nat, k ≤ n ∧ i = .int .i64 k ∧ Grew B w wr v u (xs ++ esc (cs.take k))) (fun _ i _ => n - (intOf i).toNat)
  case atStart => exact ⟨0, Nat.zero_le _, rfl, by simpa [esc] using Grew.refl hown⟩
  case round =>
    obtain ⟨k, hk, rfl, hg⟩ := hrel
    by_cases hlt : k < n
    · have hbel := hg.below hown hB
      obtain ⟨b, off, hao, hbB, hcell⟩ := (hsrc.carry hbel).place (by omega)
      subst hao
      have hc := hcell k hlt
      have hby := hsrc.at_byte k
      have HS : Hid (esc (cs.take (k + 1)) = esc (cs.take k) ++ esc1 (ati cs k)) := esc_take (by rw [hsrc.len]; exact hlt)
      have hlk : (xs ++ esc (cs.take k)).length + 6 ≤ 140737488355328 := by
        have := (esc_length (cs.take k)).2
        rw [List.length_take] at this
        rw [List.length_append]; omega
      have hBr : B ≤ wr.heap.size := Nat.le_trans hB hbel.size
      clear hcell
      have step : ∀ (u' : Value) (w' : World) (news : List Int), esc1 (ati cs k) = news → Grew B wr w' u0 u' (xs ++ (esc (cs.take k) ++ news)) → Grew B w w' v u' (xs ++ esc (cs.take (k + 1))) := by
        intro u' w' news he h
        rw [HS.out, he]
        exact hg.trans h
      have STEP : Hid (∀ (u' : Value) (w' : World) (news : List Int), esc1 (ati cs k) = news → Grew B wr w' u0 u' (xs ++ (esc (cs.take k) ++ news)) → Grew B w w' v u' (xs ++ esc (cs.take (k + 1)))) := step
      clear step HS
      by_cases c1 : ati cs k = 34
      · have HE : Hid (esc1 (ati cs k) = [92, ati cs k]) := esc1_q (by omega) (by omega)
        have t1 : (ati cs k == 34) = true := by simp [c1]
        clear c1
        go_wp2_with (at_builtin; refine wp_app_lit rfl _ _ rfl B _ (xs ++ esc (cs.take k)) rfl hg.own _ _ 2 2 [92, ati cs k] rfl rfl rfl (by omega) hBr ?_)
        intro u' w' hg'
        go_wp2
        go_roundw
        case rel => exact ⟨k + 1, by omega, by go_num, STEP.out _ _ _ HE.out hg'⟩
        case measure => simp [intOf]; omega
      · have t1 : (ati cs k == 34) = false := by simp [c1]
        by_cases c2 : ati cs k = 92
        · have HE : Hid (esc1 (ati cs k) = [92, ati cs k]) := esc1_b (by omega) (by omega)
          have t2 : (ati cs k == 92) = true := by simp [c2]
          clear c1 c2
          go_wp2_with (at_builtin; refine wp_app_lit rfl _ _ rfl B _ (xs ++ esc (cs.take k)) rfl hg.own _ _ 2 2 [92, ati cs k] rfl rfl rfl (by omega) hBr ?_)
          intro u' w' hg'
          go_wp2
          go_roundw
          case rel => exact ⟨k + 1, by omega, by go_num, STEP.out _ _ _ HE.out hg'⟩
          case measure => simp [intOf]; omega
        · have t2 : (ati cs k == 92) = false := by simp [c2]
          by_cases c3 : ati cs k = 10
          · have HE : Hid (esc1 (ati cs k) = [92, 110]) := esc1_n (by omega) (by omega)
            have t3 : (ati cs k == 10) = true := by simp [c3]
            clear c1 c2 c3
            go_wp2_with (at_builtin; refine wp_app_lit rfl _ _ rfl B _ (xs ++ esc (cs.take k)) rfl hg.own _ _ 2 2 [92, 110] rfl rfl rfl (by omega) hBr ?_)
            intro u' w' hg'
            go_wp2
            go_roundw
            case rel => exact ⟨k + 1, by omega, by go_num, STEP.out _ _ _ HE.out hg'⟩
            case measure => simp [intOf]; omega
          · have t3 : (ati cs k == 10) = false := by simp [c3]
            by_cases c4 : ati cs k = 9
            · have HE : Hid (esc1 (ati cs k) = [92, 116]) := esc1_t (by omega) (by omega)
              have t4 : (ati cs k == 9) = true := by simp [c4]
              clear c1 c2 c3 c4
              go_wp2_with (at_builtin; refine wp_app_lit rfl _ _ rfl B _ (xs ++ esc (cs.take k)) rfl hg.own _ _ 2 2 [92, 116] rfl rfl rfl (by omega) hBr ?_)
              intro u' w' hg'
              go_wp2
              go_roundw
              case rel => exact ⟨k + 1, by omega, by go_num, STEP.out _ _ _ HE.out hg'⟩
              case measure => simp [intOf]; omega
            · have t4 : (ati cs k == 9) = false := by simp [c4]
              by_cases c5 : ati cs k < 32
              · have HE : Hid (esc1 (ati cs k) = [92, 117, 48, 48, hexd (ati cs k / 16), hexd (ati cs k % 16)]) := esc1_u c5 c3 c4
                clear c1 c2 c3 c4
                go_wp2_with fail
                refine (hex_calls _ _ (by omega) (by omega)).mono ?_
                rintro e w1 ⟨rfl, rfl⟩
                go_wp2_with fail
                refine (hex_calls _ _ (by omega) (by omega)).mono ?_
                rintro e w2 ⟨rfl, rfl⟩
                go_wp2_with (at_builtin; refine wp_app_lit rfl _ _ rfl B _ (xs ++ esc (cs.take k)) rfl hg.own _ _ 6 6 [92, 117, 48, 48, hexd (ati cs k / 16), hexd (ati cs k % 16)] rfl rfl rfl (by omega) hBr ?_)
                intro u' w' hg'
                go_wp2
                go_roundw
                case rel => exact ⟨k + 1, by omega, by go_num, STEP.out _ _ _ HE.out hg'⟩
                case measure => simp [intOf]; omega
              · have HE : Hid (esc1 (ati cs k) = [ati cs k]) := esc1_p (by omega) c1 c2
                clear c1 c2 c3 c4
                go_wp2_with (at_builtin; refine wp_app_lit rfl _ _ rfl B _ (xs ++ esc (cs.take k)) rfl hg.own _ _ 1 1 [ati cs k] rfl rfl rfl (by omega) hBr ?_)
                intro u' w' hg'
                go_wp2
                go_roundw
                case rel => exact ⟨k + 1, by omega, by go_num, STEP.out _ _ _ HE.out hg'⟩
                case measure => simp [intOf]; omega
    · go_wp2
      go_ret
      refine ⟨_, rfl, ?_⟩
      have : cs.take k = cs := List.take_of_length_le (by rw [hsrc.len]; omega)
      rw [this] at hg
      exact hg
end Go.Proofs.Qxb6001551a
