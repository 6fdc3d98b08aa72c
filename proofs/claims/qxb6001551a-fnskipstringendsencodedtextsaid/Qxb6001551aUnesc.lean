/-
  SEAT b6001551a. THE WALK of zzUnescape at the text that encodes cs; zzHexVal.
-/
import Derived.Test.Qxb6001551aEscW
namespace Go.Proofs.Qxb6001551a
open Go.RowKit

set_option maxHeartbeats 400000 in
theorem hexval_calls (v : Int) (w : World) (h0 : 0 ≤ v) (h1 : v ≤ 15) :
    Calls Try.prog 22 #[.int .u8 (hexd v)] w fun e w' => e = .returned (.int .i64 v) ∧ w' = w := by
  by_cases h : v < 10
  · rw [show hexd v = 48 + v from by unfold hexd; rw [if_pos h]]
    go_enter Try.func22, Try.ntmps22
    go_wp2
    go_ret
    exact ⟨ret_int (by omega), rfl⟩
  · rw [show hexd v = 87 + v from by unfold hexd; rw [if_neg h]]
    go_enter Try.func22, Try.ntmps22
    go_wp2
    go_ret
    exact ⟨ret_int (by omega), rfl⟩

set_option maxHeartbeats 1000000 in
set_option maxRecDepth 100000 in
theorem unescape_calls (B : Nat) (w : World) (ao : Option Addr) (n cap : Nat) (cs : List Int) (hsrc : Src B w ao n (esc cs)) (hcs : ∀ x ∈ cs, 0 ≤ x ∧ x ≤ 255) (hn : n ≤ 100000000) (hB : B ≤ w.heap.size) :
    Calls Try.prog 11 #[.slice ao n cap] w fun e w' => ∃ v', e = .returned (.tuple #[v', .bool true]) ∧ Grew B w w' (.slice none 0 0) v' cs := by
  go_enter Try.func11, Try.ntmps11
  go_wp2
  go_loopw [4, 5] (fun u i wr => ∃ k p : Nat, k ≤ cs.length ∧ i = .int .i64 p ∧ Hid (p = (esc (cs.take k)).length) ∧ Grew B w wr (.slice none 0 0) u (cs.take k)) (fun _ i _ => n - (intOf i).toNat)
  case atStart => exact ⟨0, 0, Nat.zero_le _, rfl, rfl, by simpa using Grew.refl (Own.nil B w)⟩
  case round =>
    obtain ⟨k, p, hk, rfl, hp, hg⟩ := hrel
    have hnil := Own.nil B w
    by_cases hlt : k < cs.length
    · have hbel := hg.below hnil hB
      have hle := esc_take_le hlt
      rw [← hp.out, hsrc.len] at hle
      have hl1 := esc1_length (ati cs k)
      obtain ⟨b, off, hao, hbB, hcell⟩ := (hsrc.carry hbel).place (by omega)
      subst hao
      have hby : 0 ≤ ati cs k ∧ ati cs k ≤ 255 := by rw [ati_lt hlt]; exact hcs _ (List.getElem_mem _)
      have hat : ∀ j, j < (esc1 (ati cs k)).length → wr.cell? ⟨b, off + (p + j), none⟩ = some (.int .u8 (ati (esc1 (ati cs k)) j)) := by
        intro j hj
        rw [hcell (p + j) (by omega), hp.out, ati_esc hlt hj]
      have HS : Hid (∀ (u' : Value) (w' : World), Grew B wr w' u4 u' (cs.take k ++ [ati cs k]) → Grew B w w' (.slice none 0 0) u' (cs.take (k + 1))) := by
        intro u' w' h
        rw [take_ati hlt]
        exact hg.trans h
      have HP : Hid (∀ q : Nat, q = p + (esc1 (ati cs k)).length → q = (esc (cs.take (k + 1))).length) := by
        intro q hq
        rw [esc_take hlt, List.length_append, ← hp.out]; exact hq
      have hlk : (cs.take k).length + 1 ≤ 140737488355328 := by rw [List.length_take]; have := (esc_length cs).1; have := hsrc.len; omega
      have hBr : B ≤ wr.heap.size := Nat.le_trans hB hbel.size
      clear hcell hp hnil hsrc
      by_cases c1 : ati cs k = 34 ∨ ati cs k = 92
      · have e1 : esc1 (ati cs k) = [92, ati cs k] := by unfold esc1; rw [if_pos c1]
        rw [e1] at hat hle
        have a0 : wr.cell? ⟨b, off + p, none⟩ = some (.int .u8 92) := hat 0 (by simp)
        have a1 : wr.cell? ⟨b, off + (p + 1), none⟩ = some (.int .u8 (ati cs k)) := hat 1 (by simp)
        have E1 := hide e1
        have g1 : p + 1 < n := by simp at hle; omega
        have t1 : (ati cs k == 110) = false := by simp; omega
        have t2 : (ati cs k == 116) = false := by simp; omega
        have t3 : (ati cs k == 117) = false := by simp; omega
        clear hat hle hl1 e1 c1
        go_wp2_with (at_builtin; refine wp_app_lit rfl _ _ rfl B _ (cs.take k) rfl hg.own _ _ 1 1 [ati cs k] rfl rfl rfl (by omega) hBr ?_)
        intro u' w' hg'
        have HG := HS.out _ _ hg'
        clear hg'
        go_wp2
        go_roundw
        case rel => exact ⟨k + 1, p + 2, by omega, by go_num, HP.out _ (by rw [unhide E1]; rfl), HG⟩
        case measure => simp [intOf]; omega
      · by_cases c2 : ati cs k = 10
        · have e1 : esc1 (ati cs k) = [92, 110] := esc1_n (by omega) (by omega)
          rw [e1] at hat hle
          have a0 : wr.cell? ⟨b, off + p, none⟩ = some (.int .u8 92) := hat 0 (by simp)
          have a1 : wr.cell? ⟨b, off + (p + 1), none⟩ = some (.int .u8 110) := hat 1 (by simp)
          have E1 := hide e1
          have C2 := hide c2
          have g1 : p + 1 < n := by simp at hle; omega
          clear hat hle hl1 e1 c1 c2
          go_wp2_with (at_builtin; refine wp_app_lit rfl _ _ rfl B _ (cs.take k) rfl hg.own _ _ 1 1 [10] rfl rfl rfl (by omega) hBr ?_)
          intro u' w' hg'
          rw [← unhide C2] at hg'
          have HG := HS.out _ _ hg'
          clear hg'
          go_wp2
          go_roundw
          case rel => exact ⟨k + 1, p + 2, by omega, by go_num, HP.out _ (by rw [unhide E1]; rfl), HG⟩
          case measure => simp [intOf]; omega
        · by_cases c3 : ati cs k = 9
          · have e1 : esc1 (ati cs k) = [92, 116] := esc1_t (by omega) (by omega)
            rw [e1] at hat hle
            have a0 : wr.cell? ⟨b, off + p, none⟩ = some (.int .u8 92) := hat 0 (by simp)
            have a1 : wr.cell? ⟨b, off + (p + 1), none⟩ = some (.int .u8 116) := hat 1 (by simp)
            have E1 := hide e1
            have C3 := hide c3
            have g1 : p + 1 < n := by simp at hle; omega
            clear hat hle hl1 e1 c1 c2 c3
            go_wp2_with (at_builtin; refine wp_app_lit rfl _ _ rfl B _ (cs.take k) rfl hg.own _ _ 1 1 [9] rfl rfl rfl (by omega) hBr ?_)
            intro u' w' hg'
            rw [← unhide C3] at hg'
            have HG := HS.out _ _ hg'
            clear hg'
            go_wp2
            go_roundw
            case rel => exact ⟨k + 1, p + 2, by omega, by go_num, HP.out _ (by rw [unhide E1]; rfl), HG⟩
            case measure => simp [intOf]; omega
          · by_cases c4 : ati cs k < 32
            · have e1 := esc1_u c4 c2 c3
              rw [e1] at hat hle
              have a0 : wr.cell? ⟨b, off + p, none⟩ = some (.int .u8 92) := hat 0 (by simp)
              have a1 : wr.cell? ⟨b, off + (p + 1), none⟩ = some (.int .u8 117) := hat 1 (by simp)
              have a2 : wr.cell? ⟨b, off + (p + 2), none⟩ = some (.int .u8 48) := hat 2 (by simp)
              have a3 : wr.cell? ⟨b, off + (p + 3), none⟩ = some (.int .u8 48) := hat 3 (by simp)
              have a4 : wr.cell? ⟨b, off + (p + 4), none⟩ = some (.int .u8 (hexd (ati cs k / 16))) := hat 4 (by simp)
              have a5 : wr.cell? ⟨b, off + (p + 5), none⟩ = some (.int .u8 (hexd (ati cs k % 16))) := hat 5 (by simp)
              have E1 := hide e1
              have g1 : p + 5 < n := by simp at hle; omega
              clear hat hle hl1 e1 c1 c2 c3
              go_wp2_with fail
              refine (hexval_calls _ _ (by omega) (by omega)).mono ?_
              rintro e w1 ⟨rfl, hw1⟩
              replace hw1 := hw1.symm
              subst hw1
              go_wp2_with fail
              refine (hexval_calls _ _ (by omega) (by omega)).mono ?_
              rintro e w1 ⟨rfl, hw1⟩
              replace hw1 := hw1.symm
              subst hw1
              go_wp2_with (at_builtin; refine wp_app_lit rfl _ _ rfl B _ (cs.take k) rfl hg.own _ _ 1 1 [ati cs k / 16 * 16 + ati cs k % 16] rfl rfl rfl (by omega) hBr ?_)
              intro u' w' hg'
              rw [show ati cs k / 16 * 16 + ati cs k % 16 = ati cs k from by omega] at hg'
              have HG := HS.out _ _ hg'
              clear hg'
              go_wp2
              go_roundw
              case rel => exact ⟨k + 1, p + 6, by omega, by go_num, HP.out _ (by rw [unhide E1]; rfl), HG⟩
              case measure => simp [intOf]; omega
            · have e1 : esc1 (ati cs k) = [ati cs k] := esc1_p (by omega) (by omega) (by omega)
              rw [e1] at hat hle
              have a0 : wr.cell? ⟨b, off + p, none⟩ = some (.int .u8 (ati cs k)) := hat 0 (by simp)
              have E1 := hide e1
              have g1 : p < n := by simp at hle; omega
              have t1 : (ati cs k != 92) = true := by simp; omega
              clear hat hle hl1 e1 c1 c2 c3
              go_wp2_with (at_builtin; refine wp_app_lit rfl _ _ rfl B _ (cs.take k) rfl hg.own _ _ 1 1 [ati cs k] rfl rfl rfl (by omega) hBr ?_)
              intro u' w' hg'
              have HG := HS.out _ _ hg'
              clear hg'
              go_wp2
              go_roundw
              case rel => exact ⟨k + 1, p + 1, by omega, by go_num, HP.out _ (by rw [unhide E1]; rfl), HG⟩
              case measure => simp [intOf]; omega
    · have e1 : cs.take k = cs := List.take_of_length_le (by omega)
      rw [e1] at hp hg
      have hpn : n ≤ p := by have := hp.out; rw [hsrc.len] at this; omega
      have hpn' : p ≤ n := by have := hp.out; rw [hsrc.len] at this; omega
      clear hp e1
      have HG := hide hg
      clear hg
      go_wp2
      go_ret2
      exact ⟨_, rfl, unhide HG⟩
end Go.Proofs.Qxb6001551a
