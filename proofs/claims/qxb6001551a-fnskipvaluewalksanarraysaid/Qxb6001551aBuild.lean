/-
  SEAT b6001551a. THE WALK of zzBuild where the root is a container.
-/
import Derived.Test.Qxb6001551aBld
import Derived.Deep.CutBlock
namespace Go.Proofs.Qxb6001551a
open Go.RowKit

theorem Own.at {B : Nat} {w : World} {g n cap k : Nat} {xs : List Int} (h : Own B w (.slice (some ⟨g, 0, none⟩) n cap) xs) (hn : xs.length = n) (hk : k < n) : w.cell? ⟨g, k, none⟩ = some (.int .u8 (ati xs k)) := by
  obtain ⟨g', cap', e, _, _, _, _, hc⟩ := h.solid (by omega)
  simp only [Value.slice.injEq, Option.some.injEq, Addr.mk.injEq] at e
  rw [e.1.1]; exact hc k (by omega)
theorem OwnI.at {B : Nat} {w : World} {g n cap k : Nat} {xs : List Int} (h : OwnI B w (.slice (some ⟨g, 0, none⟩) n cap) xs) (hn : xs.length = n) (hk : k < n) : w.cell? ⟨g, k, none⟩ = some (.int .i64 (ati xs k)) := by
  obtain ⟨g', cap', e, _, _, _, _, hc⟩ := h.solid (by omega)
  simp only [Value.slice.injEq, Option.some.injEq, Addr.mk.injEq] at e
  rw [e.1.1]; exact hc k (by omega)

theorem comma_in (d : Nat) : fold (0, d) [44, 32] = (0, d) := by
  rw [fold_cons, step_other (by decide) (by decide) (by decide) (by decide) (by decide), fold_cons, step_other (by decide) (by decide) (by decide) (by decide) (by decide)]; rfl
theorem key_in (d : Nat) : fold (0, d) [34, 107, 92, 34, 125, 34, 58, 32] = (0, d) := rfl
theorem comma_bytes : Bytes [44, 32] := fun x hx => by simp at hx; omega

set_option maxHeartbeats 4000000 in
set_option maxRecDepth 100000 in
theorem build_box (w : World) (b off n cap : Nat) (prog : List Int) (hb : b < w.heap.size) (hcell : ∀ k, k < n → w.cell? ⟨b, off + k, none⟩ = some (.int .u8 (ati prog k))) (hby : ∀ k, 0 ≤ ati prog k ∧ ati prog k ≤ 255)
    (hn : n ≤ 20000) (h0 : 0 < n) (hf : ati prog 0 % 8 < 2) :
    Calls Try.prog 14 #[.slice (some ⟨b, off, none⟩) n cap] w fun e w' => ∃ v' q ys, e = .returned (.tuple #[v', .int .i64 q]) ∧ IsVal ys ∧ ys.length ≤ 50 * n + 50 ∧ Own w.heap.size w' v' ys ∧ Below w.heap.size w w' := by
  have HC := hide hcell
  have HY := hide hby
  have hc0 : w.cell? ⟨b, off, none⟩ = some (.int .u8 (ati prog 0)) := by have := hcell 0 h0; rwa [Nat.add_zero] at this
  have hb0 := hby 0
  have t1 : ((n : Int) == 0) = false := by simp; omega
  have t2 : (ati prog 0 % 8 == 2) = false := by simp; omega
  clear hcell hby
  go_enter Try.func14, Try.ntmps14
  go_wp2_with fail
  refine (open_calls w.heap.size w _ [] _ (Own.nil _ _) (by simp) (Nat.le_refl _)).mono ?_
  rintro e w1 ⟨v1, c1, rfl, hc1, G1⟩
  rw [List.nil_append] at G1
  have S1 := (St.nil w).out_grew G1
  have hz1 := S1.siz
  have HC1 := hide hc1
  clear hc1 G1
  go_wp2_with (at_builtin; refine wp_app_lit rfl _ _ rfl w.heap.size _ [] rfl (Own.nil _ _) _ _ 1 1 [ati prog 0 % 8] rfl rfl rfl (by simp) hz1 ?_)
  intro v2 w2 G2
  have S2 := S1.stk_grew G2
  have hz2 := S2.siz
  clear G2 S1
  go_wp2_with (at_builtin; refine wp_appI_lit rfl _ _ rfl w.heap.size _ [] rfl S2.cnt 0 _ 1 rfl (by simp) hz2 ?_)
  intro v3 w3 G3
  have S3 := S2.cnt_grew G3
  clear G3 S2
  have R0 := hide (Bld.start S3 (unhide HC1) (by omega))
  clear S3 HC1 hc0 hz1 hz2
  go_upto_block 0 with fail
  go_cut [4, 6] (fun u v wc => ∃ ys ss, Fin2 w wc u v (50 * n) ys ss)
  case first =>
    clear t1 t2 hb0 hf
    go_wp2_with fail
    go_loopg [4, 6, 7, 8] n (fun gk u v c i wr => ∃ k ys ss cc, i = .int .i64 (k : Nat) ∧ 1 ≤ k ∧ k ≤ n ∧ n ≤ gk + k ∧ Bld w wr u v c k 0 ys ss cc)
    case atStart => exact ⟨1, _, _, _, rfl, Nat.le_refl _, h0, by omega, unhide R0⟩
    case round =>
      obtain ⟨k, ys, ss, cc, rfl, hk1, hk2, hgk, hB⟩ := hrel
      clear R0
      by_cases hkn : k < n
      · by_cases hss : 0 < ss.length
        · obtain ⟨t, ht⟩ : ∃ t, ss.length = t + 1 := ⟨ss.length - 1, by omega⟩
          obtain ⟨g6, cap6, e6, hg6, hg6', hcap6, hmx6, hcell6⟩ := hB.st.stk.solid hss
          obtain ⟨g7, cap7, e7, hg7, hg7', hcap7, hmx7, hcell7⟩ := hB.st.cnt.solid (by rw [hB.same]; exact hss)
          rw [ht] at e6 hcap6
          rw [hB.same, ht] at e7 hcap7
          subst e6 e7
          unfold maxLen at hmx6 hmx7
          have d6 := hcell6 t (by omega)
          have d7 := hcell7 t (by rw [hB.same]; omega)
          have f7 := hB.st.cnt.free (by rw [hB.same]; exact ht) t
          have hdeep := hB.deep
          have hsize := hB.size
          have hbd := hB.byte t
          have hcn := hB.cnts t
          have hpc : wr.cell? ⟨b, off + k, none⟩ = some (.int .u8 (ati prog k)) := (hB.st.bel.cell (p := ⟨b, off + k, none⟩) hb).trans (unhide HC k hkn)
          have hpb := unhide HY k
          have hzr := hB.st.siz
          rw [ht] at hdeep
          have HT := hide ht
          have HB := hide hB
          have hout := hB.st.out
          clear hB hcell6 hcell7 ht hss
          by_cases c2 : ati prog k % 8 = 2
          · have t2 : (ati prog k % 8 == 2) = true := by simp [c2]
            clear c2
            go_wp2_with fail
            refine (close_calls w.heap.size wr u4 ys _ hout (by omega) hzr).mono ?_
            rintro e wx ⟨vx, cx, rfl, hcx, Gx⟩
            have R := hide (((unhide HB).close (unhide HT) Gx hcx).next (by omega))
            clear Gx hcx
            go_wp2_with fail
            go_roundg (gk - 1)
            case measure => omega
            case rel => exact ⟨k + 1, _, _, _, by go_num, by omega, by omega, by omega, unhide R⟩
          · have t2 : (ati prog k % 8 == 2) = false := by simp [c2]
            go_upto_if 88 with fail
            go_cut [4] (fun u wc => ∃ ys', Bld w wc u (.slice (some ⟨g6, 0, none⟩) (t + 1) cap6) (.slice (some ⟨g7, 0, none⟩) (t + 1) cap7) k 2 ys' ss cc)
            case first =>
              go_wp2_with (at_builtin; refine wp_app_lit rfl _ _ rfl w.heap.size _ ys rfl hout _ _ 2 2 [44, 32] rfl rfl rfl (by omega) hzr ?_)
              · intro u' w' g
                have R := hide (((unhide HB).add g (by have := unhide HT; omega) (comma_in _) comma_bytes 2 (by simp)))
                clear g
                go_wp2_with fail
                go_meet
                case rel => exact ⟨_, unhide R⟩
              · go_meet
                case rel => exact ⟨_, (unhide HB).more 2 (by omega)⟩
            case rest =>
              obtain ⟨ys1, hB1⟩ := hcut
              clear HB hout d6 d7 f7 hpc hdeep hsize hzr
              have ht := unhide HT
              have hB2 := hB1.store ht t
              have d7 := hB1.st.cnt.at (by rw [hB1.same]; exact ht) (show t < t + 1 by omega)
              have f7 := hB1.st.cnt.free (by rw [hB1.same]; exact ht) t
              have d6 := hB2.st.stk.at ht (show t < t + 1 by omega)
              have hsize := hB2.size
              have hzr := hB2.st.siz
              have hout := hB2.st.out
              have HB := hide hB2
              clear hB1 hB2 ht
              go_upto_if 104 with fail
              go_cut [4] (fun u wd => ∃ ys' cc', Bld w wd u (.slice (some ⟨g6, 0, none⟩) (t + 1) cap6) (.slice (some ⟨g7, 0, none⟩) (t + 1) cap7) k 11 ys' ss cc')
              case first =>
                by_cases c1 : ati ss t = 1
                · have t1 : (ati ss t == 1) = true := by simp [c1]
                  clear c1
                  go_wp2_with fail
                  refine (key_calls w.heap.size _ u4 ys1 hout (by omega) hzr).mono ?_
                  rintro e wx ⟨vx, rfl, Gx⟩
                  have R := hide ((unhide HB).add Gx (by have := unhide HT; omega) (key_in _) key_bytes 11 (by simp))
                  clear Gx
                  go_wp2_with fail
                  go_meet
                  case rel => exact ⟨_, _, unhide R⟩
                · have t1 : (ati ss t == 1) = false := by simp [c1]
                  clear c1
                  go_wp2_with fail
                  go_meet
                  case rel => exact ⟨_, _, (unhide HB).more 11 (by omega)⟩
              case rest =>
                obtain ⟨ys2, cc2, hB3⟩ := hcut
                clear HB hout d6 d7 f7 hsize hzr
                have hsize := hB3.size
                have hdeep := hB3.deep
                have hzr := hB3.st.siz
                have hout := hB3.st.out
                have hcnt := hB3.st.cnt
                have hsame := hB3.same
                have HB := hide hB3
                have HSM := hide hsame
                clear hB3 hsame
                by_cases c1 : ati prog k % 8 ≤ 1
                · go_wp2_with fail
                  refine (open_calls w.heap.size _ u4 ys2 _ hout (by omega) hzr).mono ?_
                  rintro e wx ⟨vx, cx, rfl, hcx, Gx⟩
                  have Sx := (unhide HB).st.out_grew Gx
                  have HCX := hide hcx
                  have hsx := Sx.stk
                  have hzx := Sx.siz
                  clear hcx
                  go_wp2_with (at_builtin; refine wp_app_lit rfl _ _ rfl w.heap.size _ ss rfl hsx _ _ 1 1 [ati prog k % 8] rfl rfl rfl (by omega) hzx ?_)
                  intro vy wy Gy
                  have Sy := Sx.stk_grew Gy
                  have hcy := Sy.cnt
                  have hzy := Sy.siz
                  clear Sx hsx
                  go_wp2_with (at_builtin; refine wp_appI_lit rfl _ _ rfl w.heap.size _ cc2 rfl hcy 0 _ 1 rfl (by rw [unhide HSM]; omega) hzy ?_)
                  intro vz wz Gz
                  have R := hide (((unhide HB).push (by have := unhide HT; omega) Gx (unhide HCX) Gy (by omega) Gz).next (by omega))
                  clear Gx Gy Gz Sy hcy
                  go_wp2_with fail
                  go_roundg (gk - 1)
                  case measure => omega
                  case rel => exact ⟨k + 1, _, _, _, by go_num, by omega, by omega, by omega, unhide R⟩
                · go_wp2_with fail
                  refine (scalar_calls w.heap.size _ u4 ys2 _ _ hpb.1 hpb.2 hout (by omega) hzr).mono ?_
                  rintro e wx ⟨vx, zs, rfl, hvz, hlz, Gx⟩
                  have hd1 : 1 ≤ ss.length := by have := unhide HT; omega
                  have R := hide (((unhide HB).add Gx hd1 (hvz.inside hd1) hvz.bytes 20 (by omega)).next (by omega))
                  clear Gx hvz hlz hd1
                  go_wp2_with fail
                  go_roundg (gk - 1)
                  case measure => omega
                  case rel => exact ⟨k + 1, _, _, _, by go_num, by omega, by omega, by omega, unhide R⟩
        · obtain ⟨ao6, cap6, e6, _, _⟩ := hB.st.stk.form
          have hs0 : ss.length = 0 := by omega
          rw [hs0] at e6
          subst e6
          have R := hide (hB.fin hk2)
          clear hB hs0 hss
          go_wp2_with fail
          go_meet
          case rel => exact ⟨_, _, unhide R⟩
      · have R := hide (hB.fin hk2)
        clear hB
        go_wp2_with fail
        go_meet
        case rel => exact ⟨_, _, unhide R⟩
  case rest =>
    obtain ⟨ys, ss, hF⟩ := hcut
    have HF := hide hF
    clear hF R0
    go_wp2_with fail
    go_loopg [4, 6] (50 * n) (fun gk u v wr => ∃ ys ss, ss.length ≤ gk ∧ Fin2 w wr u v (50 * n) ys ss)
    case atStart => exact ⟨_, _, by have := (unhide HF).size; omega, unhide HF⟩
    case round =>
      obtain ⟨ys, ss, hgk, hF⟩ := hrel
      clear HF
      by_cases hss : 0 < ss.length
      · obtain ⟨t, ht⟩ : ∃ t, ss.length = t + 1 := ⟨ss.length - 1, by omega⟩
        obtain ⟨g6, cap6, e6, hg6, hg6', hcap6, hmx6, hcell6⟩ := hF.stk.solid hss
        rw [ht] at e6 hcap6
        subst e6
        unfold maxLen at hmx6
        have d6 := hcell6 t (by omega)
        have hsize := hF.size
        have hbd := hF.byte t
        have hzr := hF.bel.size
        have hout := hF.out
        have HT := hide ht
        have HF := hide hF
        rw [ht] at hgk hsize
        clear hF hcell6 ht hss
        go_wp2_with fail
        refine (close_calls w.heap.size wr u4 ys _ hout (by omega) hzr).mono ?_
        rintro e wx ⟨vx, cx, rfl, hcx, Gx⟩
        have R := hide ((unhide HF).close (unhide HT) Gx hcx)
        clear Gx hcx
        go_wp2_with fail
        go_roundg (gk - 1)
        case measure => omega
        case rel => exact ⟨_, _, by rw [List.length_take]; omega, unhide R⟩
      · obtain ⟨ao6, cap6, e6, _, _⟩ := hF.stk.form
        have hs0 : ss.length = 0 := by omega
        rw [hs0] at e6
        subst e6
        have hv : IsVal ys := .inr (.inr (by have := hF.text; rw [hs0] at this; exact this.box))
        have HV := hide hv
        have HO := hide hF.out
        have HBe := hide hF.bel
        have hsize := hF.size
        clear hv hF hs0 hss
        go_wp2_with fail
        go_ret2
        exact ⟨_, _, ys, rfl, unhide HV, by omega, unhide HO, unhide HBe⟩
end Go.Proofs.Qxb6001551a
