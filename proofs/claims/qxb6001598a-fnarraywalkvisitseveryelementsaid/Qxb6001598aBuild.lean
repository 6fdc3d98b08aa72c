/-
  SEAT b6001598a. THE WALK of zzSjBuild: whatever the ops, one JSON value is written behind what is there.
-/
import Derived.Test.Qxb6001598aBld
import Derived.Deep.CutBlock
namespace Go.Proofs.Qxb6001598a
open Go.RowKit

theorem comma_in (d : Nat) : fold (0, d) [44] = (0, d) := by
  rw [fold_cons, step_other (by decide) (by decide) (by decide) (by decide) (by decide)]; rfl
theorem comma_bytes : Bytes [44] := fun x hx => by simp at hx; omega
theorem colon_in {zs : List Int} (h : Str zs) (d : Nat) : fold (0, d) (zs ++ [58]) = (0, d) := by
  rw [fold_append, fold_str h, fold_cons, step_other (by decide) (by decide) (by decide) (by decide) (by decide)]; rfl
theorem colon_bytes {zs : List Int} (h : Str zs) : Bytes (zs ++ [58]) := by
  obtain ⟨_, _, _, hb⟩ := h
  exact hb.append (fun x hx => by simp at hx; omega)

set_option maxHeartbeats 8000000 in
set_option maxRecDepth 100000 in
theorem build_calls (B : Nat) (w : World) (v : Value) (xs ops es : List Int) (strs : List ByteArray) (ao ast ae : Option Addr) (n ns ne cap cs ce si0 : Nat)
    (hown : Own B w v xs) (hops : Src B w ao n ops) (hstrs : Strs B w ast ns strs) (hesc : Src B w ae ne es) (hn : n ≤ 65536) (hns : ns ≤ 1048576) (hne : ne ≤ 1048576) (hsi : si0 ≤ ns) (hlen : xs.length ≤ 3000000000000) (hB : B ≤ w.heap.size) :
    Calls Try.prog 17 #[v, .slice ao n cap, .slice ast ns cs, .slice ae ne ce, .int .i64 si0] w fun e w' => ∃ v' si', e = .returned (.tuple #[v', .int .i64 (si' : Nat)]) ∧ si' ≤ ns ∧ ∃ ys, IsVal ys ∧ ys.length ≤ 16777216 * (n + 1) ∧ Grew B w w' v v' (xs ++ ys) := by
  have HO := hide hops
  have HST := hide hstrs
  have HES := hide hesc
  have HW := hide hown
  have R0 := hide (Bld.start hown hB)
  clear hops hstrs hesc hown
  go_enter Try.func17, Try.ntmps17
  go_wp2_with fail
  go_loopg [0, 4, 12, 13, 14] n (fun gk u q s c i wr => ∃ (k si : Nat) (ys ss cc : List Int), i = .int .i64 k ∧ q = .int .i64 si ∧ si ≤ ns ∧ k ≤ n ∧ n ≤ gk + k ∧ Bld B w wr v u s c k 0 xs ys ss cc)
  case atStart => exact ⟨0, si0, _, _, _, rfl, rfl, hsi, Nat.zero_le _, by omega, unhide R0⟩
  case round =>
    obtain ⟨k, si, ys, ss, cc, rfl, rfl, hsin, hk, hgk, hBl⟩ := hrel
    clear R0
    have hbel := hBl.st.out.below (unhide HW) hB
    have hzr : B ≤ wr.heap.size := Nat.le_trans hB hbel.size
    have hout := hBl.st.out.own
    have hsize := hBl.size
    have hdeep := hBl.deep
    by_cases hkn : k < n
    · obtain ⟨bo, offo, hao, hboB, hcello⟩ := ((unhide HO).carry hbel).place (by omega)
      subst hao
      have hpc := hcello k hkn
      have hpb := (unhide HO).at_byte k
      clear hcello
      by_cases c5 : ati ops k % 6 = 5
      · have t5 : (ati ops k % 6 == 5) = true := by simp [c5]
        clear c5
        by_cases hss : ss.length = 0
        · obtain ⟨a12, cap12, e12, _, _⟩ := hBl.st.stk.form
          rw [hss] at e12
          subst e12
          have R := hide ((hBl.more 1 (by omega)).next (by omega))
          clear hBl hss
          go_wp2_with fail
          go_roundg (gk - 1)
          case measure => omega
          case rel => exact ⟨k + 1, si, _, _, _, by go_num, rfl, hsin, by omega, by omega, unhide R⟩
        · obtain ⟨t, ht⟩ : ∃ t, ss.length = t + 1 := ⟨ss.length - 1, by omega⟩
          obtain ⟨g6, cap6, e6, hg6, hg6', hcap6, hmx6, hcell6⟩ := hBl.st.stk.solid (by omega)
          obtain ⟨g7, cap7, e7, hg7, hg7', hcap7, hmx7, hcell7⟩ := hBl.st.cnt.solid (by rw [hBl.same]; omega)
          rw [ht] at e6 hcap6 hdeep
          rw [hBl.same, ht] at e7 hcap7
          subst e6 e7
          unfold maxLen at hmx6 hmx7
          have d6 := hcell6 t (by omega)
          have HB := hide hBl
          have HT := hide ht
          clear hBl ht hss hcell6 hcell7
          have tt : ((t : Int) + 1 == 0) = false := by simp; omega
          go_wp2_with fail
          refine (close_calls B wr u0 (xs ++ ys) _ hout (by simp; omega) hzr).mono ?_
          rintro e wx ⟨vx, cx, rfl, hcx, Gx⟩
          replace Gx : Grew B wr wx u0 vx (xs ++ (ys ++ [cx])) := by simpa using Gx
          have GX := hide Gx
          have HCX := hide hcx
          clear Gx hcx
          by_cases ht0 : t = 0
          · have t0 : ((t : Int) == 0) = true := by simp [ht0]
            have R := hide ((unhide HB).last (by have := unhide HT; omega) (unhide GX) (unhide HCX))
            clear ht0
            go_wp2_with fail
            go_ret2
            exact ⟨_, si, rfl, hsin, _, (unhide R).1, by have := (unhide R).2.1; omega, (unhide R).2.2⟩
          · have t0 : ((t : Int) == 0) = false := by simp [ht0]
            have R := hide (((unhide HB).close (unhide HT) (unhide GX) (unhide HCX) (by omega)).next (by omega))
            clear ht0
            go_wp2_with fail
            go_roundg (gk - 1)
            case measure => omega
            case rel => exact ⟨k + 1, si, _, _, _, by go_num, rfl, hsin, by omega, by omega, unhide R⟩
      · have t5 : (ati ops k % 6 == 5) = false := by simp [c5]
        obtain ⟨a12, cap12, e12, hcap12, hmx12⟩ := hBl.st.stk.form
        obtain ⟨d, hd⟩ : ∃ d, d = ss.length := ⟨_, rfl⟩
        rw [← hd] at e12 hdeep hcap12
        subst e12
        unfold maxLen at hmx12
        have HB := hide hBl
        have HD := hide hd
        clear hBl hd c5
        go_upto_if 61 with fail
        go_cut [0, 4] (fun u q wc => ∃ (ys' cc' : List Int) (si' : Nat), q = .int .i64 si' ∧ si' ≤ ns ∧ Bld B w wc v u (.slice a12 d cap12) u13 k 3000000 xs ys' ss cc')
        case first =>
          by_cases hd0 : d = 0
          · subst hd0
            go_wp2_with fail
            go_meet
            case rel => exact ⟨_, _, si, rfl, hsin, (unhide HB).more _ (by omega)⟩
          · obtain ⟨t, rfl⟩ : ∃ t, d = t + 1 := ⟨d - 1, by omega⟩
            have ht := (unhide HD).symm
            obtain ⟨g6, cap6, e6, hg6, hg6', _, _, hcell6⟩ := (unhide HB).st.stk.solid (by omega)
            obtain ⟨g7, cap7, e7, hg7, hg7', hcap7, hmx7, hcell7⟩ := (unhide HB).st.cnt.solid (by rw [(unhide HB).same]; omega)
            have hsm := (unhide HB).same
            rw [ht] at e6
            rw [hsm, ht] at e7 hcap7
            simp only [Value.slice.injEq, true_and] at e6
            obtain ⟨e6a, e6b⟩ := e6
            subst e6a e6b e7
            unfold maxLen at hmx7
            have d7 := hcell7 t (by rw [hsm]; omega)
            have hcn := (unhide HB).cnts t
            have HT := hide ht
            clear hcell6 hcell7 hsm ht hd0
            go_upto_if 69 with fail
            go_cut [0] (fun u wc => ∃ ys', Bld B w wc v u (.slice (some ⟨g6, 0, none⟩) (t + 1) cap12) (.slice (some ⟨g7, 0, none⟩) (t + 1) cap7) k 1 xs ys' ss cc)
            case first =>
              go_wp2_with (at_builtin; refine wp_app_lit rfl _ _ rfl B _ (xs ++ ys) rfl hout _ _ 1 1 [44] rfl rfl rfl (by simp; omega) hzr ?_)
              · intro u' w' g
                replace g : Grew B wr w' u0 u' (xs ++ (ys ++ [44])) := by simpa using g
                have R := hide ((unhide HB).add g (by have := unhide HT; omega) (comma_in _) comma_bytes 1 (by simp))
                clear g
                go_wp2_with fail
                go_meet
                case rel => exact ⟨_, unhide R⟩
              · go_meet
                case rel => exact ⟨_, (unhide HB).more 1 (by omega)⟩
            case rest =>
              obtain ⟨ys1, hB1⟩ := hcut
              clear HB hout d7 hpc hsize hzr hbel
              have ht := unhide HT
              have hB2 := hB1.store ht t
              have d7 := hB1.st.cnt.at (by rw [hB1.same]; exact ht) (show t < t + 1 by omega)
              have f7 := hB1.st.cnt.free (by rw [hB1.same]; exact ht) t
              have d6 := hB2.st.stk.at ht (show t < t + 1 by omega)
              have hsize := hB2.size
              have hbel := hB2.st.out.below (unhide HW) hB
              have hzr := Nat.le_trans hB hbel.size
              have hout := hB2.st.out.own
              have HB := hide hB2
              have HBE := hide hbel
              clear hB1 hB2 ht hbel
              by_cases c1 : ati ss t = 123
              · have t1 : (ati ss t == 123) = true := by simp [c1]
                clear c1
                go_upto_if 89 with fail
                go_cut [4, 19] (fun q u wx => ∃ (s : ByteArray) (si' : Nat), u = .string s ∧ q = .int .i64 si' ∧ s.size ≤ 1048576 ∧ si' ≤ ns ∧ wc.setCell ⟨g7, t, none⟩ (.int .i64 (ati cc t + 1)) = wx)
                case first =>
                  by_cases hsi2 : si < ns
                  · obtain ⟨bs, offs, has, hbs, hcells⟩ := ((unhide HST).carry (unhide HBE)).place (by omega)
                    subst has
                    have hcs := hcells si hsi2
                    have hsz := (unhide HST).size si hsi2
                    clear hcells
                    go_wp2_with fail
                    go_meet
                    case rel => exact ⟨sti strs si, si + 1, rfl, by go_num, hsz, by omega, rfl⟩
                  · go_wp2_with fail
                    go_meet
                    case rel => exact ⟨_, si, rfl, rfl, by decide, by omega, rfl⟩
                case rest =>
                  obtain ⟨s, si1, rfl, rfl, hsz, hsi1, rfl⟩ := hcut
                  go_wp2_with fail
                  refine (encode_calls B _ u0 (xs ++ ys1) es s ae ne ce hout ((unhide HES).carry (unhide HBE)) hsz hne (by simp; omega) hzr).mono ?_
                  rintro e wx ⟨vx, zs, rfl, hstr, hzl, Gx⟩
                  have HSTR := hide hstr
                  have hzx := Gx.grown.size
                  have hzx2 : B ≤ wx.heap.size := Nat.le_trans hzr hzx
                  have hox := Gx.own
                  have GX := hide Gx
                  clear hstr Gx
                  go_wp2_with (at_builtin; refine wp_app_lit rfl _ _ rfl B _ (xs ++ ys1 ++ zs) rfl hox _ _ 1 1 [58] rfl rfl rfl (by simp; omega) hzx2 ?_)
                  intro u' w' g
                  have G2 : Grew B (wc.setCell ⟨g7, t, none⟩ (.int .i64 (ati cc t + 1))) w' u0 u' (xs ++ (ys1 ++ (zs ++ [58]))) := by simpa using (unhide GX).trans g
                  have R := hide ((unhide HB).add G2 (by have := unhide HT; omega) (colon_in (unhide HSTR) _) (colon_bytes (unhide HSTR)) 3000000 (by simp; omega))
                  clear g G2
                  go_wp2_with fail
                  go_meet
                  case rel => exact ⟨_, _, si1, rfl, hsi1, unhide R⟩
              · have t1 : (ati ss t == 123) = false := by simp [c1]
                clear c1
                go_wp2_with fail
                go_meet
                case rel => exact ⟨_, _, si, rfl, hsin, (unhide HB).more _ (by omega)⟩
        case rest =>
          obtain ⟨ys1, cc1, si1, rfl, hsi1, hB1⟩ := hcut
          clear HB hout hpc hsize hzr hbel
          have hbel := hB1.st.out.below (unhide HW) hB
          have hzr := Nat.le_trans hB hbel.size
          have hout := hB1.st.out.own
          have hsize := hB1.size
          have HBE := hide hbel
          have HB := hide hB1
          clear hB1 hbel
          by_cases k0 : ati ops k % 6 = 0 ∨ ati ops k % 6 = 1
          · rcases k0 with k0 | k0
            · have tk0 : (ati ops k % 6 == 0) = true := by simp [k0]
              clear k0
              go_wp2_with (at_builtin; refine wp_app_lit rfl _ _ rfl B _ (xs ++ ys1) rfl hout _ _ 1 1 [91] rfl rfl rfl (by simp; omega) hzr ?_)
              intro ux wx Gx
              replace Gx : Grew B wc wx u0 ux (xs ++ (ys1 ++ [91])) := by simpa using Gx
              have Sx := (unhide HB).st.out_grew Gx
              have hsx := Sx.stk
              have hzx := Sx.sizr
              have hcl := (unhide HB).same
              have GX := hide Gx
              have SX := hide Sx
              clear Gx Sx
              rw [← unhide HD] at hcl
              have HCL := hide hcl
              clear hcl
              go_wp2_with (at_builtin; refine wp_app_lit rfl _ _ rfl w.heap.size _ ss rfl hsx _ _ 1 1 [91] rfl rfl rfl (by rw [← unhide HD]; omega) hzx ?_)
              intro vy wy Gy
              have Sy := (unhide SX).stk_grew Gy
              have hcy := Sy.cnt
              have hzy := Sy.sizr
              have GY := hide Gy
              clear Gy Sy hsx SX
              go_wp2_with (at_builtin; refine wp_appI_lit rfl _ _ rfl w.heap.size _ cc1 rfl hcy 0 _ 1 rfl (by rw [unhide HCL]; omega) hzy ?_)
              intro vz wz Gz
              have R0 := (unhide HB).push (unhide GX) (.inr rfl) (unhide GY) (by omega) Gz 4000000 (by omega)
              obtain ⟨a13, cap13, e13, _, _⟩ := R0.st.stk.form
              rw [List.length_append, ← unhide HD] at e13
              have R := hide (R0.next (by omega))
              clear Gz hcy R0
              subst e13
              have td : (((d + [(91 : Int)].length : Nat) : Int) == 0) = false := by simp; omega
              go_wp2_with fail
              go_roundg (gk - 1)
              case measure => omega
              case rel => exact ⟨k + 1, si1, _, _, _, by go_num, rfl, hsi1, by omega, by omega, unhide R⟩
            · have tk0 : (ati ops k % 6 == 0) = false := by simp [k0]
              have tk1 : (ati ops k % 6 == 1) = true := by simp [k0]
              clear k0
              go_wp2_with (at_builtin; refine wp_app_lit rfl _ _ rfl B _ (xs ++ ys1) rfl hout _ _ 1 1 [123] rfl rfl rfl (by simp; omega) hzr ?_)
              intro ux wx Gx
              replace Gx : Grew B wc wx u0 ux (xs ++ (ys1 ++ [123])) := by simpa using Gx
              have Sx := (unhide HB).st.out_grew Gx
              have hsx := Sx.stk
              have hzx := Sx.sizr
              have hcl := (unhide HB).same
              have GX := hide Gx
              have SX := hide Sx
              clear Gx Sx
              rw [← unhide HD] at hcl
              have HCL := hide hcl
              clear hcl
              go_wp2_with (at_builtin; refine wp_app_lit rfl _ _ rfl w.heap.size _ ss rfl hsx _ _ 1 1 [123] rfl rfl rfl (by rw [← unhide HD]; omega) hzx ?_)
              intro vy wy Gy
              have Sy := (unhide SX).stk_grew Gy
              have hcy := Sy.cnt
              have hzy := Sy.sizr
              have GY := hide Gy
              clear Gy Sy hsx SX
              go_wp2_with (at_builtin; refine wp_appI_lit rfl _ _ rfl w.heap.size _ cc1 rfl hcy 0 _ 1 rfl (by rw [unhide HCL]; omega) hzy ?_)
              intro vz wz Gz
              have R0 := (unhide HB).push (unhide GX) (.inl rfl) (unhide GY) (by omega) Gz 4000000 (by omega)
              obtain ⟨a13, cap13, e13, _, _⟩ := R0.st.stk.form
              rw [List.length_append, ← unhide HD] at e13
              have R := hide (R0.next (by omega))
              clear Gz hcy R0
              subst e13
              have td : (((d + [(123 : Int)].length : Nat) : Int) == 0) = false := by simp; omega
              go_wp2_with fail
              go_roundg (gk - 1)
              case measure => omega
              case rel => exact ⟨k + 1, si1, _, _, _, by go_num, rfl, hsi1, by omega, by omega, unhide R⟩
          · have tk0 : (ati ops k % 6 == 0) = false := by simp; omega
            have tk1 : (ati ops k % 6 == 1) = false := by simp; omega
            by_cases k2 : ati ops k % 6 = 2
            · have tk2 : (ati ops k % 6 == 2) = true := by simp [k2]
              clear k0 k2
              go_upto_if 134 with fail
              go_cut [4, 20] (fun q u wx => ∃ (s : ByteArray) (si' : Nat), u = .string s ∧ q = .int .i64 si' ∧ s.size ≤ 1048576 ∧ si' ≤ ns ∧ wc = wx)
              case first =>
                by_cases hsi2 : si1 < ns
                · obtain ⟨bs, offs, has, hbs, hcells⟩ := ((unhide HST).carry (unhide HBE)).place (by omega)
                  subst has
                  have hcs := hcells si1 hsi2
                  have hsz := (unhide HST).size si1 hsi2
                  clear hcells
                  go_wp2_with fail
                  go_meet
                  case rel => exact ⟨sti strs si1, si1 + 1, rfl, by go_num, hsz, by omega, rfl⟩
                · go_wp2_with fail
                  go_meet
                  case rel => exact ⟨_, si1, rfl, rfl, by decide, by omega, rfl⟩
              case rest =>
                obtain ⟨s, si2, rfl, rfl, hsz, hsi2, rfl⟩ := hcut
                go_wp2_with fail
                refine (encode_calls B _ u0 (xs ++ ys1) es s ae ne ce hout ((unhide HES).carry (unhide HBE)) hsz hne (by simp; omega) hzr).mono ?_
                rintro e wx ⟨vx, zs, rfl, hstr, hzl, Gx⟩
                have hv : IsVal zs := .inr (.inl hstr)
                have HV := hide hv
                replace Gx : Grew B wc wx u0 vx (xs ++ (ys1 ++ zs)) := by simpa using Gx
                have GX := hide Gx
                clear hstr hv Gx
                by_cases hd0 : d = 0
                · have td : ((d : Int) == 0) = true := by simp [hd0]
                  have hy := (unhide HB).bare (by have := unhide HD; omega)
                  have R := hide ((unhide HB).st.out.trans (unhide GX))
                  rw [hy, List.nil_append] at R
                  clear hd0
                  go_wp2_with fail
                  go_ret2
                  exact ⟨_, si2, rfl, hsi2, zs, unhide HV, by omega, unhide R⟩
                · have td : ((d : Int) == 0) = false := by simp [hd0]
                  have hd1 : 1 ≤ ss.length := by have := unhide HD; omega
                  have R := hide (((unhide HB).add (unhide GX) hd1 ((unhide HV).inside hd1) (unhide HV).bytes 6000000 (by omega)).next (by omega))
                  clear hd0 hd1
                  go_wp2_with fail
                  go_roundg (gk - 1)
                  case measure => omega
                  case rel => exact ⟨k + 1, si2, _, _, _, by go_num, rfl, hsi2, by omega, by omega, unhide R⟩
            · have tk2 : (ati ops k % 6 == 2) = false := by simp [k2]
              by_cases k3 : ati ops k % 6 = 3
              · have tk3 : (ati ops k % 6 == 3) = true := by simp [k3]
                clear k0 k2 k3
                go_wp2_with fail
                refine (number_calls B _ u0 (xs ++ ys1) _ hpb.1 hpb.2 hout (by simp; omega) hzr).mono ?_
                rintro e wx ⟨vx, zs, rfl, hv, hzl, Gx⟩
                have HV := hide hv
                replace Gx : Grew B wc wx u0 vx (xs ++ (ys1 ++ zs)) := by simpa using Gx
                have GX := hide Gx
                clear hv Gx
                by_cases hd0 : d = 0
                · have td : ((d : Int) == 0) = true := by simp [hd0]
                  have hy := (unhide HB).bare (by have := unhide HD; omega)
                  have R := hide ((unhide HB).st.out.trans (unhide GX))
                  rw [hy, List.nil_append] at R
                  clear hd0
                  go_wp2_with fail
                  go_ret2
                  exact ⟨_, si1, rfl, hsi1, zs, unhide HV, by omega, unhide R⟩
                · have td : ((d : Int) == 0) = false := by simp [hd0]
                  have hd1 : 1 ≤ ss.length := by have := unhide HD; omega
                  have R := hide (((unhide HB).add (unhide GX) hd1 ((unhide HV).inside hd1) (unhide HV).bytes 6000000 (by omega)).next (by omega))
                  clear hd0 hd1
                  go_wp2_with fail
                  go_roundg (gk - 1)
                  case measure => omega
                  case rel => exact ⟨k + 1, si1, _, _, _, by go_num, rfl, hsi1, by omega, by omega, unhide R⟩
              · have tk3 : (ati ops k % 6 == 3) = false := by simp [k3]
                clear k0 k2 k3
                go_wp2_with fail
                refine (literal_calls B _ u0 (xs ++ ys1) _ hpb.1 hpb.2 hout (by simp; omega) hzr).mono ?_
                rintro e wx ⟨vx, zs, rfl, hv, hzl, Gx⟩
                have HV := hide hv
                replace Gx : Grew B wc wx u0 vx (xs ++ (ys1 ++ zs)) := by simpa using Gx
                have GX := hide Gx
                clear hv Gx
                by_cases hd0 : d = 0
                · have td : ((d : Int) == 0) = true := by simp [hd0]
                  have hy := (unhide HB).bare (by have := unhide HD; omega)
                  have R := hide ((unhide HB).st.out.trans (unhide GX))
                  rw [hy, List.nil_append] at R
                  clear hd0
                  go_wp2_with fail
                  go_ret2
                  exact ⟨_, si1, rfl, hsi1, zs, unhide HV, by omega, unhide R⟩
                · have td : ((d : Int) == 0) = false := by simp [hd0]
                  have hd1 : 1 ≤ ss.length := by have := unhide HD; omega
                  have R := hide (((unhide HB).add (unhide GX) hd1 ((unhide HV).inside hd1) (unhide HV).bytes 6000000 (by omega)).next (by omega))
                  clear hd0 hd1
                  go_wp2_with fail
                  go_roundg (gk - 1)
                  case measure => omega
                  case rel => exact ⟨k + 1, si1, _, _, _, by go_num, rfl, hsi1, by omega, by omega, unhide R⟩
    · by_cases hss : ss.length = 0
      · obtain ⟨a12, cap12, e12, _, _⟩ := hBl.st.stk.form
        rw [hss] at e12
        subst e12
        have hy := hBl.bare hss
        have HB := hide hBl
        have HY := hide hy
        clear hBl hss hy
        go_wp2_with (at_builtin; refine wp_app_lit rfl _ _ rfl B _ (xs ++ ys) rfl hout _ _ 4 4 [110, 117, 108, 108] rfl rfl rfl (by simp; omega) hzr ?_)
        intro ux wx Gx
        have R := hide ((unhide HB).st.out.trans Gx)
        rw [unhide HY] at R
        clear Gx
        go_wp2_with fail
        go_ret2
        exact ⟨_, si, rfl, hsin, [110, 117, 108, 108], .inl ⟨by simp, by intro c hc; simp at hc; unfold bare; omega⟩, by simp; omega, by simpa using unhide R⟩
      · have HF := hide (hBl.fin hk (by omega))
        obtain ⟨a12, cap12, e12, _, hmx12⟩ := hBl.st.stk.form
        obtain ⟨d, hd⟩ : ∃ d, d = ss.length := ⟨_, rfl⟩
        rw [← hd] at e12 hdeep hss
        subst e12
        unfold maxLen at hmx12
        have td : ((d : Int) == 0) = false := by simp [hss]
        clear hBl hout hzr hbel hsize hss hd
        go_wp2_with fail
        go_loopg [0, 12] (16777216 * n) (fun gk u s wr => ∃ ys ss, ss.length ≤ gk ∧ Fin2 B w wr v u s (16777216 * n) xs ys ss)
        case atStart => exact ⟨_, _, by have := (unhide HF).size; omega, unhide HF⟩
        case round =>
          obtain ⟨ys, ss, hgk2, hF⟩ := hrel
          clear HF
          by_cases hss : 0 < ss.length
          · obtain ⟨t, ht⟩ : ∃ t, ss.length = t + 1 := ⟨ss.length - 1, by omega⟩
            obtain ⟨g6, cap6, e6, hg6, hg6', hcap6, hmx6, hcell6⟩ := hF.stk.solid hss
            rw [ht] at e6 hcap6
            subst e6
            unfold maxLen at hmx6
            have d6 := hcell6 t (by omega)
            have hsize := hF.size
            have hzr := Nat.le_trans hB hF.out.grown.size
            have hout := hF.out.own
            have HT := hide ht
            have HF := hide hF
            rw [ht] at hgk2 hsize
            clear hF hcell6 ht hss
            go_wp2_with fail
            refine (close_calls B wr u0 (xs ++ ys) _ hout (by simp; omega) hzr).mono ?_
            rintro e wx ⟨vx, cx, rfl, hcx, Gx⟩
            replace Gx : Grew B wr wx u0 vx (xs ++ (ys ++ [cx])) := by simpa using Gx
            have R := hide ((unhide HF).close (unhide HT) Gx hcx)
            clear Gx hcx
            go_wp2_with fail
            go_roundg (gk - 1)
            case measure => omega
            case rel => exact ⟨_, _, by rw [List.length_take]; omega, unhide R⟩
          · obtain ⟨ao6, cap6, e6, _, _⟩ := hF.stk.form
            have hs0 : ss.length = 0 := by omega
            rw [hs0] at e6
            subst e6
            have hv : IsVal ys := .inr (.inr (by have := hF.text; rw [hs0] at this; exact this.box))
            have HV := hide hv
            have HO := hide hF.out
            have hsize := hF.size
            clear hv hF hs0 hss
            go_wp2_with fail
            go_ret2
            exact ⟨_, si, rfl, hsin, ys, unhide HV, by omega, unhide HO⟩
end Go.Proofs.Qxb6001598a
