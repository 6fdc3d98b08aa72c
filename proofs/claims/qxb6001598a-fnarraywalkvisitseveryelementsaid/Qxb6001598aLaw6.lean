/-
  SEAT b6001598a. THE WALK of FnArrayWalkVisitsEveryElement.
-/
import Derived.Test.Qxb6001598aTri
import Derived.Test.Qxb6001598aVisit
import Derived.Test.Qxb6001598aGap
import Derived.Test.Qxb6001598aBytes
import Derived.Test.Qxb6001598aSkipV
import Derived.Test.Qxb6001598aBuild
import Derived.Deep.CutBlock
namespace Go.Proofs.Qxb6001598a
open Go.RowKit
theorem bound1 {M j s n : Nat} (h : M ≤ 16 + 16777300 * j + 16777216 * (j - s + 1)) (hj : j ≤ n) (hn : n ≤ 65536) : M ≤ 9000000000000 := by
  have h1 : 16777300 * j ≤ 16777300 * 65536 := Nat.mul_le_mul_left _ (Nat.le_trans hj hn)
  have h2 : 16777216 * (j - s + 1) ≤ 16777216 * 65537 := Nat.mul_le_mul_left _ (by omega)
  have h3 : M ≤ 16 + 16777300 * 65536 + 16777216 * 65537 := Nat.le_trans h (Nat.add_le_add (Nat.add_le_add_left h1 16) h2)
  exact Nat.le_trans h3 (by decide)
theorem bound2 {f s g : Nat} (h : f ≤ 16777300 * s) (hs : s ≤ 65537) (hg : g ≤ 7) : 2 + g + f ≤ 9000000000000 := by
  have h1 : 16777300 * s ≤ 16777300 * 65537 := Nat.mul_le_mul_left _ hs
  have h2 : 16777300 * 65537 ≤ 8000000000000 := by decide
  have h3 : f ≤ 8000000000000 := Nat.le_trans h (Nat.le_trans h1 h2)
  omega
theorem Src.void {B : Nat} {w : World} {ao : Option Addr} {n : Nat} {xs : List Int} (h : n = 0) : Src B w ao n (xs.take n) := by
  subst h; exact ⟨rfl, by simp, .inl rfl⟩
theorem Src.cut {B : Nat} {w : World} {b off n seg j : Nat} {xs : List Int} (h : Src B w (some ⟨b, off, none⟩) n xs) (h1 : seg ≤ j) (h2 : j ≤ n) : Src B w (some ⟨b, off + seg, none⟩) (j - seg) ((xs.drop seg).take (j - seg)) := by
  have hl := h.len
  refine ⟨by rw [List.length_take, List.length_drop]; omega, fun x hx => h.byte x (List.mem_of_mem_drop (List.mem_of_mem_take hx)), ?_⟩
  by_cases h0 : j - seg = 0
  · exact .inl h0
  · obtain ⟨b', off', e, hb, hc⟩ := h.place (by omega)
    simp only [Option.some.injEq, Addr.mk.injEq, and_true] at e
    obtain ⟨rfl, rfl⟩ := e
    refine .inr ⟨b, off + seg, rfl, hb, fun k hk => ?_⟩
    rw [Nat.add_assoc, hc (seg + k) (by omega), ← ati_drop]
    simp [ati, hk]

set_option maxHeartbeats 8000000 in
set_option maxRecDepth 100000 in
theorem law6 (w : World) (a0 a1 a2 a3 : Option Addr) (n0 n1 n2 n3 c0 c1 c2 c3 : Nat) (ops es ws : List Int) (strs : List ByteArray)
    (s0 : Src w.heap.size w a0 n0 ops) (s1 : StrsIn w.heap.size w a1 n1 strs) (s2 : Src w.heap.size w a2 n2 es) (s3 : Src w.heap.size w a3 n3 ws)
    (m0 : n0 ≤ c0) (m0' : c0 ≤ 9223372036854775807) (m1 : n1 ≤ 9223372036854775807) (m2 : n2 ≤ 9223372036854775807) (m3 : n3 ≤ 9223372036854775807) :
    Calls Try.prog 6 #[.slice a0 n0 c0, .slice a1 n1 c1, .slice a2 n2 c2, .slice a3 n3 c3] w fun e w' => e = .returned (.bool true) ∧ Below w.heap.size w w' := by
  have HS0 := hide s0
  have HS1 := hide s1
  have HS2 := hide s2
  have HS3 := hide s3
  clear s0 s1 s2 s3
  obtain ⟨i0, hi, hz0, hz1, hz2⟩ := info_parts Try.info5
  have HI := hide hi
  have HI0 := hide hz0
  have HI1 := hide hz1
  have HI2 := hide hz2
  clear hi hz0 hz1 hz2
  go_enter Try.func6, Try.ntmps6
  go_wp2_with fail
  refine (bytes19_calls w.heap.size w a0 a1 a2 a3 n0 n1 n2 n3 c0 c1 c2 c3 strs (unhide HS1) (by omega) m1 m2 m3).mono ?_
  rintro e w' ⟨⟨b, rfl, hb⟩, hw⟩
  replace hw := hw.symm
  subst hw
  cases b with
  | false =>
    clear hb
    go_wp2_with fail
    go_ret
    exact ⟨rfl, Below.refl _ _⟩
  | true =>
    obtain ⟨l0, l1, l2, l3, hsz⟩ := hb rfl
    have HST := hide ((unhide HS1).small hsz)
    clear hb hsz HS1
    by_cases big : n0 ≤ 65536 ∧ n1 ≤ 65536
    · obtain ⟨b0, b1⟩ := big
      go_wp2_with fail
      refine (strsBytes_calls w.heap.size w a1 n1 c1 strs (unhide HST) l1).mono ?_
      rintro e w' ⟨⟨tt, rfl, ht⟩, hw⟩
      replace hw := hw.symm
      subst hw
      by_cases sum : n0 + n2 + n3 + tt ≤ 1048576
      · go_wp2_with (at_make; refine wpList_make_own _ rfl _ _ 22 rfl w.heap.size 5 i0 (.int .u8 0) 1 Try.underlying22 (unhide HI) (unhide HI0) (unhide HI1) _ _ _ 1 rfl rfl rfl (by rw [unhide HI2]; omega) (by unfold maxLen; omega) (Nat.le_refl _) ?_)
        intro w1 hown1 hgrow1
        have O1 : Own w.heap.size w1 (.slice (some ⟨w.heap.size, 0, none⟩) 0 1) [] := hown1
        have B1 : Below w.heap.size w w1 := (Below.refl _ w).grown hgrow1 (Nat.le_refl _) (fun k h => by cases h)
        have T1 : Tri w.heap.size w w1 (.slice (some ⟨w.heap.size, 0, none⟩) 0 1) (.slice none 0 0) (.slice none 0 0) [] [] [] :=
          ⟨O1, OwnI.nil _ _, OwnI.nil _ _, (Apart.nil _).symm, (Apart.nil _).symm, Apart.nil _, B1, B1.size⟩
        have HT1 := hide T1
        have hz1 := B1.size
        clear hown1 hgrow1 B1 T1
        go_wp2_with (at_builtin; refine wp_app_lit rfl _ _ rfl w.heap.size _ [] rfl O1 _ _ 1 1 [91] rfl rfl rfl (by simp) hz1 ?_)
        intro d2 w2 G2
        have T2 := (unhide HT1).out_grew G2
        replace T2 : Tri w.heap.size w w2 d2 (.slice none 0 0) (.slice none 0 0) [91] [] [] := by simpa using T2
        have O2 := T2.out
        have hz2 := T2.siz
        have HT2 := hide T2
        have HB2 := hide T2.bel
        clear G2 T2 O1 hz1 HT1
        go_wp2_with fail
        have KG := gap_calls w.heap.size w2 d2 [91] ws a3 n3 c3 0 O2 ((unhide HS3).carry (unhide HB2)) l3 (by omega) (by simp) hz2
        rw [show ((0 : Nat) : Int) = 0 from rfl] at KG
        refine KG.mono ?_
        rintro e w3 ⟨d3, g0, rfl, hg0, hg7, G3⟩
        have T3 := (unhide HT2).out_grew G3
        have A3 : Arr w w3 d3 (.slice none 0 0) (.slice none 0 0) 0 g0 [] := ⟨by simpa [flat, sts, ens] using T3, hg0, hg7, trivial, by simp [flat]⟩
        have HA := hide A3
        clear KG G3 T3 A3 HT2 O2 hz2 HB2 hg0 hg7
        have hcase : (decide (0 < n0) = true ∧ 1 ≤ n0) ∨ (decide (0 < n0) = false ∧ n0 ≤ 0) := by
          by_cases h : 0 < n0
          · left; exact ⟨by simp [h], h⟩
          · right; exact ⟨by simp [h], by omega⟩
        rcases hcase with ⟨tb, hn1⟩ | ⟨tb, hn1⟩
        · clear hn1
          have hn1 : 1 ≤ n0 := of_decide_eq_true tb
          go_upto_if 64 with fail
          go_cut [9, 11, 12] (fun u s e wc => ∃ (seg : Nat) (g0 : List Int) (els : List El), seg ≤ 65537 ∧ els.length ≤ 65537 ∧ Arr w wc u s e seg g0 els)
          case first =>
            go_wp2_with fail
            go_loopg [9, 10, 11, 12, 13, 14, 15] (n0 + 1) (fun gk u g s e q p i wr => ∃ (j gg seg si : Nat) (g0 : List Int) (els : List El), i = .int .i64 j ∧ g = .int .i64 gg ∧ q = .int .i64 seg ∧ p = .int .i64 si ∧ j ≤ n0 + 1 ∧ n0 + 1 ≤ gk + j ∧ gg ≤ 2 * j + 1 ∧ seg ≤ j ∧ si ≤ n1 ∧ els.length ≤ j ∧ Arr w wr u s e seg g0 els)
            case atStart => exact ⟨0, 1, 0, 0, g0, [], rfl, rfl, rfl, rfl, by omega, by omega, by omega, by omega, by omega, by simp, unhide HA⟩
            case round =>
              obtain ⟨j, gg, seg, si, g0, els, rfl, rfl, rfl, rfl, hj, hgk, hgg, hseg, hsi, hels, hA⟩ := hrel
              clear HA
              have HA := hide hA
              have hbel := hA.tri.bel
              have hzr := hA.tri.siz
              have hsize := hA.size
              have hg7 := hA.gap7
              by_cases hjn : j ≤ n0
              · obtain ⟨bo, offo, hao, hboB, hcello⟩ := ((unhide HS0).carry hbel).place (by omega)
                subst hao
                have HCO := hide hcello
                clear hcello
                by_cases cont : j < n0 ∧ ati ops j ≠ 255
                · have hjl := cont.1
                  have hc := unhide HCO j cont.1
                  have tc : (ati ops j != 255) = true := by simp [cont.2]
                  clear cont hA
                  go_wp2_with fail
                  go_roundg (gk - 1)
                  case measure => omega
                  case rel => exact ⟨j + 1, gg, seg, si, g0, els, by go_num, rfl, rfl, rfl, by omega, by omega, by omega, by omega, hsi, by omega, unhide HA⟩
                · have hpart : (n0 ≤ j) ∨ (j < n0 ∧ wr.cell? ⟨bo, offo + j, none⟩ = some (.int .u8 (ati ops j)) ∧ (ati ops j != 255) = false) := by
                    by_cases h1 : j < n0
                    · right
                      refine ⟨h1, unhide HCO j h1, ?_⟩
                      by_cases h2 : ati ops j = 255
                      · simp [h2]
                      · exact absurd ⟨h1, h2⟩ cont
                    · left; omega
                  obtain ⟨E, hE⟩ : ∃ E, E = els.length := ⟨_, rfl⟩
                  obtain ⟨sa, scap, es1, _, hsmx⟩ := hA.tri.one.form
                  rw [sts_length, ← hE] at es1
                  rw [← hE] at hels
                  subst es1
                  have HE := hide hE
                  unfold maxLen at hsmx
                  clear cont hE hA
                  by_cases hsc : c0 = seg
                  · subst hsc
                    have hp : n0 ≤ j := by omega
                    clear hpart
                    go_upto_if 84 with fail
                    go_cut [9, 10] (fun u g wc => ∃ (lead : List Int) (g2 : Nat), g = .int .i64 g2 ∧ g2 ≤ 2 * j + 2 ∧ Lead els lead ∧ lead.length ≤ 8 ∧ Tri w.heap.size w wc u (.slice sa E scap) u12 (91 :: (g0 ++ (flat els ++ lead))) (sts (1 + g0.length) els) (ens (1 + g0.length) els))
                    case first =>
                      have hO := (unhide HA).tri.out
                      have hOl : (91 :: (g0 ++ flat els)).length = 1 + g0.length + (flat els).length := by simp; omega
                      by_cases hE0 : E = 0
                      · have hels0 : els = [] := List.eq_nil_of_length_eq_zero (by have := unhide HE; omega)
                        have HE0 := hide hels0
                        clear hels0 hO hOl
                        subst hE0
                        go_wp2_with fail
                        go_meet
                        case rel => exact ⟨[], gg, rfl, by omega, .inl ⟨unhide HE0, rfl⟩, by simp, by simpa using (unhide HA).tri⟩
                      · have hE1 : 0 < E := by omega
                        have hne : els ≠ [] := by intro h; have := unhide HE; rw [h] at this; simp at this; omega
                        have HNE := hide hne
                        have HOL := hide hOl
                        clear hE0 hne hOl
                        go_wp2_with (at_builtin; refine wp_app_lit rfl _ _ rfl w.heap.size _ (91 :: (g0 ++ flat els)) rfl hO _ _ 1 1 [44] rfl rfl rfl (by rw [unhide HOL]; omega) hzr ?_)
                        intro d4 w4 G4
                        have T4 := (unhide HA).tri.out_grew G4
                        replace T4 : Tri w.heap.size w w4 d4 (.slice sa E scap) u12 (91 :: (g0 ++ (flat els ++ [44]))) (sts (1 + g0.length) els) (ens (1 + g0.length) els) := by simpa using T4
                        have O4 := T4.out
                        have hz4 := T4.siz
                        have HT4 := hide T4
                        have HB4 := hide T4.bel
                        clear G4 T4 hO
                        go_wp2_with fail
                        refine (gap_calls w.heap.size w4 d4 _ ws a3 n3 c3 gg O4 ((unhide HS3).carry (unhide HB4)) l3 (by omega) (by simp; omega) hz4).mono ?_
                        rintro e w5 ⟨d5, gs, rfl, hgs, hgs7, G5⟩
                        have T5 := (unhide HT4).out_grew G5
                        replace T5 : Tri w.heap.size w w5 d5 (.slice sa E scap) u12 (91 :: (g0 ++ (flat els ++ (44 :: gs)))) (sts (1 + g0.length) els) (ens (1 + g0.length) els) := by simpa using T5
                        have HT5 := hide T5
                        have HGS := hide hgs
                        clear G5 T5 HT4 HB4 O4 hgs
                        go_wp2_with fail
                        go_meet
                        case rel => exact ⟨44 :: gs, gg + 1, by go_num, by omega, .inr ⟨unhide HNE, gs, rfl, unhide HGS⟩, by simp; omega, unhide HT5⟩
                    case rest =>
                      obtain ⟨lead, g2, rfl, hg2, hlead, hl8, hT⟩ := hcut
                      obtain ⟨L, hL⟩ : ∃ L, L = 1 + g0.length + (flat els).length + lead.length := ⟨_, rfl⟩
                      have hOl : (91 :: (g0 ++ (flat els ++ lead))).length = L := by rw [hL]; simp; omega
                      obtain ⟨ba, bcap, eb, _, hbmx⟩ := hT.out.form
                      rw [hOl] at eb
                      subst eb
                      unfold maxLen at hbmx
                      have hLb : L ≤ 16 + 16777300 * j := by omega
                      have hone := hT.one
                      have hzT := hT.siz
                      have HT := hide hT
                      have HL := hide hL
                      have HLD := hide hlead
                      have hsl : (sts (1 + g0.length) els).length = E := by rw [sts_length]; exact (unhide HE).symm
                      have HSL := hide hsl
                      have HOl := hide hOl
                      clear hT hL hlead hsl hbel hzr hOl
                      go_wp2_with (at_builtin; refine wp_appI_lit rfl _ _ rfl w.heap.size _ (sts (1 + g0.length) els) rfl hone (L : Int) _ 1 rfl (by rw [unhide HSL]; omega) hzT ?_)
                      intro s6 w6 G6
                      have T6 := (unhide HT).one_grew G6
                      have O6 := T6.out
                      have hz6 := T6.siz
                      have HT6 := hide T6
                      have HB6 := hide T6.bel
                      clear G6 T6 hone hzT HT
                      go_wp2_with fail
                      refine (build_calls w.heap.size w6 _ (91 :: (g0 ++ (flat els ++ lead))) ((ops.drop c0).take (j - c0)) es strs _ a1 a2 (j - c0) n1 n2 _ c1 c2 si O6 ?_ ((unhide HST).carry (unhide HB6)) ((unhide HS2).carry (unhide HB6)) (by omega) l1 l2 hsi (by rw [unhide HOl]; omega) hz6).mono ?_
                      · first
                          | exact ((unhide HS0).carry (unhide HB6)).cut (by omega) (by omega)
                          | exact Src.void (by omega)
                      · rintro e w7 ⟨v7, si7, rfl, hsi7, ys, hv, hyl, G7⟩
                        have T7 := (unhide HT6).out_grew G7
                        replace T7 : Tri w.heap.size w w7 v7 s6 u12 (91 :: (g0 ++ (flat els ++ (lead ++ ys)))) (sts (1 + g0.length) els ++ [(L : Int)]) (ens (1 + g0.length) els) := by simpa using T7
                        obtain ⟨M, hM⟩ : ∃ M, M = L + ys.length := ⟨_, rfl⟩
                        have hMl : (91 :: (g0 ++ (flat els ++ (lead ++ ys)))).length = M := by rw [hM, unhide HL]; simp; omega
                        obtain ⟨ma, mcap, em, _, hmmx⟩ := T7.out.form
                        rw [hMl] at em
                        subst em
                        unfold maxLen at hmmx
                        have hMb : M ≤ 16 + 16777300 * j + 16777216 * (j - c0 + 1) := by omega
                        have hM9 : M ≤ 9000000000000 := bound1 hMb hjn b0
                        have htwo := T7.two
                        have hz7 := T7.siz
                        have hel : (ens (1 + g0.length) els).length = E := by rw [ens_length]; exact (unhide HE).symm
                        have HEL := hide hel
                        have HT7 := hide T7
                        have HM := hide hM
                        have HMl := hide hMl
                        have HV := hide hv
                        clear G7 T7 hel hM hMl hv HT6 HB6 O6 hz6
                        go_wp2_with (at_builtin; refine wp_appI_lit rfl _ _ rfl w.heap.size _ (ens (1 + g0.length) els) rfl htwo (M : Int) _ 1 rfl (by rw [unhide HEL]; omega) hz7 ?_)
                        intro e8 w8 G8
                        have T8 := (unhide HT7).two_grew G8
                        have O8 := T8.out
                        have hz8 := T8.siz
                        have HT8 := hide T8
                        have HB8 := hide T8.bel
                        clear G8 T8 htwo hz7 HT7
                        go_wp2_with fail
                        refine (gap_calls w.heap.size w8 _ _ ws a3 n3 c3 g2 O8 ((unhide HS3).carry (unhide HB8)) l3 (by omega) (Nat.le_trans (Nat.le_of_eq (unhide HMl)) hM9) hz8).mono ?_
                        rintro e w9 ⟨d9, gs, rfl, hgs, hgs7, G9⟩
                        have T9 := (unhide HT8).out_grew G9
                        replace T9 : Tri w.heap.size w w9 d9 s6 e8 (91 :: (g0 ++ (flat els ++ (lead ++ (ys ++ gs))))) (sts (1 + g0.length) els ++ [((1 + g0.length + (flat els).length + lead.length : Nat) : Int)]) (ens (1 + g0.length) els ++ [((1 + g0.length + (flat els).length + lead.length + ys.length : Nat) : Int)]) := by
                          rw [← unhide HL, ← unhide HM]; simpa using T9
                        have R := hide (Arr.next (seg := c0) (seg' := j + 1) (unhide HA).gap (unhide HA).gap7 (unhide HA).good (unhide HA).size T9 (unhide HLD) hl8 (unhide HV) (by rw [show j + 1 - c0 = j - c0 + 1 from by omega]; exact hyl) hgs hgs7 (by omega))
                        clear G9 T9 HT8 HB8 O8 hz8 hgs
                        go_wp2_with fail
                        go_roundg (gk - 1)
                        case measure => omega
                        case rel => exact ⟨j + 1, g2 + 1, j + 1, si7, g0, _, by go_num, by go_num, by go_num, rfl, by omega, by omega, by omega, by omega, hsi7, by simp; have := unhide HE; omega, unhide R⟩
                  · have hsc2 : seg < c0 := by omega
                    clear hsc
                    rcases hpart with hp | ⟨hp, hpc, hp2⟩
                    all_goals
                      go_upto_if 84 with fail
                      go_cut [9, 10] (fun u g wc => ∃ (lead : List Int) (g2 : Nat), g = .int .i64 g2 ∧ g2 ≤ 2 * j + 2 ∧ Lead els lead ∧ lead.length ≤ 8 ∧ Tri w.heap.size w wc u (.slice sa E scap) u12 (91 :: (g0 ++ (flat els ++ lead))) (sts (1 + g0.length) els) (ens (1 + g0.length) els))
                      case first =>
                        have hO := (unhide HA).tri.out
                        have hOl : (91 :: (g0 ++ flat els)).length = 1 + g0.length + (flat els).length := by simp; omega
                        by_cases hE0 : E = 0
                        · have hels0 : els = [] := List.eq_nil_of_length_eq_zero (by have := unhide HE; omega)
                          have HE0 := hide hels0
                          clear hels0 hO hOl
                          subst hE0
                          go_wp2_with fail
                          go_meet
                          case rel => exact ⟨[], gg, rfl, by omega, .inl ⟨unhide HE0, rfl⟩, by simp, by simpa using (unhide HA).tri⟩
                        · have hE1 : 0 < E := by omega
                          have hne : els ≠ [] := by intro h; have := unhide HE; rw [h] at this; simp at this; omega
                          have HNE := hide hne
                          have HOL := hide hOl
                          clear hE0 hne hOl
                          go_wp2_with (at_builtin; refine wp_app_lit rfl _ _ rfl w.heap.size _ (91 :: (g0 ++ flat els)) rfl hO _ _ 1 1 [44] rfl rfl rfl (by rw [unhide HOL]; omega) hzr ?_)
                          intro d4 w4 G4
                          have T4 := (unhide HA).tri.out_grew G4
                          replace T4 : Tri w.heap.size w w4 d4 (.slice sa E scap) u12 (91 :: (g0 ++ (flat els ++ [44]))) (sts (1 + g0.length) els) (ens (1 + g0.length) els) := by simpa using T4
                          have O4 := T4.out
                          have hz4 := T4.siz
                          have HT4 := hide T4
                          have HB4 := hide T4.bel
                          clear G4 T4 hO
                          go_wp2_with fail
                          refine (gap_calls w.heap.size w4 d4 _ ws a3 n3 c3 gg O4 ((unhide HS3).carry (unhide HB4)) l3 (by omega) (by simp; omega) hz4).mono ?_
                          rintro e w5 ⟨d5, gs, rfl, hgs, hgs7, G5⟩
                          have T5 := (unhide HT4).out_grew G5
                          replace T5 : Tri w.heap.size w w5 d5 (.slice sa E scap) u12 (91 :: (g0 ++ (flat els ++ (44 :: gs)))) (sts (1 + g0.length) els) (ens (1 + g0.length) els) := by simpa using T5
                          have HT5 := hide T5
                          have HGS := hide hgs
                          clear G5 T5 HT4 HB4 O4 hgs
                          go_wp2_with fail
                          go_meet
                          case rel => exact ⟨44 :: gs, gg + 1, by go_num, by omega, .inr ⟨unhide HNE, gs, rfl, unhide HGS⟩, by simp; omega, unhide HT5⟩
                      case rest =>
                        obtain ⟨lead, g2, rfl, hg2, hlead, hl8, hT⟩ := hcut
                        obtain ⟨L, hL⟩ : ∃ L, L = 1 + g0.length + (flat els).length + lead.length := ⟨_, rfl⟩
                        have hOl : (91 :: (g0 ++ (flat els ++ lead))).length = L := by rw [hL]; simp; omega
                        obtain ⟨ba, bcap, eb, _, hbmx⟩ := hT.out.form
                        rw [hOl] at eb
                        subst eb
                        unfold maxLen at hbmx
                        have hLb : L ≤ 16 + 16777300 * j := by omega
                        have hone := hT.one
                        have hzT := hT.siz
                        have HT := hide hT
                        have HL := hide hL
                        have HLD := hide hlead
                        have hsl : (sts (1 + g0.length) els).length = E := by rw [sts_length]; exact (unhide HE).symm
                        have HSL := hide hsl
                        have HOl := hide hOl
                        clear hT hL hlead hsl hbel hzr hOl
                        go_wp2_with (at_builtin; refine wp_appI_lit rfl _ _ rfl w.heap.size _ (sts (1 + g0.length) els) rfl hone (L : Int) _ 1 rfl (by rw [unhide HSL]; omega) hzT ?_)
                        intro s6 w6 G6
                        have T6 := (unhide HT).one_grew G6
                        have O6 := T6.out
                        have hz6 := T6.siz
                        have HT6 := hide T6
                        have HB6 := hide T6.bel
                        clear G6 T6 hone hzT HT
                        go_wp2_with fail
                        refine (build_calls w.heap.size w6 _ (91 :: (g0 ++ (flat els ++ lead))) ((ops.drop seg).take (j - seg)) es strs _ a1 a2 (j - seg) n1 n2 _ c1 c2 si O6 ?_ ((unhide HST).carry (unhide HB6)) ((unhide HS2).carry (unhide HB6)) (by omega) l1 l2 hsi (by rw [unhide HOl]; omega) hz6).mono ?_
                        · first
                            | exact ((unhide HS0).carry (unhide HB6)).cut (by omega) (by omega)
                            | exact Src.void (by omega)
                        · rintro e w7 ⟨v7, si7, rfl, hsi7, ys, hv, hyl, G7⟩
                          have T7 := (unhide HT6).out_grew G7
                          replace T7 : Tri w.heap.size w w7 v7 s6 u12 (91 :: (g0 ++ (flat els ++ (lead ++ ys)))) (sts (1 + g0.length) els ++ [(L : Int)]) (ens (1 + g0.length) els) := by simpa using T7
                          obtain ⟨M, hM⟩ : ∃ M, M = L + ys.length := ⟨_, rfl⟩
                          have hMl : (91 :: (g0 ++ (flat els ++ (lead ++ ys)))).length = M := by rw [hM, unhide HL]; simp; omega
                          obtain ⟨ma, mcap, em, _, hmmx⟩ := T7.out.form
                          rw [hMl] at em
                          subst em
                          unfold maxLen at hmmx
                          have hMb : M ≤ 16 + 16777300 * j + 16777216 * (j - seg + 1) := by omega
                          have hM9 : M ≤ 9000000000000 := bound1 hMb hjn b0
                          have htwo := T7.two
                          have hz7 := T7.siz
                          have hel : (ens (1 + g0.length) els).length = E := by rw [ens_length]; exact (unhide HE).symm
                          have HEL := hide hel
                          have HT7 := hide T7
                          have HM := hide hM
                          have HMl := hide hMl
                          have HV := hide hv
                          clear G7 T7 hel hM hMl hv HT6 HB6 O6 hz6
                          go_wp2_with (at_builtin; refine wp_appI_lit rfl _ _ rfl w.heap.size _ (ens (1 + g0.length) els) rfl htwo (M : Int) _ 1 rfl (by rw [unhide HEL]; omega) hz7 ?_)
                          intro e8 w8 G8
                          have T8 := (unhide HT7).two_grew G8
                          have O8 := T8.out
                          have hz8 := T8.siz
                          have HT8 := hide T8
                          have HB8 := hide T8.bel
                          clear G8 T8 htwo hz7 HT7
                          go_wp2_with fail
                          refine (gap_calls w.heap.size w8 _ _ ws a3 n3 c3 g2 O8 ((unhide HS3).carry (unhide HB8)) l3 (by omega) (Nat.le_trans (Nat.le_of_eq (unhide HMl)) hM9) hz8).mono ?_
                          rintro e w9 ⟨d9, gs, rfl, hgs, hgs7, G9⟩
                          have T9 := (unhide HT8).out_grew G9
                          replace T9 : Tri w.heap.size w w9 d9 s6 e8 (91 :: (g0 ++ (flat els ++ (lead ++ (ys ++ gs))))) (sts (1 + g0.length) els ++ [((1 + g0.length + (flat els).length + lead.length : Nat) : Int)]) (ens (1 + g0.length) els ++ [((1 + g0.length + (flat els).length + lead.length + ys.length : Nat) : Int)]) := by
                            rw [← unhide HL, ← unhide HM]; simpa using T9
                          have R := hide (Arr.next (seg := seg) (seg' := j + 1) (unhide HA).gap (unhide HA).gap7 (unhide HA).good (unhide HA).size T9 (unhide HLD) hl8 (unhide HV) (by rw [show j + 1 - seg = j - seg + 1 from by omega]; exact hyl) hgs hgs7 (by omega))
                          clear G9 T9 HT8 HB8 O8 hz8 hgs
                          go_wp2_with fail
                          go_roundg (gk - 1)
                          case measure => omega
                          case rel => exact ⟨j + 1, g2 + 1, j + 1, si7, g0, _, by go_num, by go_num, by go_num, rfl, by omega, by omega, by omega, by omega, hsi7, by simp; have := unhide HE; omega, unhide R⟩
              · clear hA
                go_wp2_with fail
                go_meet
                case rel => exact ⟨seg, g0, els, by omega, by omega, unhide HA⟩
          case rest =>
            obtain ⟨seg, g0, els, hseg, hels, hA⟩ := hcut
            have hgap := hA.gap
            have hgood := hA.good
            have hT := hA.tri
            have hsz := hA.size
            have hg7 := hA.gap7
            have hNb : 2 + g0.length + (flat els).length ≤ 9000000000000 := bound2 hsz hseg hg7
            have hOl : (91 :: (g0 ++ flat els)).length = 1 + g0.length + (flat els).length := by simp; omega
            have hO := hT.out
            have hz := hT.siz
            have HT := hide hT
            have HGP := hide hgap
            have HGD := hide hgood
            have hOb : (91 :: (g0 ++ flat els)).length + 1 ≤ 140737488355328 := by rw [hOl]; omega
            clear hA hT hgap hgood hsz hOl HA
            go_wp2_with (at_builtin; refine wp_app_lit rfl _ _ rfl w.heap.size _ (91 :: (g0 ++ flat els)) rfl hO _ _ 1 1 [93] rfl rfl rfl hOb hz ?_)
            intro d5 w5 G5
            have T5 := (unhide HT).out_grew G5
            replace T5 : Tri w.heap.size w w5 d5 u11 u12 (whole g0 els) (sts (1 + g0.length) els) (ens (1 + g0.length) els) := by
              have e : whole g0 els = 91 :: (g0 ++ (flat els ++ [93])) := rfl
              rw [e]; simpa using T5
            obtain ⟨N, hN⟩ : ∃ N, N = 2 + g0.length + (flat els).length := ⟨_, rfl⟩
            have hlen : (whole g0 els).length = N := by rw [whole_length]; exact hN.symm
            obtain ⟨gb, bcap, eb, _, _, hbcap, hbmx, hcell⟩ := T5.out.solid (by rw [hlen]; omega)
            rw [hlen] at eb hbcap hcell
            subst eb
            unfold maxLen at hbmx
            obtain ⟨E, hE⟩ : ∃ E, E = els.length := ⟨_, rfl⟩
            obtain ⟨sa, scap, es1, _, hsmx⟩ := T5.one.form
            obtain ⟨ea, ecap, ee1, _, hemx⟩ := T5.two.form
            rw [sts_length, ← hE] at es1
            rw [ens_length, ← hE] at ee1
            subst es1 ee1
            unfold maxLen at hsmx hemx
            rw [← hE] at hels
            have hNb2 : N ≤ 9000000000000 := by rw [hN]; exact hNb
            have hcell' : ∀ k, k < N → w5.cell? ⟨gb, 0 + k, none⟩ = some (.int .u8 (ati (whole g0 els) k)) := fun k hk => by rw [Nat.zero_add]; exact hcell k hk
            have K0 := visit_first (cap := bcap) hlen (by omega) hcell' (unhide HGP) (unhide HGD)
            rw [show ((1 : Nat) : Int) = 1 from rfl] at K0
            have HK0 := hide K0
            have HCL := hide hcell'
            have HLN := hide hlen
            have HT5 := hide T5
            have HB5 := hide T5.bel
            have HE := hide hE
            have HN := hide hN
            clear G5 T5 hcell hcell' K0 hlen hE hN hO hz HT hOb hNb
            go_wp2_with fail
            refine (unhide HK0).mono ?_
            rintro e wx ⟨rfl, hw⟩
            replace hw := hw.symm
            subst hw
            go_wp2_with fail
            go_loopg [16, 17] E (fun gk i q wr => ∃ (a r : List El), q = .int .i64 (a.length : Nat) ∧ i = .int .i64 (pos g0 a r : Nat) ∧ E ≤ gk + a.length ∧ Hid (els = a ++ r) ∧ w5 = wr)
            case atStart => exact ⟨[], els, rfl, rfl, by simp, rfl, rfl⟩
            case round =>
              obtain ⟨a, r, rfl, rfl, hgk2, hel, rfl⟩ := hrel
              cases r with
              | nil =>
                have hal : a.length = E := by rw [unhide HE, hel.out]; simp
                have hp1 : pos g0 a [] + 1 = N := by
                  have h1 := unhide HN
                  have h2 := hel.out
                  rw [List.append_nil] at h2
                  rw [pos_nil, h1, h2]; omega
                obtain ⟨A, hA⟩ : ∃ A, A = a.length := ⟨_, rfl⟩
                obtain ⟨P, hP⟩ : ∃ P, P = pos g0 a [] := ⟨_, rfl⟩
                rw [← hA] at hal ⊢
                rw [← hP] at hp1 ⊢
                have hal1 : A ≤ E := by omega
                have hal2 : E ≤ A := by omega
                have hp2 : P + 1 ≤ N := by omega
                have hp3 : N ≤ P + 1 := by omega
                clear hal hp1 hA hP
                go_wp2_with fail
                go_ret
                exact ⟨by simp; omega, unhide HB5⟩
              | cons x r =>
                have hel' := hel.out
                have hal : a.length < E := by rw [unhide HE, hel']; simp
                have T5' := unhide HT5
                rw [hel'] at T5'
                have hlen' := unhide HLN
                rw [hel'] at hlen'
                have hcl' := unhide HCL
                rw [hel'] at hcl'
                have hgd' := unhide HGD
                rw [hel'] at hgd'
                have K1 := visit_value (cap := bcap) hlen' (by omega) hcl' (unhide HGP) hgd'
                have K2 := visit_next (cap := bcap) hlen' (by omega) hcl' hgd'
                obtain ⟨gs, scap', es2, _, _, _, _, hsc⟩ := T5'.one.solid (by rw [sts_length]; simp; omega)
                obtain ⟨ge, ecap', ee2, _, _, _, _, hec⟩ := T5'.two.solid (by rw [ens_length]; simp; omega)
                have hs1 := hsc a.length (by rw [sts_length]; simp)
                have he1 := hec a.length (by rw [ens_length]; simp)
                rw [pos_at_start] at hs1
                rw [pos_at_end] at he1
                simp only [Value.slice.injEq] at es2 ee2
                obtain ⟨e2a, e2c, e2d⟩ := es2
                obtain ⟨e2b, e2e, e2f⟩ := ee2
                clear e2c e2d e2e e2f
                subst e2a e2b
                have hpl := pos_le g0 a r x
                rw [hlen'] at hpl
                obtain ⟨A, hA⟩ : ∃ A, A = a.length := ⟨_, rfl⟩
                obtain ⟨P, hP⟩ : ∃ P, P = pos g0 a (x :: r) := ⟨_, rfl⟩
                obtain ⟨V, hV⟩ : ∃ V, V = x.2.1.length := ⟨_, rfl⟩
                rw [← hA] at hal hs1 he1 hgk2 ⊢
                rw [← hP] at K1 K2 hs1 he1 hpl ⊢
                rw [← hV] at K1 K2 he1 hpl
                rw [show ((P + V : Nat) : Int) = (P : Int) + V from by omega] at he1 K1 K2
                have HK1 := hide K1
                have HK2 := hide K2
                have hel2 : els = (a ++ [x]) ++ r := by rw [hel']; simp
                have HEL2 := hide hel2
                have hA2 : (a ++ [x]).length = A + 1 := by rw [hA]; simp
                have HA2 := hide hA2
                clear K1 K2 T5' hlen' hcl' hgd' hsc hec hel' hA hP hV hel2 hA2
                go_wp2_with fail
                refine (unhide HK1).mono ?_
                rintro e wx ⟨rfl, hw⟩
                replace hw := hw.symm
                subst hw
                go_wp2_with fail
                refine (unhide HK2).mono ?_
                rintro e wx ⟨rfl, hw⟩
                replace hw := hw.symm
                subst hw
                go_wp2_with fail
                go_roundg (gk - 1)
                case measure => omega
                case rel => exact ⟨a ++ [x], r, by rw [HA2.out]; go_num, rfl, by rw [HA2.out]; omega, HEL2, rfl⟩
        · clear hn1
          have hn1 : n0 ≤ 0 := by have := of_decide_eq_false tb; omega
          go_upto_if 64 with fail
          go_cut [9, 11, 12] (fun u s e wc => ∃ (seg : Nat) (g0 : List Int) (els : List El), seg ≤ 65537 ∧ els.length ≤ 65537 ∧ Arr w wc u s e seg g0 els)
          case first =>
            go_wp2_with fail
            go_meet
            case rel => exact ⟨0, g0, [], by omega, by simp, unhide HA⟩
          case rest =>
            obtain ⟨seg, g0, els, hseg, hels, hA⟩ := hcut
            have hgap := hA.gap
            have hgood := hA.good
            have hT := hA.tri
            have hsz := hA.size
            have hg7 := hA.gap7
            have hNb : 2 + g0.length + (flat els).length ≤ 9000000000000 := bound2 hsz hseg hg7
            have hOl : (91 :: (g0 ++ flat els)).length = 1 + g0.length + (flat els).length := by simp; omega
            have hO := hT.out
            have hz := hT.siz
            have HT := hide hT
            have HGP := hide hgap
            have HGD := hide hgood
            have hOb : (91 :: (g0 ++ flat els)).length + 1 ≤ 140737488355328 := by rw [hOl]; omega
            clear hA hT hgap hgood hsz hOl HA
            go_wp2_with (at_builtin; refine wp_app_lit rfl _ _ rfl w.heap.size _ (91 :: (g0 ++ flat els)) rfl hO _ _ 1 1 [93] rfl rfl rfl hOb hz ?_)
            intro d5 w5 G5
            have T5 := (unhide HT).out_grew G5
            replace T5 : Tri w.heap.size w w5 d5 u11 u12 (whole g0 els) (sts (1 + g0.length) els) (ens (1 + g0.length) els) := by
              have e : whole g0 els = 91 :: (g0 ++ (flat els ++ [93])) := rfl
              rw [e]; simpa using T5
            obtain ⟨N, hN⟩ : ∃ N, N = 2 + g0.length + (flat els).length := ⟨_, rfl⟩
            have hlen : (whole g0 els).length = N := by rw [whole_length]; exact hN.symm
            obtain ⟨gb, bcap, eb, _, _, hbcap, hbmx, hcell⟩ := T5.out.solid (by rw [hlen]; omega)
            rw [hlen] at eb hbcap hcell
            subst eb
            unfold maxLen at hbmx
            obtain ⟨E, hE⟩ : ∃ E, E = els.length := ⟨_, rfl⟩
            obtain ⟨sa, scap, es1, _, hsmx⟩ := T5.one.form
            obtain ⟨ea, ecap, ee1, _, hemx⟩ := T5.two.form
            rw [sts_length, ← hE] at es1
            rw [ens_length, ← hE] at ee1
            subst es1 ee1
            unfold maxLen at hsmx hemx
            rw [← hE] at hels
            have hNb2 : N ≤ 9000000000000 := by rw [hN]; exact hNb
            have hcell' : ∀ k, k < N → w5.cell? ⟨gb, 0 + k, none⟩ = some (.int .u8 (ati (whole g0 els) k)) := fun k hk => by rw [Nat.zero_add]; exact hcell k hk
            have K0 := visit_first (cap := bcap) hlen (by omega) hcell' (unhide HGP) (unhide HGD)
            rw [show ((1 : Nat) : Int) = 1 from rfl] at K0
            have HK0 := hide K0
            have HCL := hide hcell'
            have HLN := hide hlen
            have HT5 := hide T5
            have HB5 := hide T5.bel
            have HE := hide hE
            have HN := hide hN
            clear G5 T5 hcell hcell' K0 hlen hE hN hO hz HT hOb hNb
            go_wp2_with fail
            refine (unhide HK0).mono ?_
            rintro e wx ⟨rfl, hw⟩
            replace hw := hw.symm
            subst hw
            go_wp2_with fail
            go_loopg [16, 17] E (fun gk i q wr => ∃ (a r : List El), q = .int .i64 (a.length : Nat) ∧ i = .int .i64 (pos g0 a r : Nat) ∧ E ≤ gk + a.length ∧ Hid (els = a ++ r) ∧ w5 = wr)
            case atStart => exact ⟨[], els, rfl, rfl, by simp, rfl, rfl⟩
            case round =>
              obtain ⟨a, r, rfl, rfl, hgk2, hel, rfl⟩ := hrel
              cases r with
              | nil =>
                have hal : a.length = E := by rw [unhide HE, hel.out]; simp
                have hp1 : pos g0 a [] + 1 = N := by
                  have h1 := unhide HN
                  have h2 := hel.out
                  rw [List.append_nil] at h2
                  rw [pos_nil, h1, h2]; omega
                obtain ⟨A, hA⟩ : ∃ A, A = a.length := ⟨_, rfl⟩
                obtain ⟨P, hP⟩ : ∃ P, P = pos g0 a [] := ⟨_, rfl⟩
                rw [← hA] at hal ⊢
                rw [← hP] at hp1 ⊢
                have hal1 : A ≤ E := by omega
                have hal2 : E ≤ A := by omega
                have hp2 : P + 1 ≤ N := by omega
                have hp3 : N ≤ P + 1 := by omega
                clear hal hp1 hA hP
                go_wp2_with fail
                go_ret
                exact ⟨by simp; omega, unhide HB5⟩
              | cons x r =>
                have hel' := hel.out
                have hal : a.length < E := by rw [unhide HE, hel']; simp
                have T5' := unhide HT5
                rw [hel'] at T5'
                have hlen' := unhide HLN
                rw [hel'] at hlen'
                have hcl' := unhide HCL
                rw [hel'] at hcl'
                have hgd' := unhide HGD
                rw [hel'] at hgd'
                have K1 := visit_value (cap := bcap) hlen' (by omega) hcl' (unhide HGP) hgd'
                have K2 := visit_next (cap := bcap) hlen' (by omega) hcl' hgd'
                obtain ⟨gs, scap', es2, _, _, _, _, hsc⟩ := T5'.one.solid (by rw [sts_length]; simp; omega)
                obtain ⟨ge, ecap', ee2, _, _, _, _, hec⟩ := T5'.two.solid (by rw [ens_length]; simp; omega)
                have hs1 := hsc a.length (by rw [sts_length]; simp)
                have he1 := hec a.length (by rw [ens_length]; simp)
                rw [pos_at_start] at hs1
                rw [pos_at_end] at he1
                simp only [Value.slice.injEq] at es2 ee2
                obtain ⟨e2a, e2c, e2d⟩ := es2
                obtain ⟨e2b, e2e, e2f⟩ := ee2
                clear e2c e2d e2e e2f
                subst e2a e2b
                have hpl := pos_le g0 a r x
                rw [hlen'] at hpl
                obtain ⟨A, hA⟩ : ∃ A, A = a.length := ⟨_, rfl⟩
                obtain ⟨P, hP⟩ : ∃ P, P = pos g0 a (x :: r) := ⟨_, rfl⟩
                obtain ⟨V, hV⟩ : ∃ V, V = x.2.1.length := ⟨_, rfl⟩
                rw [← hA] at hal hs1 he1 hgk2 ⊢
                rw [← hP] at K1 K2 hs1 he1 hpl ⊢
                rw [← hV] at K1 K2 he1 hpl
                rw [show ((P + V : Nat) : Int) = (P : Int) + V from by omega] at he1 K1 K2
                have HK1 := hide K1
                have HK2 := hide K2
                have hel2 : els = (a ++ [x]) ++ r := by rw [hel']; simp
                have HEL2 := hide hel2
                have hA2 : (a ++ [x]).length = A + 1 := by rw [hA]; simp
                have HA2 := hide hA2
                clear K1 K2 T5' hlen' hcl' hgd' hsc hec hel' hA hP hV hel2 hA2
                go_wp2_with fail
                refine (unhide HK1).mono ?_
                rintro e wx ⟨rfl, hw⟩
                replace hw := hw.symm
                subst hw
                go_wp2_with fail
                refine (unhide HK2).mono ?_
                rintro e wx ⟨rfl, hw⟩
                replace hw := hw.symm
                subst hw
                go_wp2_with fail
                go_roundg (gk - 1)
                case measure => omega
                case rel => exact ⟨a ++ [x], r, by rw [HA2.out]; go_num, rfl, by rw [HA2.out]; omega, HEL2, rfl⟩
      · go_wp2_with fail
        go_ret
        exact ⟨rfl, Below.refl _ _⟩
    · go_wp2_with fail
      all_goals
        go_ret
        exact ⟨rfl, Below.refl _ _⟩
end Go.Proofs.Qxb6001598a
