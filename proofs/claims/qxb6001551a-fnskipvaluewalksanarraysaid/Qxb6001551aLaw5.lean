/-
  SEAT b6001551a. THE WALK of FnSkipValueWalksAnArray.
-/
import Derived.Test.Qxb6001551aBuilt
namespace Go.Proofs.Qxb6001551a
open Go.RowKit

/-- The array [v1, v2 ] is a container. -/
theorem array_box {a b : List Int} (ha : IsVal a) (hb : IsVal b) : Box (91 :: (a ++ 44 :: 32 :: (b ++ [32, 93]))) := by
  have t1 : Text [91] 1 := Text.start (.inr rfl)
  have t2 := ((t1.val (by omega) ha).comma (by omega)).val (by omega) hb
  have t3 : Text ([91] ++ a ++ [44, 32] ++ b ++ [32]) 1 := t2.more (by omega) (by rw [fold_cons, step_other (by decide) (by decide) (by decide) (by decide) (by decide)]; rfl) (fun x hx => by simp at hx; omega)
  have t4 := (t3.closes (c := 93) (by omega) (.inr rfl)).box
  have e : [91] ++ a ++ [44, 32] ++ b ++ [32] ++ [93] = 91 :: (a ++ 44 :: 32 :: (b ++ [32, 93])) := by simp
  rw [e] at t4; exact t4

set_option maxHeartbeats 2000000 in
set_option maxRecDepth 100000 in
theorem law5 (w : World) (a0 a1 a2 : Option Addr) (n0 n1 n2 c0 c1 c2 : Nat) (p1 p2 tl : List Int) (s0 : Src w.heap.size w a0 n0 p1) (s1 : Src w.heap.size w a1 n1 p2) (s2 : Src w.heap.size w a2 n2 tl)
    (z2 : a2 = none → c2 = 0) (m0 : n0 ≤ 9223372036854775807) (m1 : n1 ≤ 9223372036854775807) (m2 : n2 ≤ 9223372036854775807) :
    Calls Try.prog 5 #[.slice a0 n0 c0, .slice a1 n1 c1, .slice a2 n2 c2] w fun e w' => e = .returned (.bool true) ∧ Below w.heap.size w w' := by
  have Z2 := hide z2
  clear z2
  go_enter Try.func5, Try.ntmps5
  go_wp2_with fail
  refine (bytes15_calls w a0 a1 a2 n0 n1 n2 c0 c1 c2 m0 m1 m2).mono ?_
  rintro e w' ⟨⟨b, rfl, hb⟩, hw⟩
  replace hw := hw.symm
  subst hw
  cases b with
  | false =>
    clear hb
    go_wp2_with fail
    go_ret
    exact ⟨rfl, Below.refl _ _⟩
  | true =>
    have hb' := hb rfl
    clear hb
    by_cases big : n0 ≤ 16384 ∧ n1 ≤ 16384 ∧ n2 ≤ 262144
    · obtain ⟨b0, b1, b2⟩ := big
      go_wp2_with fail
      refine (build_calls w a0 n0 c0 p1 s0 (by omega)).mono ?_
      rintro e w1 ⟨v1, q1, ys1, rfl, hv1, hl1, O1, B1⟩
      have sz1 := B1.size
      go_wp2_with fail
      refine (build_calls w1 a1 n1 c1 p2 ((s1.carry B1).wide sz1) (by omega)).mono ?_
      rintro e w2 ⟨v2, q2, ys2, rfl, hv2, hl2, O2, B2⟩
      have O1' := O1.under B2
      have B12 := B1.trans (B2.mono sz1)
      have sz2 := B12.size
      have S3 := (s2.carry B12).wide sz2
      obtain ⟨ao1, cap1, e1, _, _⟩ := O1'.form
      obtain ⟨ao2, cap2, e2, _, _⟩ := O2.form
      obtain ⟨L1, hL1⟩ : ∃ L, L = ys1.length := ⟨_, rfl⟩
      obtain ⟨L2, hL2⟩ : ∃ L, L = ys2.length := ⟨_, rfl⟩
      rw [← hL1] at e1 hl1
      rw [← hL2] at e2 hl2
      subst e1 e2
      have Z1a : ao1 = none → cap1 = 0 := by
        intro h; subst h
        obtain ⟨g, c, e, _⟩ := O1'.solid hv1.pos
        simp at e
      have Z1b : ao2 = none → cap2 = 0 := by
        intro h; subst h
        obtain ⟨g, c, e, _⟩ := O2.solid hv2.pos
        simp at e
      have HS1 := hide (O1'.src hv1.bytes)
      have HS2 := hide (O2.src hv2.bytes)
      have HZ1 := hide Z1a
      have HZ2 := hide Z1b
      have HL1 := hide hL1
      have HL2 := hide hL2
      have HV1 := hide hv1
      have HV2 := hide hv2
      have HB12 := hide B12
      have HS3 := hide S3
      clear O1 O1' O2 B1 B2 B12 Z1a Z1b hL1 hL2 hv1 hv2 s0 s1 S3
      go_wp2_with (at_builtin; refine wp_app_lit rfl _ _ rfl w2.heap.size _ [] rfl (Own.nil _ _) _ _ 1 1 [91] rfl rfl rfl (by simp) (Nat.le_refl _) ?_)
      intro d1 x1 G1
      have C1 := G1.below (Own.nil _ _) (Nat.le_refl _)
      go_wp2_with (at_builtin; refine wp_app_src rfl _ _ rfl w2.heap.size w2.heap.size _ [91] rfl G1.own ao1 L1 cap1 ys1 rfl ((unhide HS1).carry C1) (unhide HZ1) (by simp; omega) C1.size ?_)
      intro d2 x2 G2
      have G12 := G1.trans G2
      have C2 := G12.below (Own.nil _ _) (Nat.le_refl _)
      clear G1 G2 C1
      replace G12 : Grew w2.heap.size w2 x2 (.slice none 0 0) d2 (91 :: ys1) := by simpa using G12
      obtain ⟨ad2, cp2, hv, _, _⟩ := G12.own.form
      have hE1 : (91 :: ys1).length = 1 + L1 := by simp; rw [unhide HL1]; omega
      rw [hE1] at hv
      subst hv
      have HE1 := hide hE1
      clear hE1
      go_wp2_with (at_builtin; refine wp_app_lit rfl _ _ rfl w2.heap.size _ (91 :: ys1) rfl G12.own _ _ 2 2 [44, 32] rfl rfl rfl (by rw [unhide HE1]; omega) C2.size ?_)
      intro d3 x3 G3
      have G13 := G12.trans G3
      have C3 := G13.below (Own.nil _ _) (Nat.le_refl _)
      clear G12 G3 C2
      replace G13 : Grew w2.heap.size w2 x3 (.slice none 0 0) d3 (91 :: (ys1 ++ [44, 32])) := by simpa using G13
      obtain ⟨ad3, cp3, hv, _, _⟩ := G13.own.form
      have hE2 : (91 :: (ys1 ++ [44, 32])).length = 3 + L1 := by simp; rw [unhide HL1]; omega
      rw [hE2] at hv
      subst hv
      have HE2 := hide hE2
      clear hE2
      go_wp2_with (at_builtin; refine wp_app_src rfl _ _ rfl w2.heap.size w2.heap.size _ (91 :: (ys1 ++ [44, 32])) rfl G13.own ao2 L2 cap2 ys2 rfl ((unhide HS2).carry C3) (unhide HZ2) (by rw [unhide HE2]; omega) C3.size ?_)
      intro d4 x4 G4
      have G14 := G13.trans G4
      have C4 := G14.below (Own.nil _ _) (Nat.le_refl _)
      clear G13 G4 C3
      replace G14 : Grew w2.heap.size w2 x4 (.slice none 0 0) d4 (91 :: (ys1 ++ 44 :: 32 :: ys2)) := by simpa using G14
      obtain ⟨ad4, cp4, hv, _, _⟩ := G14.own.form
      have hE3 : (91 :: (ys1 ++ 44 :: 32 :: ys2)).length = 3 + L1 + L2 := by simp; rw [unhide HL1, unhide HL2]; omega
      rw [hE3] at hv
      subst hv
      have HE3 := hide hE3
      clear hE3
      go_wp2_with (at_builtin; refine wp_app_lit rfl _ _ rfl w2.heap.size _ (91 :: (ys1 ++ 44 :: 32 :: ys2)) rfl G14.own _ _ 2 2 [32, 93] rfl rfl rfl (by rw [unhide HE3]; omega) C4.size ?_)
      intro d5 x5 G5
      have G15 := G14.trans G5
      have C5 := G15.below (Own.nil _ _) (Nat.le_refl _)
      clear G14 G5 C4
      replace G15 : Grew w2.heap.size w2 x5 (.slice none 0 0) d5 (91 :: (ys1 ++ 44 :: 32 :: (ys2 ++ [32, 93]))) := by simpa using G15
      obtain ⟨ad5, cp5, hv, _, _⟩ := G15.own.form
      have hE4 : (91 :: (ys1 ++ 44 :: 32 :: (ys2 ++ [32, 93]))).length = 5 + L1 + L2 := by simp; rw [unhide HL1, unhide HL2]; omega
      rw [hE4] at hv
      subst hv
      have HE4 := hide hE4
      clear hE4
      go_wp2_with (at_builtin; refine wp_app_src rfl _ _ rfl w2.heap.size w2.heap.size _ (91 :: (ys1 ++ 44 :: 32 :: (ys2 ++ [32, 93]))) rfl G15.own a2 n2 c2 tl rfl ((unhide HS3).carry C5) (unhide Z2) (by rw [unhide HE4]; omega) C5.size ?_)
      intro d6 x6 G6
      have G16 := G15.trans G6
      have C6 := G16.below (Own.nil _ _) (Nat.le_refl _)
      clear G15 G6 C5
      obtain ⟨D, hD⟩ : ∃ D, D = 91 :: (ys1 ++ 44 :: 32 :: (ys2 ++ 32 :: 93 :: tl)) := ⟨_, rfl⟩
      have O6 : Own w2.heap.size x6 d6 D := by have := G16.own; rw [hD]; simpa using this
      have hDl : D.length = 5 + L1 + L2 + n2 := by rw [hD]; simp; rw [unhide HL1, unhide HL2, s2.len]; omega
      have hDb : ∀ x ∈ D, 0 ≤ x ∧ x ≤ 255 := by
        intro x hx
        have e1 := (unhide HV1).bytes x
        have e2 := (unhide HV2).bytes x
        have e3 := s2.byte x
        rw [hD] at hx
        simp only [List.mem_append, List.mem_cons] at hx
        rcases hx with h | h | h | h | h | h | h | h
        · omega
        · exact e1 h
        · omega
        · omega
        · exact e2 h
        · omega
        · omega
        · exact e3 h
      have hDa : ∀ k, 0 ≤ ati D k ∧ ati D k ≤ 255 := by
        intro k
        by_cases hk : k < D.length
        · rw [ati_lt hk]; exact hDb _ (List.getElem_mem _)
        · have : ati D k = 0 := by simp [ati]; rw [List.getElem?_eq_none (by omega)]; rfl
          omega
      obtain ⟨g, cap6, hv, hg1, hg2, hcap6, hmx6, hcell⟩ := O6.solid (by omega)
      rw [hDl] at hv hcap6 hcell
      subst hv
      unfold maxLen at hmx6
      have hcell' : ∀ k, k < 5 + L1 + L2 + n2 → x6.cell? ⟨g, 0 + k, none⟩ = some (.int .u8 (ati D k)) := fun k hk => by rw [Nat.zero_add]; exact hcell k hk
      have hd1 : D.drop 1 = ys1 ++ 44 :: 32 :: (ys2 ++ 32 :: 93 :: tl) := by rw [hD]; rfl
      have hd2 : D.drop (3 + L1) = ys2 ++ 32 :: 93 :: tl := by
        rw [show 3 + L1 = 1 + (L1 + 2) from by omega, ← List.drop_drop, hd1, show L1 + 2 = ys1.length + 2 from by rw [unhide HL1], ← List.drop_drop, List.drop_left]; rfl
      have hd0 : D.drop 0 = (91 :: (ys1 ++ 44 :: 32 :: (ys2 ++ [32, 93]))) ++ tl := by rw [hD]; simp
      have K1 := skipV_val x6 g 0 (5 + L1 + L2 + n2) cap6 1 D ys1 _ hDl (by omega) hcell' hDa hd1 (unhide HV1) (.inr ⟨44, _, rfl, .inl rfl⟩)
      have K2 := skipV_val x6 g 0 (5 + L1 + L2 + n2) cap6 (3 + L1) D ys2 _ hDl (by omega) hcell' hDa hd2 (unhide HV2) (.inr ⟨32, _, rfl, .inr (.inr (.inr (.inl rfl)))⟩)
      have hbox := array_box (unhide HV1) (unhide HV2)
      have K0 := skipV_zz x6 _ 0 _ (skipV_box x6 g 0 (5 + L1 + L2 + n2) cap6 0 (5 + L1 + L2) D hDl (by omega) hcell' (by right; rw [hD]; rfl) ⟨_, tl, hd0, hbox.2.1, by rw [unhide HE4, Nat.zero_add]⟩)
      rw [← unhide HL1] at K1
      rw [← unhide HL2] at K2
      rw [show ((1 : Nat) : Int) = 1 from rfl] at K1
      rw [show ((0 : Nat) : Int) = 0 from rfl] at K0
      rw [show ((3 + L1 : Nat) : Int) = 3 + (L1 : Int) from by omega] at K2
      have HK1 := hide K1
      have HK2 := hide K2
      have HK0 := hide K0
      have HC6 := hide C6
      clear K0 K1 K2 hcell hcell' hd0 hd1 hd2 hDb hDa hD hDl O6 G16 hbox C6
      go_wp2_with fail
      refine (unhide HK1).mono ?_
      rintro e w' ⟨rfl, hw⟩
      replace hw := hw.symm
      subst hw
      go_wp2_with fail
      refine (unhide HK2).mono ?_
      rintro e w' ⟨rfl, hw⟩
      replace hw := hw.symm
      subst hw
      go_wp2_with fail
      refine (unhide HK0).mono ?_
      rintro e w' ⟨rfl, hw⟩
      replace hw := hw.symm
      subst hw
      go_wp2_with fail
      go_ret
      exact ⟨rfl, (unhide HB12).trans ((unhide HC6).mono sz2)⟩
    · go_wp2_with fail
      all_goals
        go_ret
        exact ⟨rfl, Below.refl _ _⟩
end Go.Proofs.Qxb6001551a
