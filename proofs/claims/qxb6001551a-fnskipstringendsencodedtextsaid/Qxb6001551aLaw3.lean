/-
  SEAT b6001551a. THE WALK of FnSkipStringEndsEncodedText.
-/
import Derived.Test.Qxb6001551aSkipV
import Derived.Test.Qxb6001551aUnesc
import Derived.Test.Qxb6001551aSmall
namespace Go.Proofs.Qxb6001551a
open Go.RowKit

set_option maxHeartbeats 1000000 in
set_option maxRecDepth 100000 in
theorem law3 (w : World) (a0 a1 a2 : Option Addr) (n0 n1 n2 c0 c1 c2 : Nat) (p cs tl : List Int) (s0 : Src w.heap.size w a0 n0 p) (s1 : Src w.heap.size w a1 n1 cs) (s2 : Src w.heap.size w a2 n2 tl)
    (z0 : a0 = none → c0 = 0) (z2 : a2 = none → c2 = 0) (m0 : n0 ≤ 9223372036854775807) (m1 : n1 ≤ 9223372036854775807) (m2 : n2 ≤ 9223372036854775807) :
    Calls Try.prog 3 #[.slice a0 n0 c0, .slice a1 n1 c1, .slice a2 n2 c2] w fun e w' => e = .returned (.bool true) ∧ Below w.heap.size w w' := by
  have Z0 := hide z0
  have Z2 := hide z2
  clear z0 z2
  go_enter Try.func3, Try.ntmps3
  go_wp2_with fail
  refine (bytes7_calls w a0 a1 a2 n0 n1 n2 c0 c1 c2 m0 m1 m2).mono ?_
  rintro e w' ⟨⟨b, rfl, hb⟩, hw⟩
  replace hw := hw.symm
  subst hw
  cases b with
  | false =>
    clear hb
    go_wp2_with fail
    go_ret
    exact ⟨rfl, Below.refl _ _⟩
  | true =>
    have hb' := hb rfl
    clear hb
    by_cases big : n0 ≤ 65536 ∧ n1 ≤ 65536 ∧ n2 ≤ 65536
    · obtain ⟨b0, b1, b2⟩ := big
      go_wp2_with (at_builtin; refine wp_app_src rfl _ _ rfl w.heap.size w.heap.size _ [] rfl (Own.nil _ _) a0 n0 c0 p rfl s0 (unhide Z0) (by simp; omega) (Nat.le_refl _) ?_)
      intro v1 w1 G1
      obtain ⟨ao, cap, hv, hcap, hmx⟩ := G1.own.form
      rw [s0.len] at hv hcap
      subst hv
      unfold maxLen at hmx
      have B1 := G1.below (Own.nil _ _) (Nat.le_refl _)
      have sz1 := B1.size
      have lp := s0.len
      have L1 := hide lp
      clear lp
      go_wp2_with (at_builtin; refine wp_app_lit rfl _ _ rfl w.heap.size _ p rfl G1.own _ _ 1 1 [34] rfl rfl rfl (by rw [unhide L1]; omega) sz1 ?_)
      intro v2 w2 G2
      have G12 := G1.trans G2
      have B2 := G12.below (Own.nil _ _) (Nat.le_refl _)
      have sz2 := B2.size
      clear G1 G2 B1
      go_wp2_with fail
      refine (escape_calls w.heap.size w2 v2 (p ++ [34]) cs a1 n1 c1 G12.own (s1.carry B2) (by simp; rw [unhide L1]; omega) sz2).mono ?_
      rintro e w3 ⟨v3, rfl, G3⟩
      have G13 := G12.trans G3
      have B3 := G13.below (Own.nil _ _) (Nat.le_refl _)
      have sz3 := B3.size
      clear G3 G12 B2
      have el := esc_length cs
      rw [s1.len] at el
      obtain ⟨E, hE⟩ : ∃ E, E = (esc cs).length := ⟨_, rfl⟩
      rw [← hE] at el
      have HE := hide hE
      clear hE
      go_wp2_with (at_builtin; refine wp_app_lit rfl _ _ rfl w.heap.size _ (p ++ [34] ++ esc cs) rfl G13.own _ _ 1 1 [34] rfl rfl rfl (by simp; rw [unhide L1, ← unhide HE]; omega) sz3 ?_)
      intro v4 w4 G4
      have G14 := G13.trans G4
      have B4 := G14.below (Own.nil _ _) (Nat.le_refl _)
      have sz4 := B4.size
      clear G4 G13 B3
      obtain ⟨ao4, cap4, hv, hcap4, hmx4⟩ := G14.own.form
      have hL : (p ++ 34 :: (esc cs ++ [34])).length = n0 + E + 2 := by simp; rw [unhide L1, ← unhide HE]; omega
      rw [hL] at hv hcap4
      subst hv
      unfold maxLen at hmx4
      have HL := hide hL
      clear hL
      go_wp2_with (at_builtin; refine wp_app_src rfl _ _ rfl w.heap.size w.heap.size _ (p ++ 34 :: (esc cs ++ [34])) rfl G14.own a2 n2 c2 tl rfl (s2.carry B4) (unhide Z2) (by rw [unhide HL]; omega) sz4 ?_)
      intro v5 w5 G5
      have G15 := G14.trans G5
      have B5 := G15.below (Own.nil _ _) (Nat.le_refl _)
      have sz5 := B5.size
      clear G5 G14 B4
      obtain ⟨D, hD⟩ : ∃ D, D = p ++ 34 :: (esc cs ++ 34 :: tl) := ⟨_, rfl⟩
      have O5 : Own w.heap.size w5 v5 D := by
        have := G15.own
        rw [hD]; simpa using this
      have hDl : D.length = n0 + E + 2 + n2 := by rw [hD]; simp; rw [unhide L1, ← unhide HE, s2.len]; omega
      have hDb : ∀ x ∈ D, 0 ≤ x ∧ x ≤ 255 := by
        intro x hx
        have e1 := s0.byte x
        have e2 := esc_byte s1.byte x
        have e3 := s2.byte x
        rw [hD] at hx
        simp only [List.mem_append, List.mem_cons] at hx
        rcases hx with h | h | h | h | h
        · exact e1 h
        · omega
        · exact e2 h
        · omega
        · exact e3 h
      obtain ⟨g, cap5, hv, hg1, hg2, hcap5, hmx5, hcell⟩ := O5.some (by omega)
      rw [hDl] at hv hcap5 hcell
      subst hv
      unfold maxLen at hmx5
      have hd1 : D.drop (n0 + 1) = esc cs ++ 34 :: tl := by
        rw [hD, show n0 + 1 = p.length + 1 from by rw [unhide L1], ← List.drop_drop, List.drop_left]; rfl
      have hq : ati D n0 = 34 := by
        have : ati D (p.length + 0) = ati (34 :: (esc cs ++ 34 :: tl)) 0 := by rw [hD]; exact ati_right
        rw [Nat.add_zero, unhide L1] at this
        rw [this]; rfl
      have hsc : scanS false (D.drop (n0 + 1)) = some (E + 1) := by rw [hd1, scanS_text cs s1.byte, ← unhide HE]
      have hcell' : ∀ k, k < n0 + E + 2 + n2 → w5.cell? ⟨g, 0 + k, none⟩ = some (.int .u8 (ati D k)) := fun k hk => by rw [Nat.zero_add]; exact hcell k hk
      have C9 := hide (skipS_zz w5 g 0 (n0 + E + 2 + n2) cap5 n0 (E + 1) D hDl (by omega) hcell' hsc)
      have C10 := hide (skipV_zz w5 _ n0 _ (skipV_string w5 g 0 (n0 + E + 2 + n2) cap5 n0 (E + 1) D hDl (by omega) hcell' (by omega) hq hsc))
      have S5 : Src w5.heap.size w5 (some ⟨g, n0 + 1, none⟩) E (esc cs) := by
        refine ⟨(unhide HE).symm, esc_byte s1.byte, .inr ⟨g, n0 + 1, rfl, hg2, fun k hk => ?_⟩⟩
        rw [hcell (n0 + 1 + k) (by omega), ← ati_drop, hd1, ati_left (by rw [← unhide HE]; exact hk)]
      have HS5 := hide S5
      have HDef := hide hD
      clear hcell hcell' hsc hq hd1 S5 hDb hD hDl G15
      go_wp2_with fail
      refine (unhide C9).mono ?_
      rintro e w6 ⟨rfl, hw⟩
      replace hw := hw.symm
      subst hw
      go_wp2_with fail
      refine (unhide C10).mono ?_
      rintro e w6 ⟨rfl, hw⟩
      replace hw := hw.symm
      subst hw
      go_wp2_with fail
      refine (unescape_calls w5.heap.size w5 _ E _ cs (unhide HS5) s1.byte (by omega) (Nat.le_refl _)).mono ?_
      rintro e w6 ⟨v6, rfl, G6⟩
      have B6 := G6.below (Own.nil _ _) (Nat.le_refl _)
      have B56 := B5.trans (B6.mono sz5)
      obtain ⟨ao6, cap6, hv, _, _⟩ := G6.own.form
      have O6 := G6.own
      rw [s1.len] at hv
      subst hv
      have C12 := hide (same_calls w6.heap.size w.heap.size w6 ao6 a1 n1 cap6 c1 cs (O6.src s1.byte) (s1.carry B56) (by omega))
      clear G6 B6 O6
      go_wp2_with fail
      refine (unhide C12).mono ?_
      rintro e w7 ⟨rfl, q, rfl⟩
      go_wp2_with fail
      go_ret
      exact ⟨rfl, below_drewN B56 q⟩
    · go_wp2_with fail
      all_goals
        go_ret
        exact ⟨rfl, Below.refl _ _⟩
end Go.Proofs.Qxb6001551a
