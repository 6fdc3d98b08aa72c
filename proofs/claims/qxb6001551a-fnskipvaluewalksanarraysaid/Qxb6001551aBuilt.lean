/-
  SEAT b6001551a. zzBuild whatever its program: one JSON value.
-/
import Derived.Test.Qxb6001551aBuild
import Derived.Test.Qxb6001551aSkipV
namespace Go.Proofs.Qxb6001551a
open Go.RowKit

set_option maxHeartbeats 1000000 in
set_option maxRecDepth 100000 in
theorem build_calls (w : World) (ao : Option Addr) (n cap : Nat) (prog : List Int) (hsrc : Src w.heap.size w ao n prog) (hn : n ≤ 20000) :
    Calls Try.prog 14 #[.slice ao n cap] w fun e w' => ∃ v' q ys, e = .returned (.tuple #[v', .int .i64 q]) ∧ IsVal ys ∧ ys.length ≤ 50 * n + 50 ∧ Own w.heap.size w' v' ys ∧ Below w.heap.size w w' := by
  by_cases h0 : n = 0
  · subst h0
    clear hsrc hn
    go_enter Try.func14, Try.ntmps14
    go_wp2_with (at_builtin; refine wp_app_lit rfl _ _ rfl w.heap.size _ [] rfl (Own.nil _ _) _ _ 1 1 [48] rfl rfl rfl (by simp) (Nat.le_refl _) ?_)
    intro v1 w1 G1
    go_wp2_with fail
    go_ret2
    exact ⟨_, _, [48], rfl, bare_word (by simp) (by intro c hc; simp at hc; unfold bare; omega), by simp, G1.own, G1.below (Own.nil _ _) (Nat.le_refl _)⟩
  · obtain ⟨b, off, rfl, hb, hcell⟩ := hsrc.place (by omega)
    by_cases hf : ati prog 0 % 8 < 2
    · exact build_box w b off n cap prog hb hcell hsrc.at_byte hn (by omega) hf
    · have hc0 : w.cell? ⟨b, off, none⟩ = some (.int .u8 (ati prog 0)) := by have := hcell 0 (by omega); rwa [Nat.add_zero] at this
      have hb0 := hsrc.at_byte 0
      have t1 : ((n : Int) == 0) = false := by simp; omega
      have hnp : 0 < n := by omega
      clear hcell hsrc h0
      by_cases h2 : ati prog 0 % 8 = 2
      · have t2 : (ati prog 0 % 8 == 2) = true := by simp [h2]
        have h3 : ati prog 0 % 8 < 3 := by omega
        clear h2
        go_enter Try.func14, Try.ntmps14
        go_wp2_with (at_builtin; refine wp_app_lit rfl _ _ rfl w.heap.size _ [] rfl (Own.nil _ _) _ _ 2 2 [91, 93] rfl rfl rfl (by simp) (Nat.le_refl _) ?_)
        intro v1 w1 G1
        go_wp2_with fail
        go_ret2
        exact ⟨_, _, [91, 93], rfl, .inr (.inr ⟨⟨91, [93], rfl, .inr rfl⟩, rfl, fun x hx => by simp at hx; omega⟩), by simp, G1.own, G1.below (Own.nil _ _) (Nat.le_refl _)⟩
      · have h3 : 3 ≤ ati prog 0 % 8 := by omega
        clear h2
        go_enter Try.func14, Try.ntmps14
        go_wp2_with fail
        refine (scalar_calls w.heap.size w _ [] _ _ hb0.1 hb0.2 (Own.nil _ _) (by simp) (Nat.le_refl _)).mono ?_
        rintro e w1 ⟨v1, ys, rfl, hv, hl, G1⟩
        rw [List.nil_append] at G1
        go_wp2_with fail
        go_ret2
        exact ⟨_, _, ys, rfl, hv, by omega, G1.own, G1.below (Own.nil _ _) (Nat.le_refl _)⟩

set_option maxHeartbeats 400000 in
theorem bytes15_calls (w : World) (a0 a1 a2 : Option Addr) (n0 n1 n2 c0 c1 c2 : Nat) (h0 : n0 ≤ 9223372036854775807) (h1 : n1 ≤ 9223372036854775807) (h2 : n2 ≤ 9223372036854775807) :
    Calls Try.prog 15 #[.slice a0 n0 c0, .slice a1 n1 c1, .slice a2 n2 c2] w fun e w' => (∃ b : Bool, e = .returned (.bool b) ∧ (b = true → n0 + n1 + n2 ≤ 1048576)) ∧ w' = w := by
  go_enter Try.func15, Try.ntmps15
  go_wp2
  all_goals
    go_ret
    refine ⟨⟨_, rfl, ?_⟩, rfl⟩
    first
      | (intro h; cases h; done)
      | (intro _; omega)

/-- skipValue from the first sign of a value that stands at i and is followed by a delimiter or nothing. -/
theorem skipV_val (w : World) (b off n cap i : Nat) (xs ys zs : List Int) (hl : xs.length = n) (hn : n ≤ 1000000000) (hcell : ∀ k, k < n → w.cell? ⟨b, off + k, none⟩ = some (.int .u8 (ati xs k)))
    (hby : ∀ k, 0 ≤ ati xs k ∧ ati xs k ≤ 255) (hd : xs.drop i = ys ++ zs) (hv : IsVal ys) (hz : zs = [] ∨ ∃ c r, zs = c :: r ∧ isDelim c) :
    Calls Try.prog 10 #[.slice (some ⟨b, off, none⟩) n cap, .int .i64 i] w fun e w' => e = .returned (.int .i64 ((i + ys.length : Nat) : Int)) ∧ w' = w := by
  have hp := hv.pos
  have hdl : n - i = ys.length + zs.length := by have := congrArg List.length hd; rw [List.length_drop, List.length_append, hl] at this; exact this
  have hat : ∀ k, k < ys.length → ati xs (i + k) = ati ys k := fun k hk => by rw [← ati_drop, hd, ati_left hk]
  apply skipV_zz
  rcases hv with hv | ⟨body, e, hs, _⟩ | ⟨⟨c, r, e, hc⟩, hf, _⟩
  · have h0 := hat 0 hp
    rw [Nat.add_zero] at h0
    have hb : ∀ k, k < ys.length → bare (ati ys k) := fun k hk => by rw [ati_lt hk]; exact hv.2 _ (List.getElem_mem _)
    have hb0 := hb 0 hp
    unfold bare at hb0
    refine skipV_bare w b off n cap i ys.length xs hl hn hcell hby hp (by omega) (by rw [h0]; omega) (by rw [h0]; omega) (by rw [h0]; omega) (fun k hk => ?_) ?_
    · rw [hat k hk]
      have := hb k hk
      unfold bare at this
      unfold isDelim
      omega
    · rcases hz with rfl | ⟨c, r, rfl, hc⟩
      · left; simp at hdl; omega
      · right
        have : ati xs (i + ys.length) = c := by
          rw [← ati_drop, hd]
          have : ati (ys ++ c :: r) (ys.length + 0) = ati (c :: r) 0 := ati_right
          rw [Nat.add_zero] at this
          rw [this]; rfl
        rw [this]; exact hc
  · have h0 := hat 0 hp
    rw [Nat.add_zero] at h0
    have hq : ati xs i = 34 := by rw [h0, e]; rfl
    have hdr : xs.drop (i + 1) = body ++ zs := by rw [← List.drop_drop, hd, e]; rfl
    have := skipV_string w b off n cap i body.length xs hl hn hcell (by omega) hq (by rw [hdr]; exact hs zs)
    have e2 : i + ys.length = i + 1 + body.length := by rw [e]; simp; omega
    rw [e2]; exact this
  · have h0 := hat 0 hp
    rw [Nat.add_zero] at h0
    have hq : ati xs i = 123 ∨ ati xs i = 91 := by rw [h0, e]; exact hc
    exact skipV_box w b off n cap i (i + ys.length) xs hl hn hcell hq ⟨ys, zs, hd, hf, rfl⟩
end Go.Proofs.Qxb6001551a
