/-
  SEAT b6001551a. THE WALKS of zzEmitNumber (its ways meet again behind each 'if') and of zzEmitScalar.
-/
import Derived.Test.Qxb6001551aEmit
namespace Go.Proofs.Qxb6001551a
open Go.RowKit

/-- So far only bare signs have been written: from lo to m of them. -/
def Gone (B : Nat) (w wc : World) (v u : Value) (xs : List Int) (lo m : Nat) : Prop := ∃ ys, (∀ c ∈ ys, bare c) ∧ lo ≤ ys.length ∧ ys.length ≤ m ∧ Grew B w wc v u (xs ++ ys)
theorem Gone.own {B : Nat} {w wc : World} {v u : Value} {xs : List Int} {lo m : Nat} (h : Gone B w wc v u xs lo m) : ∃ zs, Own B wc u zs ∧ zs.length ≤ xs.length + m ∧ w.heap.size ≤ wc.heap.size ∧
    ∀ (w' : World) (u' : Value) (news : List Int) (lo' m' : Nat), Grew B wc w' u u' (zs ++ news) → (∀ c ∈ news, bare c) → lo' ≤ lo + news.length → m + news.length ≤ m' → Gone B w w' v u' xs lo' m' := by
  obtain ⟨ys, h1, h2, h3, h4⟩ := h
  refine ⟨xs ++ ys, h4.own, by simp; omega, h4.grown.size, fun w' u' news lo' m' g hb hl hm => ⟨ys ++ news, ?_, by simp; omega, by simp; omega, ?_⟩⟩
  · intro c hc
    rw [List.mem_append] at hc
    rcases hc with hc | hc
    · exact h1 c hc
    · exact hb c hc
  · rw [← List.append_assoc]; exact h4.trans g
theorem Gone.mono {B : Nat} {w wc : World} {v u : Value} {xs : List Int} {lo m m' : Nat} (h : Gone B w wc v u xs lo m) (hm : m ≤ m') : Gone B w wc v u xs lo m' := by
  obtain ⟨ys, h1, h2, h3, h4⟩ := h
  exact ⟨ys, h1, h2, by omega, h4⟩
theorem Gone.refl {B : Nat} {w : World} {v : Value} {xs : List Int} (h : Own B w v xs) : Gone B w w v v xs 0 0 := ⟨[], by simp, by simp, by simp, by simpa using Grew.refl h⟩

set_option maxHeartbeats 1000000 in
theorem emitN_calls (B : Nat) (w : World) (v : Value) (xs : List Int) (b : Int) (h0 : 0 ≤ b) (h1 : b ≤ 255) (hown : Own B w v xs) (hlen : xs.length ≤ 100000000) (hB : B ≤ w.heap.size) :
    Calls Try.prog 30 #[v, .int .u8 b] w fun e w' => ∃ v' ys, e = .returned v' ∧ Bare ys ∧ ys.length ≤ 9 ∧ Grew B w w' v v' (xs ++ ys) := by
  obtain ⟨zs0, ho0, hl0, hs0, hn0⟩ := (Gone.refl hown).own
  have HN0 := hide hn0
  have HM0 := hide (Gone.refl hown)
  have hB0 : B ≤ w.heap.size := hB
  clear hn0 hown
  go_enter Try.func30, Try.ntmps30
  go_upto_if 7 with fail
  go_cut [0] (fun u wc => Gone B w wc v u xs 0 1)
  case first =>
    go_wp2_with (at_builtin; refine wp_app_lit rfl _ _ rfl B _ zs0 rfl ho0 _ _ 1 1 [45] rfl rfl rfl (by omega) hB0 ?_)
    · intro u' w' g
      have R := unhide HN0 _ _ _ 0 1 g (by intro c hc; simp at hc; unfold bare; omega) (by simp) (by simp)
      clear g
      go_wp2
      go_meet
      case rel => exact R
    · go_meet
      case rel => exact (unhide HM0).mono (by omega)
  case rest =>
    obtain ⟨zs1, ho1, hl1, hs1, hn1⟩ := hcut.own
    have HN1 := hide hn1
    have HM1 := hide hcut
    have hB1 : B ≤ wc.heap.size := Nat.le_trans hB hs1
    clear hn1 hcut HN0 HM0
    go_upto_if 12 with fail
    go_cut [0] (fun u wc => Gone B w wc v u xs 0 2)
    case first =>
      go_wp2_with (at_builtin; refine wp_app_lit rfl _ _ rfl B _ zs1 rfl ho1 _ _ 1 1 [48 + b / 100] rfl rfl rfl (by omega) hB1 ?_)
      · intro u' w' g
        have R := unhide HN1 _ _ _ 0 2 g (by intro c hc; simp at hc; unfold bare; omega) (by simp) (by simp)
        clear g
        go_wp2
        go_meet
        case rel => exact R
      · go_meet
        case rel => exact (unhide HM1).mono (by omega)
    case rest =>
      obtain ⟨zs2, ho2, hl2, hs2, hn2⟩ := hcut.own
      have HN2 := hide hn2
      have HM2 := hide hcut
      have hB2 : B ≤ wc.heap.size := Nat.le_trans hB hs2
      clear hn2 hcut HN1 HM1
      go_upto_if 20 with fail
      go_cut [0] (fun u wc => Gone B w wc v u xs 0 3)
      case first =>
        go_wp2_with (at_builtin; refine wp_app_lit rfl _ _ rfl B _ zs2 rfl ho2 _ _ 1 1 [48 + b / 10 % 10] rfl rfl rfl (by omega) hB2 ?_)
        · intro u' w' g
          have R := unhide HN2 _ _ _ 0 3 g (by intro c hc; simp at hc; unfold bare; omega) (by simp) (by simp)
          clear g
          go_wp2
          go_meet
          case rel => exact R
        · go_meet
          case rel => exact (unhide HM2).mono (by omega)
      case rest =>
        obtain ⟨zs3, ho3, hl3, hs3, hn3⟩ := hcut.own
        have HN3 := hide hn3
        have HM3 := hide hcut
        have hB3 : B ≤ wc.heap.size := Nat.le_trans hB hs3
        clear hn3 hcut HN2 HM2
        go_wp2_with (at_builtin; refine wp_app_lit rfl _ _ rfl B _ zs3 rfl ho3 _ _ 1 1 [48 + b % 10] rfl rfl rfl (by omega) hB3 ?_)
        intro u' w' g
        have R := unhide HN3 _ _ _ 1 4 g (by intro c hc; simp at hc; unfold bare; omega) (by simp) (by simp)
        clear g
        obtain ⟨zs4, ho4, hl4, hs4, hn4⟩ := R.own
        have HN4 := hide hn4
        have HM4 := hide R
        have hB4 : B ≤ w'.heap.size := Nat.le_trans hB hs4
        clear hn4 R HN3 HM3
        go_upto_if 36 with fail
        go_cut [0] (fun u wc => Gone B w wc v u xs 1 6)
        case first =>
          go_wp2_with (at_builtin; refine wp_app_lit rfl _ _ rfl B _ zs4 rfl ho4 _ _ 2 2 [46, 53] rfl rfl rfl (by omega) hB4 ?_)
          · intro u' w' g
            have R := unhide HN4 _ _ _ 1 6 g (by intro c hc; simp at hc; unfold bare; omega) (by simp) (by simp)
            clear g
            go_wp2
            go_meet
            case rel => exact R
          · go_meet
            case rel => exact (unhide HM4).mono (by omega)
        case rest =>
          obtain ⟨zs5, ho5, hl5, hs5, hn5⟩ := hcut.own
          have HN5 := hide hn5
          have HM5 := hide hcut
          have hB5 : B ≤ wc.heap.size := Nat.le_trans hB hs5
          clear hn5 hcut HN4 HM4
          go_upto_if 42 with fail
          go_cut [0] (fun u wc => Gone B w wc v u xs 1 9)
          case first =>
            go_wp2_with (at_builtin; refine wp_app_lit rfl _ _ rfl B _ zs5 rfl ho5 _ _ 3 3 [101, 43, 55] rfl rfl rfl (by omega) hB5 ?_)
            · intro u' w' g
              have R := unhide HN5 _ _ _ 1 9 g (by intro c hc; simp at hc; unfold bare; omega) (by simp) (by simp)
              clear g
              go_wp2
              go_meet
              case rel => exact R
            · go_meet
              case rel => exact (unhide HM5).mono (by omega)
          case rest =>
            obtain ⟨zs6, ho6, hl6, hs6, hn6⟩ := hcut.own
            have HN6 := hide hn6
            have HM6 := hide hcut
            have hB6 : B ≤ wc.heap.size := Nat.le_trans hB hs6
            clear hn6 hcut HN5 HM5
            go_wp2
            go_ret
            obtain ⟨ys, q1, q2, q3, q4⟩ := unhide HM6
            exact ⟨_, ys, rfl, ⟨by omega, q1⟩, q3, q4⟩

theorem bare_word {xs : List Int} (h0 : 0 < xs.length) (h : ∀ c ∈ xs, bare c) : IsVal xs := .inl ⟨h0, h⟩

set_option maxHeartbeats 1000000 in
theorem scalar_calls (B : Nat) (w : World) (v : Value) (xs : List Int) (op b : Int) (h0 : 0 ≤ b) (h1 : b ≤ 255) (hown : Own B w v xs) (hlen : xs.length ≤ 100000000) (hB : B ≤ w.heap.size) :
    Calls Try.prog 23 #[v, .int .u8 op, .int .u8 b] w fun e w' => ∃ v' ys, e = .returned v' ∧ IsVal ys ∧ ys.length ≤ 9 ∧ Grew B w w' v v' (xs ++ ys) := by
  by_cases c3 : op = 3
  · have t3 : (op == 3) = true := by simp [c3]
    clear c3
    go_enter Try.func23, Try.ntmps23
    go_wp2_with fail
    refine (emitS_calls B w v xs b h0 h1 hown hlen hB).mono ?_
    rintro e w1 ⟨v1, ys, rfl, hs, hl, g⟩
    go_wp2
    go_ret
    exact ⟨_, ys, rfl, .inr (.inl hs), by omega, g⟩
  · have t3 : (op == 3) = false := by simp [c3]
    by_cases c4 : op = 4
    · have t4 : (op == 4) = true := by simp [c4]
      clear c3 c4
      go_enter Try.func23, Try.ntmps23
      go_wp2_with fail
      refine (emitN_calls B w v xs _ (by omega) (by omega) hown hlen hB).mono ?_
      rintro e w1 ⟨v1, ys, rfl, hs, hl, g⟩
      go_wp2
      go_ret
      exact ⟨_, ys, rfl, .inl hs, by omega, g⟩
    · have t4 : (op == 4) = false := by simp [c4]
      by_cases c5 : op = 5
      · have t5 : (op == 5) = true := by simp [c5]
        clear c3 c4 c5
        go_enter Try.func23, Try.ntmps23
        go_wp2_with (at_builtin; refine wp_app_lit rfl _ _ rfl B _ xs rfl hown _ _ 4 4 [116, 114, 117, 101] rfl rfl rfl (by omega) hB ?_)
        intro u' w' g
        go_wp2
        go_ret
        exact ⟨_, _, rfl, bare_word (by simp) (by intro c hc; simp at hc; unfold bare; omega), by simp, g⟩
      · have t5 : (op == 5) = false := by simp [c5]
        by_cases c6 : op = 6
        · have t6 : (op == 6) = true := by simp [c6]
          clear c3 c4 c5 c6
          go_enter Try.func23, Try.ntmps23
          go_wp2_with (at_builtin; refine wp_app_lit rfl _ _ rfl B _ xs rfl hown _ _ 5 5 [102, 97, 108, 115, 101] rfl rfl rfl (by omega) hB ?_)
          intro u' w' g
          go_wp2
          go_ret
          exact ⟨_, _, rfl, bare_word (by simp) (by intro c hc; simp at hc; unfold bare; omega), by simp, g⟩
        · have t6 : (op == 6) = false := by simp [c6]
          clear c3 c4 c5 c6
          go_enter Try.func23, Try.ntmps23
          go_wp2_with (at_builtin; refine wp_app_lit rfl _ _ rfl B _ xs rfl hown _ _ 4 4 [110, 117, 108, 108] rfl rfl rfl (by omega) hB ?_)
          intro u' w' g
          go_wp2
          go_ret
          exact ⟨_, _, rfl, bare_word (by simp) (by intro c hc; simp at hc; unfold bare; omega), by simp, g⟩
end Go.Proofs.Qxb6001551a
