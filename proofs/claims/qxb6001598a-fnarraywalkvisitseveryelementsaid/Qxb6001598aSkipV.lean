/-
  SEAT b6001598a. THE WALKS of valueEnd: at a string, at a container, at a bare scalar.
-/
import Derived.Test.Qxb6001598aMach
import Derived.Test.Qxb6001598aSkipS
import Derived.Test.Qxb6001598aIdx
import Derived.Test.Qxb6001598aVal
namespace Go.Proofs.Qxb6001598a
open Go.RowKit

set_option maxHeartbeats 400000 in
theorem skipV_string (w : World) (b off n cap i m : Nat) (xs : List Int) (hl : xs.length = n) (hn : n ≤ 100000000000000) (hcell : ∀ k, k < n → w.cell? ⟨b, off + k, none⟩ = some (.int .u8 (ati xs k)))
    (hi : i < n) (hq : ati xs i = 34) (hs : scanS false (xs.drop (i + 1)) = some m) :
    Calls Try.prog 27 #[.slice (some ⟨b, off, none⟩) n cap, .int .i64 i] w fun e w' => e = .returned (.int .i64 ((i + 1 + m : Nat) : Int)) ∧ w' = w := by
  have H := skipS_calls w b off n cap i m xs hl hn hcell hs
  have hc := hcell i hi
  have t1 : (ati xs i == 34) = true := by simp [hq]
  clear hcell hs hq
  go_enter Try.func27, Try.ntmps27
  go_wp2_with fail
  refine H.mono ?_
  rintro e w1 ⟨rfl, rfl⟩
  go_wp2
  go_ret
  exact ⟨rfl, rfl⟩

set_option maxHeartbeats 1000000 in
theorem skipV_box (w : World) (b off n cap i E : Nat) (xs : List Int) (hl : xs.length = n) (hn : n ≤ 100000000000000) (hcell : ∀ k, k < n → w.cell? ⟨b, off + k, none⟩ = some (.int .u8 (ati xs k)))
    (hq : ati xs i = 123 ∨ ati xs i = 91) (hat : At xs E i 0) :
    Calls Try.prog 27 #[.slice (some ⟨b, off, none⟩) n cap, .int .i64 i] w fun e w' => e = .returned (.int .i64 (E : Int)) ∧ w' = w := by
  have hi : i < n := by have := hat.lt; omega
  have HC : Hid (∀ k, k < n → w.cell? ⟨b, off + k, none⟩ = some (.int .u8 (ati xs k))) := hcell
  have hc := hcell i hi
  clear hcell
  have t1 : (ati xs i == 34) = false := by rcases hq with h | h <;> simp [h]
  have t2 : (ati xs i == 123) = true ∨ ((ati xs i == 123) = false ∧ (ati xs i == 91) = true) := by rcases hq with h | h <;> simp [h]
  clear hq
  rcases t2 with t2 | ⟨t2, t3⟩
  all_goals
    go_enter Try.func27, Try.ntmps27
    go_wp2_with fail
    go_loop [1, 5] (fun q p => ∃ j d : Nat, q = .int .i64 j ∧ p = .int .i64 d ∧ d ≤ j ∧ At xs E j d) (fun q _ => n - (intOf q).toNat)
    case atStart => exact ⟨i, 0, rfl, rfl, Nat.zero_le _, hat⟩
    case round =>
      obtain ⟨j, d, rfl, rfl, hdj, hA⟩ := hrel
      clear t1 t2 hc hat hi
      have hj : j < n := by have := hA.lt; omega
      have hc := HC.out j hj
      by_cases c1 : ati xs j = 34
      · obtain ⟨m, hs, hA'⟩ := hA.quote c1
        have hm : j + 1 + m < n := by have := hA'.lt; omega
        have H := hide (skipS_calls w b off n cap j m xs hl hn HC.out hs)
        have HA := hide hA'
        have t1 : (ati xs j == 34) = true := by simp [c1]
        clear c1 hs hA hA'
        go_wp2_with fail
        refine (unhide H).mono ?_
        rintro e w1 ⟨rfl, rfl⟩
        go_wp2
        go_round
        case rel => exact ⟨j + 1 + m, d, by go_num, rfl, by omega, unhide HA⟩
        case measure => simp [intOf]; omega
      · have t1 : (ati xs j == 34) = false := by simp [c1]
        by_cases c2 : ati xs j = 123
        · have HA := hide (hA.opens (.inl c2))
          have t2 : (ati xs j == 123) = true := by simp [c2]
          clear c1 c2 hA
          go_wp2_with fail
          go_round
          case rel => exact ⟨j + 1, d + 1, by go_num, by go_num, by omega, unhide HA⟩
          case measure => simp [intOf]; omega
        · have t2 : (ati xs j == 123) = false := by simp [c2]
          by_cases c3 : ati xs j = 91
          · have HA := hide (hA.opens (.inr c3))
            have t3 : (ati xs j == 91) = true := by simp [c3]
            clear c1 c2 c3 hA
            go_wp2_with fail
            go_round
            case rel => exact ⟨j + 1, d + 1, by go_num, by go_num, by omega, unhide HA⟩
            case measure => simp [intOf]; omega
          · have t3 : (ati xs j == 91) = false := by simp [c3]
            by_cases c4 : ati xs j = 125
            · have t4 : (ati xs j == 125) = true := by simp [c4]
              rcases hA.close (.inl c4) with ⟨hd, hE⟩ | ⟨hd, hA'⟩
              · have h1 : 1 ≤ d := by omega
                have h2 : d ≤ 1 := by omega
                have HE := hide hE
                clear c1 c2 c3 c4 hA hd hE
                go_wp2_with fail
                go_ret
                exact ⟨ret_i64 (by have := unhide HE; omega), rfl⟩
              · have HA := hide hA'
                clear c1 c2 c3 c4 hA hA'
                go_wp2_with fail
                go_round
                case rel => exact ⟨j + 1, d - 1, by go_num, by go_num, by omega, unhide HA⟩
                case measure => simp [intOf]; omega
            · have t4 : (ati xs j == 125) = false := by simp [c4]
              by_cases c5 : ati xs j = 93
              · have t5 : (ati xs j == 93) = true := by simp [c5]
                rcases hA.close (.inr c5) with ⟨hd, hE⟩ | ⟨hd, hA'⟩
                · have h1 : 1 ≤ d := by omega
                  have h2 : d ≤ 1 := by omega
                  have HE := hide hE
                  clear c1 c2 c3 c4 c5 hA hd hE
                  go_wp2_with fail
                  go_ret
                  exact ⟨ret_i64 (by have := unhide HE; omega), rfl⟩
                · have HA := hide hA'
                  clear c1 c2 c3 c4 c5 hA hA'
                  go_wp2_with fail
                  go_round
                  case rel => exact ⟨j + 1, d - 1, by go_num, by go_num, by omega, unhide HA⟩
                  case measure => simp [intOf]; omega
              · have t5 : (ati xs j == 93) = false := by simp [c5]
                have HA := hide (hA.other c1 c2 c3 c4 c5)
                clear c1 c2 c3 c4 c5 hA
                go_wp2_with fail
                go_round
                case rel => exact ⟨j + 1, d, by go_num, rfl, by omega, unhide HA⟩
                case measure => simp [intOf]; omega

set_option maxHeartbeats 1000000 in
theorem skipV_bare (w : World) (b off n cap i L : Nat) (xs : List Int) (hl : xs.length = n) (hn : n ≤ 100000000000000) (hcell : ∀ k, k < n → w.cell? ⟨b, off + k, none⟩ = some (.int .u8 (ati xs k)))
    (hby : ∀ k, 0 ≤ ati xs k ∧ ati xs k ≤ 255) (hL : 0 < L) (hiL : i + L ≤ n) (h1 : ati xs i ≠ 34) (h2 : ati xs i ≠ 123) (h3 : ati xs i ≠ 91) (hbare : ∀ k, k < L → ¬ isDelim (ati xs (i + k))) (hend : i + L = n ∨ isDelim (ati xs (i + L))) :
    Calls Try.prog 27 #[.slice (some ⟨b, off, none⟩) n cap, .int .i64 i] w fun e w' => e = .returned (.int .i64 ((i + L : Nat) : Int)) ∧ w' = w := by
  have hi : i < n := by omega
  have HC : Hid (∀ k, k < n → w.cell? ⟨b, off + k, none⟩ = some (.int .u8 (ati xs k))) := hcell
  have HB := hide hbare
  have HN := hide hend
  have HY := hide hby
  have hc := hcell i hi
  have t1 : (ati xs i == 34) = false := by simp [h1]
  have t2 : (ati xs i == 123) = false := by simp [h2]
  have t3 : (ati xs i == 91) = false := by simp [h3]
  clear hcell hbare hend h1 h2 h3 hby
  go_enter Try.func27, Try.ntmps27
  go_wp2_with fail
  go_loop [1] (fun q => ∃ j : Nat, q = .int .i64 j ∧ i ≤ j ∧ j ≤ i + L) (fun q => i + L - (intOf q).toNat)
  case atStart => exact ⟨i, rfl, Nat.le_refl _, by omega⟩
  case round =>
    obtain ⟨j, rfl, hj1, hj2⟩ := hrel
    clear t1 t2 t3 hc
    by_cases hlt : j < i + L
    · have hjn : j < n := by omega
      have hc := HC.out j hjn
      have hb : ¬ isDelim (ati xs j) := by
        have := unhide HB (j - i) (by omega)
        rwa [show i + (j - i) = j from by omega] at this
      have H := hide (delim_no_calls w (ati xs j) (unhide HY j).1 (unhide HY j).2 hb)
      clear hb
      go_wp2_with fail
      refine (unhide H).mono ?_
      rintro e w1 ⟨rfl, rfl⟩
      go_wp2_with fail
      go_round
      case rel => exact ⟨j + 1, by go_num, by omega, by omega⟩
      case measure => simp [intOf]; omega
    · have hje : j = i + L := by omega
      rcases Nat.lt_or_ge j n with hjn | hjn
      · have hc := HC.out j hjn
        have hd : isDelim (ati xs j) := by
          rcases unhide HN with h | h
          · omega
          · rw [hje]; exact h
        have H := hide (delim_yes_calls w (ati xs j) hd)
        have HJ := hide hje
        clear hd hje
        go_wp2_with fail
        refine (unhide H).mono ?_
        rintro e w1 ⟨r, rfl, rfl⟩
        go_wp2_with fail
        go_ret
        exact ⟨ret_i64 (by have := unhide HJ; omega), rfl⟩
      · have HJ := hide hje
        clear hje
        go_wp2_with fail
        go_ret
        exact ⟨ret_i64 (by have := unhide HJ; omega), rfl⟩

/-- ZZValueEnd hands on what valueEnd answers. -/
theorem skipV_zz (w : World) (v : Value) (i r : Nat) (H0 : Calls Try.prog 27 #[v, .int .i64 i] w fun e w' => e = .returned (.int .i64 (r : Int)) ∧ w' = w) :
    Calls Try.prog 18 #[v, .int .i64 i] w fun e w' => e = .returned (.int .i64 (r : Int)) ∧ w' = w := by
  have H := hide H0
  clear H0
  go_enter Try.func18, Try.ntmps18
  go_wp2_with fail
  refine (unhide H).mono ?_
  rintro e w1 ⟨rfl, rfl⟩
  go_wp2_with fail
  go_ret
  exact ⟨rfl, rfl⟩
/-- valueEnd from the first sign of a value that stands at i and is followed by a delimiter or nothing. -/
theorem skipV_val (w : World) (b off n cap i : Nat) (xs ys zs : List Int) (hl : xs.length = n) (hn : n ≤ 100000000000000) (hcell : ∀ k, k < n → w.cell? ⟨b, off + k, none⟩ = some (.int .u8 (ati xs k)))
    (hby : ∀ k, 0 ≤ ati xs k ∧ ati xs k ≤ 255) (hd : xs.drop i = ys ++ zs) (hv : IsVal ys) (hz : zs = [] ∨ ∃ c r, zs = c :: r ∧ isDelim c) :
    Calls Try.prog 18 #[.slice (some ⟨b, off, none⟩) n cap, .int .i64 i] w fun e w' => e = .returned (.int .i64 ((i + ys.length : Nat) : Int)) ∧ w' = w := by
  have hp := hv.pos
  have hdl : n - i = ys.length + zs.length := by have := congrArg List.length hd; rw [List.length_drop, List.length_append, hl] at this; exact this
  have hat : ∀ k, k < ys.length → ati xs (i + k) = ati ys k := fun k hk => by rw [← ati_drop, hd, ati_left hk]
  apply skipV_zz
  rcases hv with hv | ⟨body, e, hs, _⟩ | ⟨⟨c, r, e, hc⟩, hf, _⟩
  · have h0 := hat 0 hp
    rw [Nat.add_zero] at h0
    have hb : ∀ k, k < ys.length → bare (ati ys k) := fun k hk => by rw [ati_lt hk]; exact hv.2 _ (List.getElem_mem _)
    have hb0 := hb 0 hp
    unfold bare at hb0
    refine skipV_bare w b off n cap i ys.length xs hl hn hcell hby hp (by omega) (by rw [h0]; omega) (by rw [h0]; omega) (by rw [h0]; omega) (fun k hk => ?_) ?_
    · rw [hat k hk]
      have := hb k hk
      unfold bare at this
      unfold isDelim
      omega
    · rcases hz with rfl | ⟨c, r, rfl, hc⟩
      · left; simp at hdl; omega
      · right
        have : ati xs (i + ys.length) = c := by
          rw [← ati_drop, hd]
          have : ati (ys ++ c :: r) (ys.length + 0) = ati (c :: r) 0 := ati_right
          rw [Nat.add_zero] at this
          rw [this]; rfl
        rw [this]; exact hc
  · have h0 := hat 0 hp
    rw [Nat.add_zero] at h0
    have hq : ati xs i = 34 := by rw [h0, e]; rfl
    have hdr : xs.drop (i + 1) = body ++ zs := by rw [← List.drop_drop, hd, e]; rfl
    have := skipV_string w b off n cap i body.length xs hl hn hcell (by omega) hq (by rw [hdr]; exact hs zs)
    have e2 : i + ys.length = i + 1 + body.length := by rw [e]; simp; omega
    rw [e2]; exact this
  · have h0 := hat 0 hp
    rw [Nat.add_zero] at h0
    have hq : ati xs i = 123 ∨ ati xs i = 91 := by rw [h0, e]; exact hc
    exact skipV_box w b off n cap i (i + ys.length) xs hl hn hcell hq ⟨ys, zs, hd, hf, rfl⟩
end Go.Proofs.Qxb6001598a
