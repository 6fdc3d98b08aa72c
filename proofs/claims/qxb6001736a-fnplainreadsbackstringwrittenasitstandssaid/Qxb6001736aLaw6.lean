/-
  SEAT b6001736a. THE WALK of FnPlainReadsBackStringWrittenAsItStands.
-/
import Derived.Test.Qxb6001736aZzNext
import Derived.Test.Qxb6001736aPlain
import Derived.Test.Qxb6001736aClone
namespace Go.Proofs.Qxb6001736a
open Go.RowKit

/-- A byte for which the law says that plain refuses. -/
def oddC (c : Int) : Bool := spec c || decide (128 ≤ c)
/-- The flag 'escaped' ahead of the k-th byte. -/
def flag (xs : List Int) (k : Nat) : Bool := (xs.take k).any oddC

theorem any_esc (xs : List Int) : (esc xs).any odd = xs.any oddC := by
  induction xs with
  | nil => rfl
  | cons c r ih =>
    have h1 : (esc1 c).any odd = oddC c := by
      unfold esc1
      cases hs : spec c with
      | true =>
        rw [if_pos rfl]
        simp [oddC, hs, odd]
      | false =>
        rw [if_neg (by simp)]
        unfold spec at hs
        simp only [Bool.or_eq_false_iff] at hs
        simp [oddC, spec, hs.1, hs.2, odd]
    simp only [esc, List.any_append, List.any_cons, h1, ih]

theorem esc_id {xs : List Int} (h : xs.any oddC = false) : esc xs = xs := by
  induction xs with
  | nil => rfl
  | cons c r ih =>
    simp only [List.any_cons, Bool.or_eq_false_iff] at h
    have hs : spec c = false := by
      have := h.1
      unfold oddC at this
      simp only [Bool.or_eq_false_iff] at this
      exact this.1
    simp only [esc, esc1, hs, ih h.2]
    rfl

theorem flag_step {xs : List Int} {k : Nat} (h : k < xs.length) : flag xs (k + 1) = (flag xs k || oddC (ati xs k)) := by
  unfold flag
  rw [take_ati h, List.any_append]
  simp
theorem flag_all (xs : List Int) (k : Nat) (h : xs.length ≤ k) : flag xs k = xs.any oddC := by
  unfold flag
  rw [List.take_of_length_le h]

theorem pre_step {xs : List Int} {k : Nat} (h : k < xs.length) : 34 :: esc (xs.take (k + 1)) = (34 :: esc (xs.take k)) ++ esc1 (ati xs k) := by
  rw [esc_take h]
  rfl

theorem txt_in (xs : List Int) (j : Nat) (h : j < (esc xs).length) : ati (txt xs) (1 + j) = ati (esc xs) j := by
  have e : txt xs = [34] ++ (esc xs ++ [34]) := rfl
  have := ati_right (xs := [34]) (ys := esc xs ++ [34]) (k := j)
  rw [e]
  simp only [List.length_cons, List.length_nil, Nat.zero_add] at this
  rw [this, ati_left h]

/-- The state of the law's loop: the text written so far in a row of the law's own; below it all is as it was. -/
structure Wr (B : Nat) (w1 wr : World) (v : Value) (xs : List Int) (k : Nat) : Prop where
  own : Own B wr v (34 :: esc (xs.take k))
  bel : Below B w1 wr
  siz : B ≤ wr.heap.size

theorem Wr.step1 {B : Nat} {w1 wr w' : World} {v v' : Value} {xs : List Int} {k : Nat} (h : Wr B w1 wr v xs k) (hk : k < xs.length) (hs : esc1 (ati xs k) = [ati xs k]) (g : Grew B wr w' v v' ((34 :: esc (xs.take k)) ++ [ati xs k])) : Wr B w1 w' v' xs (k + 1) := by
  refine ⟨?_, h.bel.trans (g.below h.own h.siz), Nat.le_trans h.siz g.grown.size⟩
  rw [pre_step hk, hs]
  exact g.own
theorem Wr.step2 {B : Nat} {w1 wr wm w' : World} {v vm v' : Value} {xs : List Int} {k : Nat} (h : Wr B w1 wr v xs k) (hk : k < xs.length) (hs : esc1 (ati xs k) = [92, ati xs k]) (g : Grew B wr wm v vm ((34 :: esc (xs.take k)) ++ [92])) (g2 : Grew B wm w' vm v' ((34 :: esc (xs.take k)) ++ [92] ++ [ati xs k])) : Wr B w1 w' v' xs (k + 1) := by
  refine ⟨?_, (h.bel.trans (g.below h.own h.siz)).trans (g2.below g.own (Nat.le_trans h.siz g.grown.size)), Nat.le_trans h.siz (Nat.le_trans g.grown.size g2.grown.size)⟩
  rw [pre_step hk, hs]
  have e : (34 :: esc (xs.take k)) ++ [92, ati xs k] = (34 :: esc (xs.take k)) ++ [92] ++ [ati xs k] := by simp
  rw [e]
  exact g2.own

set_option maxHeartbeats 2000000 in
set_option maxRecDepth 100000 in
theorem law6_calls (B : Nat) (w : World) (a : Option Addr) (n c : Nat) (xs : List Int) (hsrc : Src B w a n xs) (hnil : a = none → c = 0) (hn : n ≤ 9223372036854775807) :
    Calls Try.prog 6 #[.slice a n c] w fun e w' => e = .returned (.bool true) ∧ Below w.heap.size w w' := by
  have HY := hide (bytes19_calls w a n c)
  by_cases h : n ≤ 1048576
  · rw [decide_eq_true h] at HY
    by_cases h2 : n ≤ 524288
    · have d1 : decide ((524288 : Int) < (n : Int)) = false := decide_eq_false (by omega)
      have HC := hide (clone_calls B w a n c xs hsrc hnil (by omega))
      have hby := hsrc.byte
      have hxl := hsrc.len
      have HE := hide (Below.refl w.heap.size w)
      have HBY := hide hby
      have HXL := hide hxl
      clear hsrc hnil hby hxl HE
      obtain ⟨i0, hi, hz0, hz1, hz2⟩ := info_parts Try.info5
      go_enter Try.func6, Try.ntmps6
      go_wp2_with fail
      refine (unhide HY).mono ?_
      rintro e w' ⟨rfl, hw⟩
      replace hw := hw.symm
      subst hw
      go_wp2_with fail
      refine (unhide HC).mono ?_
      rintro e w1 ⟨a', c', rfl, hs1, hb1⟩
      have HS := hide hs1
      have HB1 := hide hb1
      clear hs1 hb1 HC HY
      go_wp2_with (at_make; refine wpList_make_own _ rfl _ _ 22 rfl w1.heap.size 5 i0 (.int .u8 0) 1 Try.underlying22 hi hz0 hz1 .i64 .i64 _ (2 * n + 2) rfl rfl (by omega) (by rw [hz2]; omega) (by unfold maxLen; omega) (Nat.le_refl _) ?_)
      intro w2 own2 gr2
      have O2 : Own w1.heap.size w2 (.slice (some ⟨w1.heap.size, 0, none⟩) 0 (2 * n + 2)) [] := own2
      have hb12 : Below w1.heap.size w1 w2 := (Below.refl _ w1).grown gr2 (Nat.le_refl _) (fun k e => by cases e)
      have HO2 := hide O2
      have HB12 := hide hb12
      clear own2 O2 gr2 hb12
      go_wp2_with (at_builtin; refine wp_app_lit rfl _ _ rfl w1.heap.size _ [] rfl (unhide HO2) _ _ 1 1 [34] rfl rfl rfl (by simp) (unhide HB12).size ?_)
      intro v3 w3 g3
      have hW : Wr w1.heap.size w1 w3 v3 xs 0 := ⟨by simpa [esc] using g3.own, (unhide HB12).trans (g3.below (unhide HO2) (unhide HB12).size), Nat.le_trans (unhide HB12).size g3.grown.size⟩
      have HW := hide hW
      clear hW g3 HO2 HB12
      go_wp2_with fail
      go_loopg [3, 4, 5] n (fun gk d e i wr => ∃ (k : Nat), i = .int .i64 k ∧ k ≤ n ∧ n ≤ gk + k ∧ e = .bool (flag xs k) ∧ Hid (Wr w1.heap.size w1 wr d xs k))
      case atStart => exact ⟨0, rfl, by omega, by omega, rfl, HW⟩
      case round =>
        clear HW
        obtain ⟨k, rfl, hk, hgk, rfl, HW⟩ := hrel
        have hxl := unhide HXL
        by_cases hlt : k < n
        · have hsc := (unhide HS).carry (unhide HW).bel
          obtain ⟨b, off, ea, hbB, hcell⟩ := hsc.place (by omega)
          subst ea
          have x0 := hcell k hlt
          have hki : (k : Int) < (n : Int) := by omega
          have hlen : (34 :: esc (xs.take k)).length + 2 ≤ 140737488355328 := by
            have := esc_len (xs.take k)
            simp only [List.length_cons, List.length_take] at this ⊢
            omega
          have hkx : k < xs.length := by omega
          have HF := hide (flag_step hkx)
          have hx255 := hsc.at_byte k
          have S1 := hide (fun (w' : World) (v' : Value) => (unhide HW).step1 (w' := w') (v' := v') hkx)
          have S2 := hide (fun (wm w' : World) (vm v' : Value) => (unhide HW).step2 (wm := wm) (w' := w') (vm := vm) (v' := v') hkx)
          obtain ⟨x, hx⟩ : ∃ x, ati xs k = x := ⟨_, rfl⟩
          rw [hx] at x0 HF S1 S2 hx255
          obtain ⟨ys, hys⟩ : ∃ ys, 34 :: esc (xs.take k) = ys := ⟨_, rfl⟩
          rw [hys] at S1 S2 hlen
          have O := hide (show Own w1.heap.size wr u3 ys from hys ▸ (unhide HW).own)
          have hsz := (unhide HW).siz
          have HZ := hide hsz
          clear hx hys hcell hsc hkx hsz hxl
          cases t1 : (x == 34)
          · cases t2 : (x == 92)
            · have hs : spec x = false := by unfold spec; rw [t1, t2]; rfl
              have E1 := hide (show esc1 x = [x] by unfold esc1; rw [hs]; rfl)
              cases t3 : decide (128 ≤ x)
              · have t4 : decide (x ≥ 128) = false := t3
                have ho : oddC x = false := by unfold oddC; rw [hs, t3]; rfl
                rw [ho, Bool.or_false] at HF
                clear hs ho
                go_wp2_with (at_builtin; refine wp_app_lit rfl _ _ rfl w1.heap.size _ ys rfl (unhide O) _ _ 1 1 [x] rfl rfl rfl (by omega) (unhide HZ) ?_)
                intro v' w' g
                have P := hide (unhide S1 w' v' (unhide E1) g)
                clear g S1 S2
                go_wp2_with fail
                go_roundg (gk - 1)
                · exact ⟨k + 1, by go_num, by omega, by omega, by rw [unhide HF], P⟩
                · omega
              · have t4 : decide (x ≥ 128) = true := t3
                have ho : oddC x = true := by unfold oddC; rw [hs, t3]; rfl
                rw [ho, Bool.or_true] at HF
                clear hs ho
                go_wp2_with (at_builtin; refine wp_app_lit rfl _ _ rfl w1.heap.size _ ys rfl (unhide O) _ _ 1 1 [x] rfl rfl rfl (by omega) (unhide HZ) ?_)
                intro v' w' g
                have P := hide (unhide S1 w' v' (unhide E1) g)
                clear g S1 S2
                go_wp2_with fail
                go_roundg (gk - 1)
                · exact ⟨k + 1, by go_num, by omega, by omega, by rw [unhide HF], P⟩
                · omega
            · have hx : x = 92 := eq_of_beq t2
              subst hx
              rw [show oddC 92 = true from rfl, Bool.or_true] at HF
              clear t2 t1
              go_wp2_with (at_builtin; refine wp_app_lit rfl _ _ rfl w1.heap.size _ ys rfl (unhide O) _ _ 1 1 [92] rfl rfl rfl (by omega) (unhide HZ) ?_)
              intro vm wm g
              have hl2 : (ys ++ [92]).length + 1 ≤ 140737488355328 := by simp only [List.length_append, List.length_cons, List.length_nil]; omega
              have G := hide g
              clear g
              go_wp2_with (at_builtin; refine wp_app_lit rfl _ _ rfl w1.heap.size _ (ys ++ [92]) rfl (unhide G).own _ _ 1 1 [92] rfl rfl rfl (by omega) (Nat.le_trans (unhide HZ) (unhide G).grown.size) ?_)
              intro v' w' g2
              have P := hide (unhide S2 wm w' vm v' rfl (unhide G) (by simpa using g2))
              clear g2 S1 S2 G
              go_wp2_with fail
              go_roundg (gk - 1)
              · exact ⟨k + 1, by go_num, by omega, by omega, by rw [unhide HF], P⟩
              · omega
          · have hx : x = 34 := eq_of_beq t1
            subst hx
            rw [show oddC 34 = true from rfl, Bool.or_true] at HF
            clear t1
            go_wp2_with (at_builtin; refine wp_app_lit rfl _ _ rfl w1.heap.size _ ys rfl (unhide O) _ _ 1 1 [92] rfl rfl rfl (by omega) (unhide HZ) ?_)
            intro vm wm g
            have hl2 : (ys ++ [92]).length + 1 ≤ 140737488355328 := by simp only [List.length_append, List.length_cons, List.length_nil]; omega
            have G := hide g
            clear g
            go_wp2_with (at_builtin; refine wp_app_lit rfl _ _ rfl w1.heap.size _ (ys ++ [92]) rfl (unhide G).own _ _ 1 1 [34] rfl rfl rfl (by omega) (Nat.le_trans (unhide HZ) (unhide G).grown.size) ?_)
            intro v' w' g2
            have P := hide (unhide S2 wm w' vm v' rfl (unhide G) (by simpa using g2))
            clear g2 S1 S2 G
            go_wp2_with fail
            go_roundg (gk - 1)
            · exact ⟨k + 1, by go_num, by omega, by omega, by rw [unhide HF], P⟩
            · omega
        · have hkn : k = n := by omega
          subst hkn
          have hd : decide ((k : Int) < (k : Int)) = false := by simp
          have hfl := flag_all xs k (by omega)
          rw [hfl]
          have htk : xs.take k = xs := List.take_of_length_le (by omega)
          have O : Own w1.heap.size wr u3 (34 :: esc xs) := by have := (unhide HW).own; rw [htk] at this; exact this
          have hel := esc_len xs
          have htl := txt_len xs
          have hlen : (34 :: esc xs).length + 1 ≤ 140737488355328 := by simp only [List.length_cons]; omega
          obtain ⟨ys, hys⟩ : ∃ ys, 34 :: esc xs = ys := ⟨_, rfl⟩
          rw [hys] at O hlen
          have HT := hide (show ys ++ [34] = txt xs by rw [← hys]; rfl)
          have HO := hide O
          have HBr := hide (unhide HW).bel
          have HZ := hide (unhide HW).siz
          have HEL := hide hel
          have HTL := hide htl
          clear O HW hfl htk hys hel htl hlt
          go_wp2_with (at_builtin; refine wp_app_lit rfl _ _ rfl w1.heap.size _ ys rfl (unhide HO) _ _ 1 1 [34] rfl rfl rfl (by omega) (unhide HZ) ?_)
          intro v4 w4 g4
          have O4 : Own w1.heap.size w4 v4 (txt xs) := by have := g4.own; rw [unhide HT] at this; exact this
          have B4 : Below w1.heap.size w1 w4 := (unhide HBr).trans (g4.below (unhide HO) (unhide HZ))
          have htl := unhide HTL
          have hel := unhide HEL
          obtain ⟨gb, cap, rfl, hBg, hglt, hle, hcm, hcl⟩ := O4.solid (by omega)
          have HN := hide (zznext_calls w4 gb (txt xs).length cap xs rfl (by omega) hle hcl)
          have HCL := hide hcl
          have HB4 := hide B4
          obtain ⟨m, hm⟩ : ∃ m, (txt xs).length = m := ⟨_, rfl⟩
          rw [hm] at HN HCL hle htl ⊢
          have hmle : m ≤ 1000000000 := by omega
          have HM := hide htl
          have htm : ((m : Int) != (m : Int)) = false := by simp
          have hs4 : w1.heap.size ≤ w4.heap.size := B4.size
          clear g4 O4 B4 hcl hm HO HBr HT hel htl HTL
          go_wp2_with fail
          refine (unhide HN).mono ?_
          rintro e w5 ⟨rfl, hb5⟩
          have B5 : Below w1.heap.size w1 w5 := (unhide HB4).trans (hb5.mono hs4)
          have hcl5 : ∀ j, j < (esc xs).length → w5.cell? ⟨gb, 1 + j, none⟩ = some (.int .u8 (ati (esc xs) j)) := fun j hj => by
            rw [hb5.cell (p := ⟨gb, 1 + j, none⟩) hglt, ← txt_in xs j hj]
            exact unhide HCL (1 + j) (by have := unhide HM; omega)
          have hs5 : w4.heap.size ≤ w5.heap.size := hb5.size
          have HP := hide (zzplain_calls w5 gb m cap (esc xs) (unhide HM).symm hmle hle hcl5 (by omega))
          have HC5 := hide hcl5
          have HB5 := hide B5
          clear B5 hb5 hcl5 HCL HB4 HN
          cases hfb : xs.any oddC
          · rw [plainOf_even (by rw [any_esc]; exact hfb)] at HP
            have hid := esc_id hfb
            rw [hid] at HP HC5
            rw [hxl] at HP HC5
            clear hfb hid
            go_wp2_with fail
            refine (unhide HP).mono ?_
            rintro e w6 ⟨rfl, hb6⟩
            have hb16 : Below w1.heap.size w1 w6 := (unhide HB5).trans (hb6.mono (by omega))
            have hsB : Src w1.heap.size w6 a' k xs := (unhide HS).carry hb16
            have hsA : Src w6.heap.size w6 (some ⟨gb, 1, none⟩) k xs := ⟨hxl, unhide HBY, .inr ⟨gb, 1, rfl, by have := hb6.size; omega, fun j hj => (hb6.cell (p := ⟨gb, 1 + j, none⟩) (by show gb < w5.heap.size; omega)).trans (unhide HC5 j hj)⟩⟩
            have HSM := hide (same_calls w6.heap.size w1.heap.size w6 (some ⟨gb, 1, none⟩) a' k (cap - 1) c' xs hsA hsB (by omega))
            have HF := hide ((unhide HB1).trans (hb16.mono (unhide HB1).size))
            clear hsA hsB hb16 hb6 HP HC5 HB5
            go_wp2_with fail
            refine (unhide HSM).mono ?_
            rintro e w7 ⟨rfl, q, hw⟩
            subst hw
            go_wp2_with fail
            go_ret
            have b := unhide HF
            exact ⟨rfl, ⟨b.os, b.tape, b.output, b.size, b.block⟩⟩
          · rw [plainOf_odd (by rw [any_esc]; exact hfb)] at HP
            have nl : ∀ w : World, (binOp .eql 22 (.slice none 0 0) (.slice none 0 0)).run Try.prog w = .ok (.bool true) w := fun w => Lib.run_eql_slice_nil w 22 5 none 0 0 0 0 Try.underlying22
            clear hfb
            go_wp2_with fail
            refine (unhide HP).mono ?_
            rintro e w6 ⟨rfl, hb6⟩
            have HF := hide ((unhide HB1).trans (((unhide HB5).trans (hb6.mono (by omega))).mono (unhide HB1).size))
            clear hb6 HP HC5 HB5
            go_wp2_with fail
            go_ret
            exact ⟨rfl, unhide HF⟩
    · have d1 : decide ((524288 : Int) < (n : Int)) = true := decide_eq_true (by omega)
      clear hsrc hnil
      go_enter Try.func6, Try.ntmps6
      go_wp2_with fail
      refine (unhide HY).mono ?_
      rintro e w' ⟨rfl, hw⟩
      replace hw := hw.symm
      subst hw
      go_wp2_with fail
      go_ret
      exact ⟨rfl, Below.refl _ _⟩
  · rw [decide_eq_false h] at HY
    clear hsrc hnil
    go_enter Try.func6, Try.ntmps6
    go_wp2_with fail
    refine (unhide HY).mono ?_
    rintro e w' ⟨rfl, hw⟩
    replace hw := hw.symm
    subst hw
    go_wp2_with fail
    go_ret
    exact ⟨rfl, Below.refl _ _⟩
end Go.Proofs.Qxb6001736a
