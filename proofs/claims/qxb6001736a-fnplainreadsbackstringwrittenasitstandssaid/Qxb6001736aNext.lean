/-
  SEAT b6001736a. THE WALK of (*tokens).next over a text that the law wrote: one string token, the whole text.
-/
import Derived.Test.Qxb6001736aSkip
import Derived.Test.Qxb6001736aEsc
import Derived.WalkSpells
namespace Go.Proofs.Qxb6001736a
open Go.RowKit

/-- The reader's state in memory: the struct at T, the text at g, the result's slot at R. -/
structure Tk (w wr : World) (T R g n c : Nat) (xs : List Int) (k : Nat) : Prop where
  dat : wr.cell? ⟨T, 0, none⟩ = some (.slice (some ⟨g, 0, none⟩) n c)
  pos : wr.cell? ⟨T, 1, none⟩ = some (.int .i64 k)
  text : ∀ j, j < n → wr.cell? ⟨g, j, none⟩ = some (.int .u8 (ati xs j))
  fz : wr.frozen? ⟨T, 1, none⟩ = false
  r0 : wr.cell? ⟨R, 0, none⟩ = some (.int .u8 0)
  r1 : wr.cell? ⟨R, 1, none⟩ = some (.slice none 0 0)
  z0 : wr.frozen? ⟨R, 0, none⟩ = false
  z1 : wr.frozen? ⟨R, 1, none⟩ = false
  bel : Below T w wr
  tg : T ≠ g
  rt : R ≠ T
  rg : R ≠ g

theorem Tk.drewN {w wr : World} {T R g n c : Nat} {xs : List Int} {k : Nat} (h : Tk w wr T R g n c xs k) (q : Nat) : Tk w (wr.drewN q) T R g n c xs k :=
  ⟨h.dat, h.pos, h.text, h.fz, h.r0, h.r1, h.z0, h.z1, ⟨h.bel.os, h.bel.tape, h.bel.output, h.bel.size, h.bel.block⟩, h.tg, h.rt, h.rg⟩

theorem Tk.put {w wr : World} {T R g n c : Nat} {xs : List Int} {k : Nat} (h : Tk w wr T R g n c xs k) (j : Nat) : Tk w (wr.setCell ⟨T, 1, none⟩ (.int .i64 j)) T R g n c xs j where
  dat := by rw [World.cell?_setCell_other (h := by simp)]; exact h.dat
  pos := World.cell?_setCell_same _ _ _ h.pos
  text := fun i hi => by rw [World.cell?_setCell_other (h := by simp [h.tg])]; exact h.text i hi
  fz := by rw [World.frozen?_setCell]; exact h.fz
  r0 := by rw [World.cell?_setCell_other (h := by simp)]; exact h.r0
  r1 := by rw [World.cell?_setCell_other (h := by simp [h.rt.symm])]; exact h.r1
  z0 := by rw [World.frozen?_setCell]; exact h.z0
  z1 := by rw [World.frozen?_setCell]; exact h.z1
  bel := h.bel.setCell (Nat.le_refl _) _
  tg := h.tg
  rt := h.rt
  rg := h.rg

theorem text_byte {ys : List Int} (h : ∀ y ∈ ys, 0 ≤ y ∧ y ≤ 255) (i : Nat) : 0 ≤ ati ys i ∧ ati ys i ≤ 255 := by
  by_cases hk : i < ys.length
  · rw [ati_lt hk]; exact h _ (List.getElem_mem _)
  · have : ati ys i = 0 := by simp [ati]; rw [List.getElem?_eq_none (by omega)]; rfl
    omega

set_option maxHeartbeats 2000000 in
set_option maxRecDepth 100000 in
theorem next_calls (w : World) (T g n c : Nat) (ys : List Int) (hn : (txt ys).length = n) (hn1 : n ≤ 1000000000) (hc : n ≤ c)
    (hd : w.cell? ⟨T, 0, none⟩ = some (.slice (some ⟨g, 0, none⟩) n c)) (ha : w.cell? ⟨T, 1, none⟩ = some (.int .i64 0)) (hf : w.frozen? ⟨T, 1, none⟩ = false)
    (htx : ∀ j, j < n → w.cell? ⟨g, j, none⟩ = some (.int .u8 (ati (txt ys) j))) (hgT : g < T) :
    Calls Try.prog 26 #[.pointer (some ⟨T, 0, none⟩)] w fun e w' => e = .returned (.agg #[.int .u8 34, .slice (some ⟨g, 0, none⟩) n c]) ∧ w'.cell? ⟨T, 1, none⟩ = some (.int .i64 n) ∧ Below T w w' := by
  have hT : T < w.heap.size := World.block_lt_of_cell? _ _ hd
  have hn0 : 2 ≤ n := by rw [← hn, txt_len]; omega
  have hq := htx 0 (by omega)
  rw [txt_zero] at hq
  have HS := hide (skip_calls (w.alloc (.cells #[.int .u8 0, .slice none 0 0] 53)) T g n c (by omega) hn1 (by rw [World.cell?_alloc_past _ _ _ hT]; exact hd) (by rw [World.cell?_alloc_past _ _ _ hT]; exact ha) (by rw [World.cell?_alloc_past _ _ _ (by omega)]; exact hq))
  have HK : Hid (∀ q, Tk w ((w.alloc (.cells #[.int .u8 0, .slice none 0 0] 53)).drewN q) T w.heap.size g n c (txt ys) 0) := hide fun q => Tk.drewN (k := 0) ⟨by rw [World.cell?_alloc_past _ _ _ hT]; exact hd, by rw [World.cell?_alloc_past _ _ _ hT]; exact ha,
      fun j hj => by rw [World.cell?_alloc_past _ _ _ (by omega)]; exact htx j hj, by rw [World.frozen?_alloc_past _ _ _ hT]; exact hf,
      by rw [World.cell?_alloc_at _ _ _ _ rfl]; rfl, by rw [World.cell?_alloc_at _ _ _ _ rfl]; rfl, by rw [World.frozen?_alloc_at _ _ _ _ rfl], by rw [World.frozen?_alloc_at _ _ _ _ rfl],
      (Below.refl T w).alloc (by omega) _, by omega, by omega, by omega⟩ q
  have HX := hide hn
  have t1 : ((0 : Int) == (n : Int)) = false := beq_eq_false_iff_ne.2 (by omega)
  clear hd ha hf htx hq hn
  go_enter Try.func26, Try.ntmps26
  go_wp2_with fail
  refine (unhide HS).mono ?_
  rintro e w' ⟨rfl, q, hw⟩
  have hTk : Tk w w' T w.heap.size g n c (txt ys) 0 := by subst hw; exact unhide HK q
  clear hw HK HS
  have d := hTk.dat
  have p := hTk.pos
  have f := hTk.fz
  have x0 := hTk.text 0 (by omega)
  rw [txt_zero] at x0
  have H := hide hTk
  clear hTk
  have hi0 : (0 : Int) < (n : Int) := by omega
  go_wp2_with fail
  go_quiet (fail)
  go_wp2_with fail
  go_loopg [] ys.length (fun gk wr => ∃ i, i ≤ ys.length ∧ ys.length ≤ gk + i ∧ Hid (Tk w wr T w.heap.size g n c (txt ys) (posn ys i)))
  case atStart =>
    refine ⟨0, by omega, by omega, hide ?_⟩
    rw [posn_zero]
    exact ((unhide H).drewN _).put 1
  case round =>
    clear d p f x0 H
    obtain ⟨i, hi, hgi, hT2⟩ := hrel
    have d := (unhide hT2).dat
    have p := (unhide hT2).pos
    have f := (unhide hT2).fz
    have hpl := posn_le ys i
    rw [unhide HX] at hpl
    have x0 := (unhide hT2).text (posn ys i) (by omega)
    by_cases hiy : i < ys.length
    · cases hs : spec (ati ys i)
      · obtain ⟨e1, e2⟩ := posn_plain hiy hs
        rw [e1] at x0
        have P := hide e2
        obtain ⟨x, hx⟩ : ∃ x, ati ys i = x := ⟨_, rfl⟩
        obtain ⟨k, hk⟩ : ∃ k, posn ys i = k := ⟨_, rfl⟩
        rw [hx] at x0 hs
        rw [hk] at p hpl x0 hT2 P
        have y1 : (x != 34) = true := by unfold spec at hs; simp only [Bool.or_eq_false_iff] at hs; simp only [bne, hs.1, Bool.not_false]
        have y2 : (x == 92) = false := by unfold spec at hs; simp only [Bool.or_eq_false_iff] at hs; exact hs.2
        have hkn : (k : Int) < (n : Int) := by omega
        clear hs e1 e2 hx hk
        go_wp2_with fail
        go_quiet (fail)
        go_wp2_with fail
        go_quiet (fail)
        go_wp2_with fail
        go_roundg (gk - 1)
        · refine ⟨i + 1, by omega, by omega, hide ?_⟩
          rw [unhide P]
          exact ((unhide hT2).drewN _).put (k + 1)
        · omega
      · obtain ⟨e1, e2⟩ := posn_spec hiy hs
        rw [e1] at x0
        have P := hide e2
        obtain ⟨k, hk⟩ : ∃ k, posn ys i = k := ⟨_, rfl⟩
        rw [hk] at p hpl x0 hT2 P
        have hkn : (k : Int) < (n : Int) := by omega
        clear hs e1 e2 hk
        go_wp2_with fail
        go_quiet (fail)
        go_wp2_with fail
        go_quiet (fail)
        go_wp2_with fail
        go_roundg (gk - 1)
        · refine ⟨i + 1, by omega, by omega, hide ?_⟩
          rw [unhide P]
          exact (((unhide hT2).drewN _).put (k + 1)).put (k + 2)
        · omega
    · have hiz : i = ys.length := by omega
      subst hiz
      have e1 := txt_last ys
      have e2 := posn_end ys
      rw [e1] at x0
      rw [unhide HX] at e2
      have P := hide e2
      obtain ⟨k, hk⟩ : ∃ k, posn ys ys.length = k := ⟨_, rfl⟩
      rw [hk] at p hpl x0 hT2 P
      have hkn : (k : Int) < (n : Int) := by omega
      have r0 := (unhide hT2).r0
      have r1 := (unhide hT2).r1
      have z0 := (unhide hT2).z0
      have z1 := (unhide hT2).z1
      clear e1 e2 hk
      go_wp2_with fail
      go_quiet (fail)
      go_wp2_with fail
      have hW : Tk w ((wr.drewN nq).setCell ⟨T, 1, none⟩ (.int .i64 ((k : Int) + 1))) T w.heap.size g n c (txt ys) n := by
        have := ((unhide hT2).drewN nq).put (k + 1)
        rw [unhide P] at this
        have e : ((k : Int) + 1) = (n : Int) := by have := unhide P; omega
        rw [e]
        exact this
      clear d p f x0 r0 r1 z0 z1
      revert hW
      generalize (wr.drewN nq).setCell ⟨T, 1, none⟩ (.int .i64 ((k : Int) + 1)) = W2
      intro hW
      have d := hW.dat
      have p := hW.pos
      have r0 := hW.r0
      have r1 := hW.r1
      have z0 := hW.z0
      have z1 := hW.z1
      have H2 := hide hW
      have hb1 : (n : Int) ≤ (c : Int) := by omega
      clear hW hT2
      go_region
      have hW3 : ((W2.setCell ⟨w.heap.size, 0, none⟩ (.int .u8 34)).setCell ⟨w.heap.size, 1, none⟩ (.slice (some ⟨g, 0, none⟩) n c)).drew.cell? ⟨T, 1, none⟩ = some (.int .i64 n) := by
        rw [World.cell?_drew, World.cell?_setCell_other (h := by show ¬ _ = _; intro e; injection e; omega), World.cell?_setCell_other (h := by simp)]; exact p
      have c0 : ((W2.setCell ⟨w.heap.size, 0, none⟩ (.int .u8 34)).setCell ⟨w.heap.size, 1, none⟩ (.slice (some ⟨g, 0, none⟩) n c)).drew.cell? ⟨w.heap.size, 0, none⟩ = some (.int .u8 34) := by
        rw [World.cell?_drew, World.cell?_setCell_other (h := by simp)]; exact World.cell?_setCell_same _ _ _ r0
      have c1 : ((W2.setCell ⟨w.heap.size, 0, none⟩ (.int .u8 34)).setCell ⟨w.heap.size, 1, none⟩ (.slice (some ⟨g, 0, none⟩) n c)).drew.cell? ⟨w.heap.size, 1, none⟩ = some (.slice (some ⟨g, 0, none⟩) n c) := by
        rw [World.cell?_drew]; exact World.cell?_setCell_same _ _ _ (by rw [World.cell?_setCell_other (h := by simp)]; exact r1)
      have bl : Below T w ((W2.setCell ⟨w.heap.size, 0, none⟩ (.int .u8 34)).setCell ⟨w.heap.size, 1, none⟩ (.slice (some ⟨g, 0, none⟩) n c)).drew :=
        (((unhide H2).bel.setCell (by show T ≤ w.heap.size; omega) _).setCell (by show T ≤ w.heap.size; omega) _).drew
      have B := hide bl
      clear bl r0 r1 z0 z1 d p H2
      revert hW3 c0 c1 B
      generalize ((W2.setCell ⟨w.heap.size, 0, none⟩ (.int .u8 34)).setCell ⟨w.heap.size, 1, none⟩ (.slice (some ⟨g, 0, none⟩) n c)).drew = W3
      intro hW3 c0 c1 B
      go_wp2_with fail
      refine bodyPost_ret (v := .agg #[.int .u8 34, .slice (some ⟨g, 0, none⟩) n c]) (by simp [results, Try.results26, go_sem, c0, c1]) rfl ⟨rfl, hW3, unhide B⟩
end Go.Proofs.Qxb6001736a
