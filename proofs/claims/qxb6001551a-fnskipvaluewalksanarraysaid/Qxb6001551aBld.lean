/-
  SEAT b6001551a. What holds between the rounds of zzBuild, and what each statement of a round does to it: no walk here.
-/
import Derived.Test.Qxb6001551aEmit2
namespace Go.Proofs.Qxb6001551a
open Go.RowKit

theorem Own.base {B B' : Nat} {w : World} {v : Value} {xs : List Int} (h : Own B w v xs) (hB : B' ≤ B) : Own B' w v xs := by
  refine ⟨h.1, ?_⟩
  rcases h.2 with h | ⟨g, cap, cur, e, hb, r⟩
  · exact .inl h
  · exact .inr ⟨g, cap, cur, e, Nat.le_trans hB hb, r⟩
theorem Own.under {B : Nat} {w w' : World} {v : Value} {xs : List Int} (h : Own B w v xs) (hb : Below w.heap.size w w') : Own B w' v xs := by
  refine ⟨h.1, ?_⟩
  rcases h.2 with h | ⟨g, cap, cur, e, h1, h2, r⟩
  · exact .inl h
  · exact .inr ⟨g, cap, cur, e, h1, by rw [hb.block g (Array.getElem?_eq_some_iff.1 h2).1]; exact h2, r⟩
theorem Src.wide {B B' : Nat} {w : World} {ao : Option Addr} {n : Nat} {xs : List Int} (h : Src B w ao n xs) (hB : B ≤ B') : Src B' w ao n xs := by
  refine ⟨h.len, h.byte, ?_⟩
  rcases h.cell with h0 | ⟨b, off, e, hlt, hc⟩
  · exact .inl h0
  · exact .inr ⟨b, off, e, by omega, hc⟩

theorem St.nil (w : World) : St w.heap.size w w (.slice none 0 0) (.slice none 0 0) (.slice none 0 0) [] [] [] :=
  ⟨Own.nil _ _, Own.nil _ _, OwnI.nil _ _, Apart.nil _, Apart.nil _, Apart.nil _, Below.refl _ _, Nat.le_refl _⟩

theorem ati_snoc_all {p : Int → Prop} {xs : List Int} {z : Int} (h : ∀ j, p (ati xs j)) (hz : p z) (h0 : p 0) : ∀ j, p (ati (xs ++ [z]) j) := by
  intro j
  by_cases h1 : j < xs.length
  · rw [ati_left h1]; exact h j
  · by_cases h2 : j = xs.length
    · subst h2
      have : ati (xs ++ [z]) (xs.length + 0) = ati [z] 0 := ati_right
      rw [Nat.add_zero] at this
      rw [this]; exact hz
    · have : ati (xs ++ [z]) j = 0 := by simp [ati]; rw [List.getElem?_eq_none (by simp; omega)]; rfl
      rw [this]; exact h0
theorem ati_take_all {p : Int → Prop} {xs : List Int} {n : Nat} (h : ∀ j, p (ati xs j)) (h0 : p 0) : ∀ j, p (ati (xs.take n) j) := by
  intro j
  by_cases h1 : j < n
  · have : ati (xs.take n) j = ati xs j := by simp [ati, h1]
    rw [this]; exact h j
  · have : ati (xs.take n) j = 0 := by simp [ati, List.getElem?_take, h1]
    rw [this]; exact h0
theorem ati_set_all {p : Int → Prop} {xs : List Int} {i : Nat} {z : Int} (h : ∀ j, p (ati xs j)) (hz : p z) : ∀ j, p (ati (xs.set i z) j) := by
  intro j
  by_cases h1 : i = j
  · by_cases h2 : i < xs.length
    · have : ati (xs.set i z) j = z := by subst h1; simp [ati, h2]
      rw [this]; exact hz
    · have : ati (xs.set i z) j = ati xs j := by rw [List.set_eq_of_length_le (by omega)]
      rw [this]; exact h j
  · have : ati (xs.set i z) j = ati xs j := by simp [ati, List.getElem?_set_ne h1]
    rw [this]; exact h j

/-- Between the statements of a round: out, stack and counts, as many containers open as the stack is long. -/
structure Bld (w wr : World) (u v c : Value) (k m : Nat) (ys ss cc : List Int) : Prop where
  st : St w.heap.size w wr u v c ys ss cc
  text : Text ys ss.length
  same : cc.length = ss.length
  deep : ss.length ≤ 25 * k + m
  size : ys.length ≤ 25 * k + m
  byte : ∀ j, 0 ≤ ati ss j ∧ ati ss j ≤ 255
  cnts : ∀ j, 0 ≤ ati cc j ∧ ati cc j ≤ 25 * k + m

theorem Bld.start {w wr : World} {u v c : Value} {c1 p : Int} (h : St w.heap.size w wr u v c [c1] [p] [0]) (hc : c1 = 123 ∨ c1 = 91) (hp : 0 ≤ p ∧ p ≤ 255) : Bld w wr u v c 1 0 [c1] [p] [0] := by
  refine ⟨h, Text.start hc, rfl, by simp, by simp, fun j => ?_, fun j => ?_⟩
  · cases j with
    | zero => exact hp
    | succ j => simp [ati]
  · cases j with
    | zero => simp [ati]
    | succ j => simp [ati]

theorem Bld.next {w wr : World} {u v c : Value} {k m : Nat} {ys ss cc : List Int} (h : Bld w wr u v c k m ys ss cc) (hm : m ≤ 25) : Bld w wr u v c (k + 1) 0 ys ss cc :=
  ⟨h.st, h.text, h.same, by have := h.deep; omega, by have := h.size; omega, h.byte, fun j => by have := h.cnts j; omega⟩

theorem Bld.add {w wr w' : World} {u v c u' : Value} {k m : Nat} {ys ss cc zs : List Int} (h : Bld w wr u v c k m ys ss cc) (g : Grew w.heap.size wr w' u u' (ys ++ zs)) (hd : 1 ≤ ss.length) (hz : fold (0, ss.length) zs = (0, ss.length)) (hb : Bytes zs) (m' : Nat) (hm : m + zs.length ≤ m') :
    Bld w w' u' v c k m' (ys ++ zs) ss cc :=
  ⟨h.st.out_grew g, h.text.more hd hz hb, h.same, by have := h.deep; omega, by have := h.size; rw [List.length_append]; omega, h.byte, fun j => by have := h.cnts j; omega⟩

theorem Bld.more {w wr : World} {u v c : Value} {k m : Nat} {ys ss cc : List Int} (h : Bld w wr u v c k m ys ss cc) (m' : Nat) (hm : m ≤ m') : Bld w wr u v c k m' ys ss cc :=
  ⟨h.st, h.text, h.same, by have := h.deep; omega, by have := h.size; omega, h.byte, fun j => by have := h.cnts j; omega⟩

theorem Bld.store {w wr : World} {u v : Value} {g n cap k m : Nat} {ys ss cc : List Int} (h : Bld w wr u v (.slice (some ⟨g, 0, none⟩) n cap) k m ys ss cc) (hn : ss.length = n) (j : Nat) :
    Bld w (wr.setCell ⟨g, j, none⟩ (.int .i64 (ati cc j + 1))) u v (.slice (some ⟨g, 0, none⟩) n cap) k (m + 1) ys ss (cc.set j (ati cc j + 1)) :=
  ⟨h.st.stored (by rw [h.same]; exact hn) j _, h.text, by rw [List.length_set]; exact h.same, by have := h.deep; omega, by have := h.size; omega, h.byte,
    ati_set_all (p := fun x => 0 ≤ x ∧ x ≤ ((25 * k + (m + 1) : Nat) : Int)) (fun i => by have := h.cnts i; omega) (by have := h.cnts j; omega)⟩

theorem Bld.push {w wr w1 w2 w3 : World} {u v c u' v' c' : Value} {k m : Nat} {ys ss cc : List Int} {c1 p : Int} (h : Bld w wr u v c k m ys ss cc) (hd : 1 ≤ ss.length)
    (g1 : Grew w.heap.size wr w1 u u' (ys ++ [c1])) (hc : c1 = 123 ∨ c1 = 91) (g2 : Grew w.heap.size w1 w2 v v' (ss ++ [p])) (hp : 0 ≤ p ∧ p ≤ 255) (g3 : GrewI w.heap.size w2 w3 c c' (cc ++ [0])) :
    Bld w w3 u' v' c' k (m + 1) (ys ++ [c1]) (ss ++ [p]) (cc ++ [0]) :=
  ⟨((h.st.out_grew g1).stk_grew g2).cnt_grew g3, by rw [List.length_append]; exact h.text.opens hd hc, by rw [List.length_append, List.length_append, h.same]; rfl, by have := h.deep; rw [List.length_append]; simp; omega,
    by have := h.size; rw [List.length_append]; simp; omega, ati_snoc_all (p := fun x => 0 ≤ x ∧ x ≤ 255) h.byte hp (by omega),
    ati_snoc_all (p := fun x => 0 ≤ x ∧ x ≤ ((25 * k + (m + 1) : Nat) : Int)) (fun i => by have := h.cnts i; omega) (by omega) (by omega)⟩

theorem Bld.close {w wr w' : World} {u u' : Value} {g g' t cap cap' k m : Nat} {ys ss cc : List Int} {c1 : Int} (h : Bld w wr u (.slice (some ⟨g, 0, none⟩) (t + 1) cap) (.slice (some ⟨g', 0, none⟩) (t + 1) cap') k m ys ss cc) (ht : ss.length = t + 1)
    (g1 : Grew w.heap.size wr w' u u' (ys ++ [c1])) (hc : c1 = 125 ∨ c1 = 93) :
    Bld w w' u' (.slice (some ⟨g, 0, none⟩) t cap) (.slice (some ⟨g', 0, none⟩) t cap') k (m + 1) (ys ++ [c1]) (ss.take t) (cc.take t) := by
  have hl : (ss.take t).length = t := by rw [List.length_take]; omega
  have hl' : (cc.take t).length = t := by rw [List.length_take, h.same]; omega
  refine ⟨(h.st.out_grew g1).pop ht (by rw [h.same]; exact ht), ?_, by rw [hl, hl'], by have := h.deep; rw [hl]; omega, by have := h.size; rw [List.length_append]; simp; omega,
    ati_take_all (p := fun x => 0 ≤ x ∧ x ≤ 255) h.byte (by omega), ati_take_all (p := fun x => 0 ≤ x ∧ x ≤ ((25 * k + (m + 1) : Nat) : Int)) (fun i => by have := h.cnts i; omega) (by omega)⟩
  have := h.text.closes (by omega) hc
  rw [ht, Nat.add_sub_cancel] at this
  rw [hl]; exact this

/-- In the last loop: out and the stack. -/
structure Fin2 (w wr : World) (u v : Value) (N : Nat) (ys ss : List Int) : Prop where
  out : Own w.heap.size wr u ys
  stk : Own w.heap.size wr v ss
  apart : Apart u v
  bel : Below w.heap.size w wr
  text : Text ys ss.length
  size : ys.length + ss.length ≤ N
  byte : ∀ j, 0 ≤ ati ss j ∧ ati ss j ≤ 255

theorem Bld.fin {w wr : World} {u v c : Value} {k n : Nat} {ys ss cc : List Int} (h : Bld w wr u v c k 0 ys ss cc) (hk : k ≤ n) : Fin2 w wr u v (50 * n) ys ss :=
  ⟨h.st.out, h.st.stk, h.st.a1, h.st.bel, h.text, by have := h.size; have := h.deep; omega, h.byte⟩
theorem Fin2.close {w wr w' : World} {u u' : Value} {g t cap N : Nat} {ys ss : List Int} {c1 : Int} (h : Fin2 w wr u (.slice (some ⟨g, 0, none⟩) (t + 1) cap) N ys ss) (ht : ss.length = t + 1)
    (g1 : Grew w.heap.size wr w' u u' (ys ++ [c1])) (hc : c1 = 125 ∨ c1 = 93) : Fin2 w w' u' (.slice (some ⟨g, 0, none⟩) t cap) N (ys ++ [c1]) (ss.take t) := by
  have hl : (ss.take t).length = t := by rw [List.length_take]; omega
  refine ⟨g1.own, (h.stk.keep g1.grown h.apart.off).pop ht, (g1.apart h.apart (fun k e => (h.stk.lt k e).2)).same rfl, h.bel.trans (g1.below h.out h.bel.size), ?_, by have := h.size; rw [List.length_append, hl]; simp; omega,
    ati_take_all (p := fun x => 0 ≤ x ∧ x ≤ 255) h.byte (by omega)⟩
  have := h.text.closes (by omega) hc
  rw [ht, Nat.add_sub_cancel] at this
  rw [hl]; exact this
end Go.Proofs.Qxb6001551a
