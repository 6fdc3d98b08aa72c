/-
  SEAT b6001598a. What holds between the statements of zzSjBuild, and what each does to it: no walk here.
-/
import Derived.Test.Qxb6001598aNum
import Derived.Test.Qxb6001598aEnc
namespace Go.Proofs.Qxb6001598a
open Go.RowKit

theorem ati_snoc_all {p : Int → Prop} {xs : List Int} {z : Int} (h : ∀ j, p (ati xs j)) (hz : p z) (h0 : p 0) : ∀ j, p (ati (xs ++ [z]) j) := by
  intro j
  by_cases h1 : j < xs.length
  · rw [ati_left h1]; exact h j
  · by_cases h2 : j = xs.length
    · subst h2
      have : ati (xs ++ [z]) (xs.length + 0) = ati [z] 0 := ati_right
      rw [Nat.add_zero] at this
      rw [this]; exact hz
    · have : ati (xs ++ [z]) j = 0 := by simp [ati]; rw [List.getElem?_eq_none (by simp; omega)]; rfl
      rw [this]; exact h0
theorem ati_take_all {p : Int → Prop} {xs : List Int} {n : Nat} (h : ∀ j, p (ati xs j)) (h0 : p 0) : ∀ j, p (ati (xs.take n) j) := by
  intro j
  by_cases h1 : j < n
  · have : ati (xs.take n) j = ati xs j := by simp [ati, h1]
    rw [this]; exact h j
  · have : ati (xs.take n) j = 0 := by simp [ati, List.getElem?_take, h1]
    rw [this]; exact h0
theorem ati_set_all {p : Int → Prop} {xs : List Int} {i : Nat} {z : Int} (h : ∀ j, p (ati xs j)) (hz : p z) : ∀ j, p (ati (xs.set i z) j) := by
  intro j
  by_cases h1 : i = j
  · by_cases h2 : i < xs.length
    · have : ati (xs.set i z) j = z := by subst h1; simp [ati, h2]
      rw [this]; exact hz
    · have : ati (xs.set i z) j = ati xs j := by rw [List.set_eq_of_length_le (by omega)]
      rw [this]; exact h j
  · have : ati (xs.set i z) j = ati xs j := by simp [ati, List.getElem?_set_ne h1]
    rw [this]; exact h j

/-- A slice of strings that is read; each string at most 2^20 bytes. -/
def sti (ss : List ByteArray) (k : Nat) : ByteArray := ss.getD k ByteArray.empty
structure Strs (B : Nat) (w : World) (ao : Option Addr) (n : Nat) (ss : List ByteArray) : Prop where
  size : ∀ k, k < n → (sti ss k).size ≤ 1048576
  cell : n = 0 ∨ ∃ b off, ao = some ⟨b, off, none⟩ ∧ b < B ∧ ∀ k, k < n → w.cell? ⟨b, off + k, none⟩ = some (.string (sti ss k))
theorem Strs.carry {B : Nat} {w w' : World} {ao : Option Addr} {n : Nat} {ss : List ByteArray} (h : Strs B w ao n ss) (hb : Below B w w') : Strs B w' ao n ss := by
  refine ⟨h.size, ?_⟩
  rcases h.cell with h0 | ⟨b, off, e, hlt, hc⟩
  · exact .inl h0
  · exact .inr ⟨b, off, e, hlt, fun k hk => (hb.cell (p := ⟨b, off + k, none⟩) hlt).trans (hc k hk)⟩
theorem Strs.place {B : Nat} {w : World} {ao : Option Addr} {n : Nat} {ss : List ByteArray} (h : Strs B w ao n ss) (hn : 0 < n) :
    ∃ b off, ao = some ⟨b, off, none⟩ ∧ b < B ∧ ∀ k, k < n → w.cell? ⟨b, off + k, none⟩ = some (.string (sti ss k)) := by
  rcases h.cell with h0 | h
  · omega
  · exact h

/-- Between the statements of a round: what has been written behind xs is ys; nothing yet, or a text with as many containers open as the stack is long. -/
structure Bld (B : Nat) (w wr : World) (v0 u v c : Value) (k m : Nat) (xs ys ss cc : List Int) : Prop where
  st : St B w wr v0 u v c (xs ++ ys) ss cc
  text : (ss = [] ∧ ys = []) ∨ (1 ≤ ss.length ∧ Text ys ss.length)
  same : cc.length = ss.length
  deep : ss.length ≤ 8388608 * k + m
  size : ys.length ≤ 8388608 * k + m
  byte : ∀ j, 0 ≤ ati ss j ∧ ati ss j ≤ 255
  cnts : ∀ j, 0 ≤ ati cc j ∧ ati cc j ≤ 8388608 * k + m

theorem Bld.start {B : Nat} {w : World} {v : Value} {xs : List Int} (h : Own B w v xs) (hB : B ≤ w.heap.size) : Bld B w w v v (.slice none 0 0) (.slice none 0 0) 0 0 xs [] [] [] :=
  ⟨by rw [List.append_nil]; exact St.start h hB, .inl ⟨rfl, rfl⟩, rfl, by simp, by simp, fun j => by simp [ati], fun j => by simp [ati]⟩

theorem Bld.next {B : Nat} {w wr : World} {v0 u v c : Value} {k m : Nat} {xs ys ss cc : List Int} (h : Bld B w wr v0 u v c k m xs ys ss cc) (hm : m ≤ 8388608) : Bld B w wr v0 u v c (k + 1) 0 xs ys ss cc :=
  ⟨h.st, h.text, h.same, by have := h.deep; omega, by have := h.size; omega, h.byte, fun j => by have := h.cnts j; omega⟩
theorem Bld.more {B : Nat} {w wr : World} {v0 u v c : Value} {k m : Nat} {xs ys ss cc : List Int} (h : Bld B w wr v0 u v c k m xs ys ss cc) (m' : Nat) (hm : m ≤ m') : Bld B w wr v0 u v c k m' xs ys ss cc :=
  ⟨h.st, h.text, h.same, by have := h.deep; omega, by have := h.size; omega, h.byte, fun j => by have := h.cnts j; omega⟩
theorem Bld.opened {B : Nat} {w wr : World} {v0 u v c : Value} {k m : Nat} {xs ys ss cc : List Int} (h : Bld B w wr v0 u v c k m xs ys ss cc) (hd : 1 ≤ ss.length) : Text ys ss.length := by
  rcases h.text with ⟨e, _⟩ | h
  · rw [e] at hd; simp at hd
  · exact h.2
theorem Bld.bare {B : Nat} {w wr : World} {v0 u v c : Value} {k m : Nat} {xs ys ss cc : List Int} (h : Bld B w wr v0 u v c k m xs ys ss cc) (hd : ss.length = 0) : ys = [] := by
  rcases h.text with ⟨_, e⟩ | h
  · exact e
  · omega

theorem Bld.add {B : Nat} {w wr w' : World} {v0 u v c u' : Value} {k m : Nat} {xs ys ss cc zs : List Int} (h : Bld B w wr v0 u v c k m xs ys ss cc) (g : Grew B wr w' u u' (xs ++ (ys ++ zs))) (hd : 1 ≤ ss.length) (hz : fold (0, ss.length) zs = (0, ss.length)) (hb : Bytes zs) (m' : Nat) (hm : m + zs.length ≤ m') :
    Bld B w w' v0 u' v c k m' xs (ys ++ zs) ss cc :=
  ⟨h.st.out_grew g, .inr ⟨hd, (h.opened hd).more hd hz hb⟩, h.same, by have := h.deep; omega, by have := h.size; rw [List.length_append]; omega, h.byte, fun j => by have := h.cnts j; omega⟩

theorem Bld.store {B : Nat} {w wr : World} {v0 u v : Value} {g n cap k m : Nat} {xs ys ss cc : List Int} (h : Bld B w wr v0 u v (.slice (some ⟨g, 0, none⟩) n cap) k m xs ys ss cc) (hn : ss.length = n) (j : Nat) :
    Bld B w (wr.setCell ⟨g, j, none⟩ (.int .i64 (ati cc j + 1))) v0 u v (.slice (some ⟨g, 0, none⟩) n cap) k (m + 1) xs ys ss (cc.set j (ati cc j + 1)) :=
  ⟨h.st.stored (by rw [h.same]; exact hn) j _, h.text, by rw [List.length_set]; exact h.same, by have := h.deep; omega, by have := h.size; omega, h.byte,
    ati_set_all (p := fun x => 0 ≤ x ∧ x ≤ ((8388608 * k + (m + 1) : Nat) : Int)) (fun i => by have := h.cnts i; omega) (by have := h.cnts j; omega)⟩

theorem Text.first {c : Int} (h : c = 123 ∨ c = 91) : Text ([] ++ [c]) 1 := Text.start h
theorem Bld.push {B : Nat} {w wr w1 w2 w3 : World} {v0 u v c u' v' c' : Value} {k m : Nat} {xs ys ss cc : List Int} {c1 p : Int} (h : Bld B w wr v0 u v c k m xs ys ss cc)
    (g1 : Grew B wr w1 u u' (xs ++ (ys ++ [c1]))) (hc : c1 = 123 ∨ c1 = 91) (g2 : Grew w.heap.size w1 w2 v v' (ss ++ [p])) (hp : 0 ≤ p ∧ p ≤ 255) (g3 : GrewI w.heap.size w2 w3 c c' (cc ++ [0])) (m' : Nat) (hm : m + 1 ≤ m') :
    Bld B w w3 v0 u' v' c' k m' xs (ys ++ [c1]) (ss ++ [p]) (cc ++ [0]) := by
  refine ⟨((h.st.out_grew g1).stk_grew g2).cnt_grew g3, .inr ⟨by simp, ?_⟩, by rw [List.length_append, List.length_append, h.same]; rfl, by have := h.deep; rw [List.length_append]; simp; omega,
    by have := h.size; rw [List.length_append]; simp; omega, ati_snoc_all (p := fun x => 0 ≤ x ∧ x ≤ 255) h.byte hp (by omega),
    ati_snoc_all (p := fun x => 0 ≤ x ∧ x ≤ ((8388608 * k + m' : Nat) : Int)) (fun i => by have := h.cnts i; omega) (by omega) (by omega)⟩
  rcases h.text with ⟨e1, e2⟩ | ⟨hd, ht⟩
  · subst e1 e2; exact Text.first hc
  · rw [List.length_append]; exact ht.opens hd hc

theorem Bld.close {B : Nat} {w wr w' : World} {v0 u u' : Value} {g g' t cap cap' k m : Nat} {xs ys ss cc : List Int} {c1 : Int} (h : Bld B w wr v0 u (.slice (some ⟨g, 0, none⟩) (t + 1) cap) (.slice (some ⟨g', 0, none⟩) (t + 1) cap') k m xs ys ss cc) (ht : ss.length = t + 1)
    (g1 : Grew B wr w' u u' (xs ++ (ys ++ [c1]))) (hc : c1 = 125 ∨ c1 = 93) (h1 : 1 ≤ t) :
    Bld B w w' v0 u' (.slice (some ⟨g, 0, none⟩) t cap) (.slice (some ⟨g', 0, none⟩) t cap') k (m + 1) xs (ys ++ [c1]) (ss.take t) (cc.take t) := by
  have hl : (ss.take t).length = t := by rw [List.length_take]; omega
  have hl' : (cc.take t).length = t := by rw [List.length_take, h.same]; omega
  refine ⟨(h.st.out_grew g1).pop ht (by rw [h.same]; exact ht), .inr ⟨by omega, ?_⟩, by rw [hl, hl'], by have := h.deep; rw [hl]; omega, by have := h.size; rw [List.length_append]; simp; omega,
    ati_take_all (p := fun x => 0 ≤ x ∧ x ≤ 255) h.byte (by omega), ati_take_all (p := fun x => 0 ≤ x ∧ x ≤ ((8388608 * k + (m + 1) : Nat) : Int)) (fun i => by have := h.cnts i; omega) (by omega)⟩
  have := (h.opened (by omega)).closes (by omega) hc
  rw [ht, Nat.add_sub_cancel] at this
  rw [hl]; exact this
/-- The last bracket closes the value. -/
theorem Bld.last {B : Nat} {w wr w' : World} {v0 u u' v c : Value} {k m : Nat} {xs ys ss cc : List Int} {c1 : Int} (h : Bld B w wr v0 u v c k m xs ys ss cc) (ht : ss.length = 1) (g1 : Grew B wr w' u u' (xs ++ (ys ++ [c1]))) (hc : c1 = 125 ∨ c1 = 93) :
    IsVal (ys ++ [c1]) ∧ (ys ++ [c1]).length ≤ 8388608 * k + m + 1 ∧ Grew B w w' v0 u' (xs ++ (ys ++ [c1])) := by
  have := (h.opened (by omega)).closes (by omega) hc
  rw [ht] at this
  exact ⟨.inr (.inr this.box), by have := h.size; rw [List.length_append]; simp; omega, h.st.out.trans g1⟩

/-- In the last loop: out and the stack. -/
structure Fin2 (B : Nat) (w wr : World) (v0 u v : Value) (N : Nat) (xs ys ss : List Int) : Prop where
  out : Grew B w wr v0 u (xs ++ ys)
  stk : Own w.heap.size wr v ss
  apart : Apart u v
  text : Text ys ss.length
  size : ys.length + ss.length ≤ N
  byte : ∀ j, 0 ≤ ati ss j ∧ ati ss j ≤ 255
theorem Bld.fin {B : Nat} {w wr : World} {v0 u v c : Value} {k n : Nat} {xs ys ss cc : List Int} (h : Bld B w wr v0 u v c k 0 xs ys ss cc) (hk : k ≤ n) (hd : 1 ≤ ss.length) : Fin2 B w wr v0 u v (16777216 * n) xs ys ss :=
  ⟨h.st.out, h.st.stk, h.st.a1, h.opened hd, by have := h.size; have := h.deep; omega, h.byte⟩
theorem Fin2.close {B : Nat} {w wr w' : World} {v0 u u' : Value} {g t cap N : Nat} {xs ys ss : List Int} {c1 : Int} (h : Fin2 B w wr v0 u (.slice (some ⟨g, 0, none⟩) (t + 1) cap) N xs ys ss) (ht : ss.length = t + 1)
    (g1 : Grew B wr w' u u' (xs ++ (ys ++ [c1]))) (hc : c1 = 125 ∨ c1 = 93) : Fin2 B w w' v0 u' (.slice (some ⟨g, 0, none⟩) t cap) N xs (ys ++ [c1]) (ss.take t) := by
  have hl : (ss.take t).length = t := by rw [List.length_take]; omega
  refine ⟨h.out.trans g1, (h.stk.keep g1.grown h.apart.off).pop ht, (g1.apart h.apart (fun k e => (h.stk.lt k e).2)).same rfl, ?_, by have := h.size; rw [List.length_append, hl]; simp; omega,
    ati_take_all (p := fun x => 0 ≤ x ∧ x ≤ 255) h.byte (by omega)⟩
  have := h.text.closes (by omega) hc
  rw [ht, Nat.add_sub_cancel] at this
  rw [hl]; exact this
end Go.Proofs.Qxb6001598a
