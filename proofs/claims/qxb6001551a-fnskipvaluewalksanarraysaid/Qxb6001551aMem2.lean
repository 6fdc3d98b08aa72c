/-
  SEAT b6001551a. MORE MEMORY WORDS: several rows of the call's own side by side ('Apart'), a []int of the call's own ('OwnI', 'GrewI'), a pop, a store.
-/
import Derived.Test.Qxb6001551aMem
import Derived.WalkSmall
namespace Go.Proofs.Qxb6001551a
open Go.RowKit

/-- The two values' own rows are two. -/
def Apart (v u : Value) : Prop := ∀ k, v.ownBlock = some k → u.ownBlock ≠ some k

theorem Apart.symm {v u : Value} (h : Apart v u) : Apart u v := fun k hk e => h k e hk
theorem Apart.nil (u : Value) : Apart (.slice none 0 0) u := fun k hk => by simp [Value.ownBlock] at hk
theorem Apart.off {v u : Value} (h : Apart v u) : u.ownBlock = none ∨ u.ownBlock ≠ v.ownBlock := by
  cases hv : v.ownBlock with
  | none => cases hu : u.ownBlock with
    | none => exact .inl rfl
    | some k => exact .inr (by simp)
  | some k => exact .inr (h k hv)
theorem Apart.same {v u u' : Value} (h : Apart v u) (e : u'.ownBlock = u.ownBlock) : Apart v u' := fun k hk => by rw [e]; exact h k hk
/-- A row that lies where it lay, or in a new block, stays apart from one that was there. -/
theorem Apart.grow {w : World} {v v' u : Value} (h : Apart v u) (hu : ∀ k, u.ownBlock = some k → k < w.heap.size) (hl : v'.ownBlock = v.ownBlock ∨ ∃ g, v'.ownBlock = some g ∧ w.heap.size ≤ g) : Apart v' u := by
  intro k hk he
  rcases hl with e | ⟨g, e, hg⟩
  · exact h k (by rw [← e]; exact hk) he
  · rw [e] at hk
    simp only [Option.some.injEq] at hk
    have := hu k he
    omega

theorem Grew.apart {B : Nat} {w w' : World} {v v' u : Value} {xs : List Int} (g : Grew B w w' v v' xs) (h : Apart v u) (hu : ∀ k, u.ownBlock = some k → k < w.heap.size) : Apart v' u := h.grow hu g.lies

/-- A []int of the call's own. -/
def I64 (xs : List Int) : List Value := xs.map (Value.int .i64)
theorem length_I64 (xs : List Int) : (I64 xs).length = xs.length := by simp [I64]
def OwnI (B : Nat) (w : World) (v : Value) (xs : List Int) : Prop := w.ownsRow B 3 1 v xs.length (I64 xs)
theorem OwnI.nil (B : Nat) (w : World) : OwnI B w (.slice none 0 0) [] := World.ownsRow_nil w B 3 1
theorem OwnI.lt {B : Nat} {w : World} {v : Value} {xs : List Int} (h : OwnI B w v xs) : ∀ k, v.ownBlock = some k → B ≤ k ∧ k < w.heap.size := World.ownsRow.lt h
theorem OwnI.alloc {B : Nat} {w : World} {v : Value} {xs : List Int} (h : OwnI B w v xs) (o : Obj) : OwnI B (w.alloc o) v xs := World.ownsRow.alloc h o
theorem OwnI.keep {B : Nat} {w w' : World} {v : Value} {xs : List Int} {row : Option Nat} (h : OwnI B w v xs) (hg : w.grownBy w' row) (hne : v.ownBlock = none ∨ v.ownBlock ≠ row) : OwnI B w' v xs := World.ownsRow.kept h hg hne

theorem OwnI.solid {B : Nat} {w : World} {v : Value} {xs : List Int} (h : OwnI B w v xs) (hn : 0 < xs.length) :
    ∃ g cap, v = .slice (some ⟨g, 0, none⟩) xs.length cap ∧ B ≤ g ∧ g < w.heap.size ∧ xs.length ≤ cap ∧ cap ≤ maxLen ∧ ∀ k, k < xs.length → w.cell? ⟨g, k, none⟩ = some (.int .i64 (ati xs k)) := by
  rcases h.2 with ⟨_, h0⟩ | ⟨g, cap, cur, e, hb, hg, h1, h2, h3, h4⟩
  · omega
  · refine ⟨g, cap, e, hb, (Array.getElem?_eq_some_iff.1 hg).1, h1, h2, fun k hk => ?_⟩
    have := World.ownsRow.cells h (g := g) (by rw [e]; rfl) k (.int .i64 (ati xs k)) (by simp [I64, ati, hk])
    rw [Go.WideShapes.add_plain, Nat.zero_add] at this
    exact this
theorem OwnI.form {B : Nat} {w : World} {v : Value} {xs : List Int} (h : OwnI B w v xs) : ∃ ao cap, v = .slice ao xs.length cap ∧ xs.length ≤ cap ∧ cap ≤ maxLen := by
  rcases h.2 with ⟨e, h0⟩ | ⟨g, cap, cur, e, _, _, h1, h2, _⟩
  · exact ⟨none, 0, by rw [e, h0], by omega, Nat.zero_le _⟩
  · exact ⟨_, cap, e, h1, h2⟩

structure GrewI (B : Nat) (w w' : World) (v v' : Value) (xs : List Int) : Prop where
  own : OwnI B w' v' xs
  grown : w.grownBy w' v.ownBlock
  lies : v'.ownBlock = v.ownBlock ∨ ∃ g, v'.ownBlock = some g ∧ w.heap.size ≤ g

/-- Cut at its end: 'x = x[:len(x)-1]'. -/
theorem Own.pop {B : Nat} {w : World} {g n cap : Nat} {xs : List Int} (h : Own B w (.slice (some ⟨g, 0, none⟩) (n + 1) cap) xs) (hn : xs.length = n + 1) : Own B w (.slice (some ⟨g, 0, none⟩) n cap) (xs.take n) := by
  have e : xs = xs.take n ++ xs.drop n := (List.take_append_drop n xs).symm
  have hl : (xs.take n).length = n := by rw [List.length_take]; omega
  unfold Own at h ⊢
  rw [hl]
  rw [hn, e, U8_append] at h
  exact ownsRow_pop (by rw [length_U8, hl]; omega) h
theorem OwnI.pop {B : Nat} {w : World} {g n cap : Nat} {xs : List Int} (h : OwnI B w (.slice (some ⟨g, 0, none⟩) (n + 1) cap) xs) (hn : xs.length = n + 1) : OwnI B w (.slice (some ⟨g, 0, none⟩) n cap) (xs.take n) := by
  have e : xs = xs.take n ++ xs.drop n := (List.take_append_drop n xs).symm
  have hl : (xs.take n).length = n := by rw [List.length_take]; omega
  have e2 : I64 xs = I64 (xs.take n) ++ I64 (xs.drop n) := by unfold I64; rw [← List.map_append, ← e]
  unfold OwnI at h ⊢
  rw [hl]
  rw [hn, e2] at h
  exact ownsRow_pop (by rw [length_I64, hl]; omega) h

/-- A store into it. -/
theorem OwnI.stored {B : Nat} {w : World} {g n cap : Nat} {xs : List Int} (h : OwnI B w (.slice (some ⟨g, 0, none⟩) n cap) xs) (hn : xs.length = n) (j : Nat) (z : Int) :
    OwnI B (w.setCell ⟨g, j, none⟩ (.int .i64 z)) (.slice (some ⟨g, 0, none⟩) n cap) (xs.set j z) ∧ w.grownBy (w.setCell ⟨g, j, none⟩ (.int .i64 z)) (some g) := by
  unfold OwnI at h ⊢
  rw [hn] at h
  have := World.ownsRow.stored h j (.int .i64 z)
  rw [List.length_set, hn]
  refine ⟨?_, this.2⟩
  have e : I64 (xs.set j z) = (I64 xs).set j (.int .i64 z) := by unfold I64; rw [List.map_set]
  rw [e]; exact this.1
theorem OwnI.free {B : Nat} {w : World} {g n cap : Nat} {xs : List Int} (h : OwnI B w (.slice (some ⟨g, 0, none⟩) n cap) xs) (hn : xs.length = n) (j : Nat) : w.frozen? ⟨g, j, none⟩ = false := by
  unfold OwnI at h
  rw [hn] at h
  exact World.ownsRow.frozenAt h j

/-- append of one listed number onto a []int of the call's own. -/
theorem wp_appI_lit {w : World} {ops : Array Oper} {rest : List Oper} {o : Oper} {a : Act} {Q : Exit → Act → World → Prop} (hgd : o.guard = none) (s x : Operand)
    (ho : o.op = .call { callee := .builtin .append, args := #[s, x], argTypes := #[38, 38] })
    (B : Nat) (v : Value) (xs : List Int) (hs : a.eval s = v) (hown : OwnI B w v xs) (z : Int) (t : TypeId) (c : Nat)
    (hx : a.eval x = .slice (some ⟨w.heap.size, 0, none⟩) 1 c)
    (hlen : xs.length + 1 ≤ 1000000000) (hB : B ≤ w.heap.size)
    (h : ∀ v' w', GrewI B w w' v v' (xs ++ [z]) → wpList Try.prog ops Q rest (a.put o.dst v') w') : wpList Try.prog ops Q (o :: rest) a (w.alloc (.cells #[.int .i64 z] t)) := by
  obtain ⟨i0, hi, hz0, hz1, hz2⟩ := info_parts Try.info3
  refine wpList_append_own_at _ hgd s x 38 ho B 3 i0 (.int .i64 0) 1 8 Try.underlying38 hi hz0 hz1 hz2 rfl (by decide) v xs.length (I64 xs) hs (hown.alloc _) ⟨w.heap.size, 0, none⟩ 1 c (I64 [z]) hx (by rw [length_I64]; rfl) (cell_one_new w _ t) ?_ (by unfold maxLen; omega) (by omega) (by simp; omega) ?_
  · intro u hu; simp only [I64, List.mem_map] at hu; obtain ⟨y, _, rfl⟩ := hu; rfl
  · intro v' w' h1 h2 _ h4
    refine h v' w' ⟨?_, ?_, ?_⟩
    · show w'.ownsRow B 3 1 v' (xs ++ [z]).length (I64 (xs ++ [z]))
      have e : I64 (xs ++ [z]) = I64 xs ++ I64 [z] := by simp [I64]
      rw [e, List.length_append]; exact h1
    · exact ⟨h2.os, h2.tape, h2.output, Nat.le_trans (by simp) h2.size, fun k hk hne => (h2.block k (by simp; omega) hne).trans (Below.heap_alloc w _ k hk)⟩
    · rcases h4 with e | e
      · exact .inl e
      · exact .inr ⟨_, e, by simp⟩

/-- THREE ROWS OF THE CALL's OWN SIDE BY SIDE: bytes written, a stack of bytes, a row of counts; below B nothing has turned since w. -/
structure St (B : Nat) (w wr : World) (u v c : Value) (ys ss cc : List Int) : Prop where
  out : Own B wr u ys
  stk : Own B wr v ss
  cnt : OwnI B wr c cc
  a1 : Apart u v
  a2 : Apart u c
  a3 : Apart v c
  bel : Below B w wr
  siz : B ≤ wr.heap.size

theorem St.out_grew {B : Nat} {w wr w' : World} {u v c u' : Value} {ys ss cc ys' : List Int} (h : St B w wr u v c ys ss cc) (g : Grew B wr w' u u' ys') : St B w w' u' v c ys' ss cc :=
  ⟨g.own, h.stk.keep g.grown h.a1.off, h.cnt.keep g.grown h.a2.off, g.apart h.a1 (fun k e => (h.stk.lt k e).2), g.apart h.a2 (fun k e => (h.cnt.lt k e).2), h.a3,
    h.bel.trans (g.below h.out h.siz), Nat.le_trans h.siz g.grown.size⟩
theorem St.stk_grew {B : Nat} {w wr w' : World} {u v c v' : Value} {ys ss cc ss' : List Int} (h : St B w wr u v c ys ss cc) (g : Grew B wr w' v v' ss') : St B w w' u v' c ys ss' cc :=
  ⟨h.out.keep g.grown h.a1.symm.off, g.own, h.cnt.keep g.grown h.a3.off, (g.apart h.a1.symm (fun k e => (h.out.lt k e).2)).symm, h.a2, g.apart h.a3 (fun k e => (h.cnt.lt k e).2),
    h.bel.trans (g.below h.stk h.siz), Nat.le_trans h.siz g.grown.size⟩
theorem St.cnt_grew {B : Nat} {w wr w' : World} {u v c c' : Value} {ys ss cc cc' : List Int} (h : St B w wr u v c ys ss cc) (g : GrewI B wr w' c c' cc') : St B w w' u v c' ys ss cc' :=
  ⟨h.out.keep g.grown h.a2.symm.off, h.stk.keep g.grown h.a3.symm.off, g.own, h.a1, (h.a2.symm.grow (fun k e => (h.out.lt k e).2) g.lies).symm, (h.a3.symm.grow (fun k e => (h.stk.lt k e).2) g.lies).symm,
    h.bel.trans ((Below.refl B wr).grown g.grown h.siz (fun k e => (h.cnt.lt k e).1)), Nat.le_trans h.siz g.grown.size⟩
theorem St.pop {B : Nat} {w wr : World} {u : Value} {g g' n cap cap' : Nat} {ys ss cc : List Int} (h : St B w wr u (.slice (some ⟨g, 0, none⟩) (n + 1) cap) (.slice (some ⟨g', 0, none⟩) (n + 1) cap') ys ss cc) (h1 : ss.length = n + 1) (h2 : cc.length = n + 1) :
    St B w wr u (.slice (some ⟨g, 0, none⟩) n cap) (.slice (some ⟨g', 0, none⟩) n cap') ys (ss.take n) (cc.take n) :=
  ⟨h.out, h.stk.pop h1, h.cnt.pop h2, h.a1.same rfl, h.a2.same rfl, (h.a3.same rfl : Apart _ (.slice (some ⟨g', 0, none⟩) n cap')), h.bel, h.siz⟩
theorem St.pop1 {B : Nat} {w wr : World} {u c : Value} {g n cap : Nat} {ys ss cc : List Int} (h : St B w wr u (.slice (some ⟨g, 0, none⟩) (n + 1) cap) c ys ss cc) (h1 : ss.length = n + 1) :
    St B w wr u (.slice (some ⟨g, 0, none⟩) n cap) c ys (ss.take n) cc :=
  ⟨h.out, h.stk.pop h1, h.cnt, h.a1.same rfl, h.a2, h.a3, h.bel, h.siz⟩
theorem St.stored {B : Nat} {w wr : World} {u v : Value} {g n cap : Nat} {ys ss cc : List Int} (h : St B w wr u v (.slice (some ⟨g, 0, none⟩) n cap) ys ss cc) (hn : cc.length = n) (j : Nat) (z : Int) :
    St B w (wr.setCell ⟨g, j, none⟩ (.int .i64 z)) u v (.slice (some ⟨g, 0, none⟩) n cap) ys ss (cc.set j z) := by
  have hs := h.cnt.stored hn j z
  have hb : B ≤ g := (h.cnt.lt g rfl).1
  exact ⟨h.out.keep hs.2 h.a2.symm.off, h.stk.keep hs.2 h.a3.symm.off, hs.1, h.a1, h.a2, h.a3, h.bel.setCell hb _, by simpa using h.siz⟩
end Go.Proofs.Qxb6001551a
