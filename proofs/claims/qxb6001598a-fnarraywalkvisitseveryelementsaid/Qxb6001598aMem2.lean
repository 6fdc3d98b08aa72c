/-
  SEAT b6001598a. MORE MEMORY WORDS: several rows of the call's own side by side ('Apart'), a []int of the call's own ('OwnI', 'GrewI'), a pop, a store.
-/
import Derived.Test.Qxb6001598aMem
import Derived.WalkSmall
namespace Go.Proofs.Qxb6001598a
open Go.RowKit

/-- The two values' own rows are two. -/
def Apart (v u : Value) : Prop := ∀ k, v.ownBlock = some k → u.ownBlock ≠ some k

theorem Apart.symm {v u : Value} (h : Apart v u) : Apart u v := fun k hk e => h k e hk
theorem Apart.nil (u : Value) : Apart (.slice none 0 0) u := fun k hk => by simp [Value.ownBlock] at hk
theorem Apart.off {v u : Value} (h : Apart v u) : u.ownBlock = none ∨ u.ownBlock ≠ v.ownBlock := by
  cases hv : v.ownBlock with
  | none => cases hu : u.ownBlock with
    | none => exact .inl rfl
    | some k => exact .inr (by simp)
  | some k => exact .inr (h k hv)
theorem Apart.same {v u u' : Value} (h : Apart v u) (e : u'.ownBlock = u.ownBlock) : Apart v u' := fun k hk => by rw [e]; exact h k hk
/-- A row that lies where it lay, or in a new block, stays apart from one that was there. -/
theorem Apart.grow {w : World} {v v' u : Value} (h : Apart v u) (hu : ∀ k, u.ownBlock = some k → k < w.heap.size) (hl : v'.ownBlock = v.ownBlock ∨ ∃ g, v'.ownBlock = some g ∧ w.heap.size ≤ g) : Apart v' u := by
  intro k hk he
  rcases hl with e | ⟨g, e, hg⟩
  · exact h k (by rw [← e]; exact hk) he
  · rw [e] at hk
    simp only [Option.some.injEq] at hk
    have := hu k he
    omega

theorem Grew.apart {B : Nat} {w w' : World} {v v' u : Value} {xs : List Int} (g : Grew B w w' v v' xs) (h : Apart v u) (hu : ∀ k, u.ownBlock = some k → k < w.heap.size) : Apart v' u := h.grow hu g.lies

/-- A []int of the call's own. -/
def I64 (xs : List Int) : List Value := xs.map (Value.int .i64)
theorem length_I64 (xs : List Int) : (I64 xs).length = xs.length := by simp [I64]
def OwnI (B : Nat) (w : World) (v : Value) (xs : List Int) : Prop := w.ownsRow B 3 1 v xs.length (I64 xs)
theorem OwnI.nil (B : Nat) (w : World) : OwnI B w (.slice none 0 0) [] := World.ownsRow_nil w B 3 1
theorem OwnI.lt {B : Nat} {w : World} {v : Value} {xs : List Int} (h : OwnI B w v xs) : ∀ k, v.ownBlock = some k → B ≤ k ∧ k < w.heap.size := World.ownsRow.lt h
theorem OwnI.alloc {B : Nat} {w : World} {v : Value} {xs : List Int} (h : OwnI B w v xs) (o : Obj) : OwnI B (w.alloc o) v xs := World.ownsRow.alloc h o
theorem OwnI.keep {B : Nat} {w w' : World} {v : Value} {xs : List Int} {row : Option Nat} (h : OwnI B w v xs) (hg : w.grownBy w' row) (hne : v.ownBlock = none ∨ v.ownBlock ≠ row) : OwnI B w' v xs := World.ownsRow.kept h hg hne

theorem OwnI.solid {B : Nat} {w : World} {v : Value} {xs : List Int} (h : OwnI B w v xs) (hn : 0 < xs.length) :
    ∃ g cap, v = .slice (some ⟨g, 0, none⟩) xs.length cap ∧ B ≤ g ∧ g < w.heap.size ∧ xs.length ≤ cap ∧ cap ≤ maxLen ∧ ∀ k, k < xs.length → w.cell? ⟨g, k, none⟩ = some (.int .i64 (ati xs k)) := by
  rcases h.2 with ⟨_, h0⟩ | ⟨g, cap, cur, e, hb, hg, h1, h2, h3, h4⟩
  · omega
  · refine ⟨g, cap, e, hb, (Array.getElem?_eq_some_iff.1 hg).1, h1, h2, fun k hk => ?_⟩
    have := World.ownsRow.cells h (g := g) (by rw [e]; rfl) k (.int .i64 (ati xs k)) (by simp [I64, ati, hk])
    rw [Go.WideShapes.add_plain, Nat.zero_add] at this
    exact this
theorem OwnI.form {B : Nat} {w : World} {v : Value} {xs : List Int} (h : OwnI B w v xs) : ∃ ao cap, v = .slice ao xs.length cap ∧ xs.length ≤ cap ∧ cap ≤ maxLen := by
  rcases h.2 with ⟨e, h0⟩ | ⟨g, cap, cur, e, _, _, h1, h2, _⟩
  · exact ⟨none, 0, by rw [e, h0], by omega, Nat.zero_le _⟩
  · exact ⟨_, cap, e, h1, h2⟩

structure GrewI (B : Nat) (w w' : World) (v v' : Value) (xs : List Int) : Prop where
  own : OwnI B w' v' xs
  grown : w.grownBy w' v.ownBlock
  lies : v'.ownBlock = v.ownBlock ∨ ∃ g, v'.ownBlock = some g ∧ w.heap.size ≤ g

/-- Cut at its end: 'x = x[:len(x)-1]'. -/
theorem Own.pop {B : Nat} {w : World} {g n cap : Nat} {xs : List Int} (h : Own B w (.slice (some ⟨g, 0, none⟩) (n + 1) cap) xs) (hn : xs.length = n + 1) : Own B w (.slice (some ⟨g, 0, none⟩) n cap) (xs.take n) := by
  have e : xs = xs.take n ++ xs.drop n := (List.take_append_drop n xs).symm
  have hl : (xs.take n).length = n := by rw [List.length_take]; omega
  unfold Own at h ⊢
  rw [hl]
  rw [hn, e, U8_append] at h
  exact ownsRow_pop (by rw [length_U8, hl]; omega) h
theorem OwnI.pop {B : Nat} {w : World} {g n cap : Nat} {xs : List Int} (h : OwnI B w (.slice (some ⟨g, 0, none⟩) (n + 1) cap) xs) (hn : xs.length = n + 1) : OwnI B w (.slice (some ⟨g, 0, none⟩) n cap) (xs.take n) := by
  have e : xs = xs.take n ++ xs.drop n := (List.take_append_drop n xs).symm
  have hl : (xs.take n).length = n := by rw [List.length_take]; omega
  have e2 : I64 xs = I64 (xs.take n) ++ I64 (xs.drop n) := by unfold I64; rw [← List.map_append, ← e]
  unfold OwnI at h ⊢
  rw [hl]
  rw [hn, e2] at h
  exact ownsRow_pop (by rw [length_I64, hl]; omega) h

/-- A store into it. -/
theorem OwnI.stored {B : Nat} {w : World} {g n cap : Nat} {xs : List Int} (h : OwnI B w (.slice (some ⟨g, 0, none⟩) n cap) xs) (hn : xs.length = n) (j : Nat) (z : Int) :
    OwnI B (w.setCell ⟨g, j, none⟩ (.int .i64 z)) (.slice (some ⟨g, 0, none⟩) n cap) (xs.set j z) ∧ w.grownBy (w.setCell ⟨g, j, none⟩ (.int .i64 z)) (some g) := by
  unfold OwnI at h ⊢
  rw [hn] at h
  have := World.ownsRow.stored h j (.int .i64 z)
  rw [List.length_set, hn]
  refine ⟨?_, this.2⟩
  have e : I64 (xs.set j z) = (I64 xs).set j (.int .i64 z) := by unfold I64; rw [List.map_set]
  rw [e]; exact this.1
theorem OwnI.free {B : Nat} {w : World} {g n cap : Nat} {xs : List Int} (h : OwnI B w (.slice (some ⟨g, 0, none⟩) n cap) xs) (hn : xs.length = n) (j : Nat) : w.frozen? ⟨g, j, none⟩ = false := by
  unfold OwnI at h
  rw [hn] at h
  exact World.ownsRow.frozenAt h j

/-- append of one listed number onto a []int of the call's own. -/
theorem wp_appI_lit {w : World} {ops : Array Oper} {rest : List Oper} {o : Oper} {a : Act} {Q : Exit → Act → World → Prop} (hgd : o.guard = none) (s x : Operand)
    (ho : o.op = .call { callee := .builtin .append, args := #[s, x], argTypes := #[36, 36] })
    (B : Nat) (v : Value) (xs : List Int) (hs : a.eval s = v) (hown : OwnI B w v xs) (z : Int) (t : TypeId) (c : Nat)
    (hx : a.eval x = .slice (some ⟨w.heap.size, 0, none⟩) 1 c)
    (hlen : xs.length + 1 ≤ 10000000000000) (hB : B ≤ w.heap.size)
    (h : ∀ v' w', GrewI B w w' v v' (xs ++ [z]) → wpList Try.prog ops Q rest (a.put o.dst v') w') : wpList Try.prog ops Q (o :: rest) a (w.alloc (.cells #[.int .i64 z] t)) := by
  obtain ⟨i0, hi, hz0, hz1, hz2⟩ := info_parts Try.info3
  refine wpList_append_own_at _ hgd s x 36 ho B 3 i0 (.int .i64 0) 1 8 Try.underlying36 hi hz0 hz1 hz2 rfl (by decide) v xs.length (I64 xs) hs (hown.alloc _) ⟨w.heap.size, 0, none⟩ 1 c (I64 [z]) hx (by rw [length_I64]; rfl) (cell_one_new w _ t) ?_ (by unfold maxLen; omega) (by omega) (by simp; omega) ?_
  · intro u hu; simp only [I64, List.mem_map] at hu; obtain ⟨y, _, rfl⟩ := hu; rfl
  · intro v' w' h1 h2 _ h4
    refine h v' w' ⟨?_, ?_, ?_⟩
    · show w'.ownsRow B 3 1 v' (xs ++ [z]).length (I64 (xs ++ [z]))
      have e : I64 (xs ++ [z]) = I64 xs ++ I64 [z] := by simp [I64]
      rw [e, List.length_append]; exact h1
    · exact ⟨h2.os, h2.tape, h2.output, Nat.le_trans (by simp) h2.size, fun k hk hne => (h2.block k (by simp; omega) hne).trans (Below.heap_alloc w _ k hk)⟩
    · rcases h4 with e | e
      · exact .inl e
      · exact .inr ⟨_, e, by simp⟩

theorem Own.base {B B' : Nat} {w : World} {v : Value} {xs : List Int} (h : Own B w v xs) (hB : B' ≤ B) : Own B' w v xs := by
  refine ⟨h.1, ?_⟩
  rcases h.2 with h | ⟨g, cap, cur, e, hb, r⟩
  · exact .inl h
  · exact .inr ⟨g, cap, cur, e, Nat.le_trans hB hb, r⟩
theorem Src.wide {B B' : Nat} {w : World} {ao : Option Addr} {n : Nat} {xs : List Int} (h : Src B w ao n xs) (hB : B ≤ B') : Src B' w ao n xs := by
  refine ⟨h.len, h.byte, ?_⟩
  rcases h.cell with h0 | ⟨b, off, e, hlt, hc⟩
  · exact .inl h0
  · exact .inr ⟨b, off, e, by omega, hc⟩
theorem Own.at {B : Nat} {w : World} {g n cap k : Nat} {xs : List Int} (h : Own B w (.slice (some ⟨g, 0, none⟩) n cap) xs) (hn : xs.length = n) (hk : k < n) : w.cell? ⟨g, k, none⟩ = some (.int .u8 (ati xs k)) := by
  obtain ⟨g', cap', e, _, _, _, _, hc⟩ := h.solid (by omega)
  simp only [Value.slice.injEq, Option.some.injEq, Addr.mk.injEq] at e
  rw [e.1.1]; exact hc k (by omega)
theorem OwnI.at {B : Nat} {w : World} {g n cap k : Nat} {xs : List Int} (h : OwnI B w (.slice (some ⟨g, 0, none⟩) n cap) xs) (hn : xs.length = n) (hk : k < n) : w.cell? ⟨g, k, none⟩ = some (.int .i64 (ati xs k)) := by
  obtain ⟨g', cap', e, _, _, _, _, hc⟩ := h.solid (by omega)
  simp only [Value.slice.injEq, Option.some.injEq, Addr.mk.injEq] at e
  rw [e.1.1]; exact hc k (by omega)

/-- A step beside it: a row of the call's own, newer than w, is written; what Grew says since w stands. -/
theorem Grew.aside {B : Nat} {w wr w' : World} {v u : Value} {xs : List Int} {row : Option Nat} (h : Grew B w wr v u xs) (hg : wr.grownBy w' row) (hnew : ∀ k, row = some k → w.heap.size ≤ k) (ha : u.ownBlock = none ∨ u.ownBlock ≠ row) : Grew B w w' v u xs := by
  refine ⟨h.own.keep hg ha, ⟨hg.os.trans h.grown.os, hg.tape.trans h.grown.tape, hg.output.trans h.grown.output, Nat.le_trans h.grown.size hg.size, fun k hk hne => ?_⟩, h.lies⟩
  refine (hg.block k (Nat.lt_of_lt_of_le hk h.grown.size) ?_).trans (h.grown.block k hk hne)
  intro e
  have := hnew k e.symm
  omega

/-- THREE ROWS OF THE CALL's OWN SIDE BY SIDE: bytes written onto a row that came in (v0), a stack of bytes and a row of counts, both newer than w. -/
structure St (B : Nat) (w wr : World) (v0 u v c : Value) (ys ss cc : List Int) : Prop where
  out : Grew B w wr v0 u ys
  stk : Own w.heap.size wr v ss
  cnt : OwnI w.heap.size wr c cc
  a1 : Apart u v
  a2 : Apart u c
  a3 : Apart v c
  siz : B ≤ w.heap.size

theorem St.start {B : Nat} {w : World} {v : Value} {xs : List Int} (h : Own B w v xs) (hB : B ≤ w.heap.size) : St B w w v v (.slice none 0 0) (.slice none 0 0) xs [] [] :=
  ⟨Grew.refl h, Own.nil _ _, OwnI.nil _ _, (Apart.nil _).symm, (Apart.nil _).symm, Apart.nil _, hB⟩
theorem St.sizr {B : Nat} {w wr : World} {v0 u v c : Value} {ys ss cc : List Int} (h : St B w wr v0 u v c ys ss cc) : w.heap.size ≤ wr.heap.size := h.out.grown.size
theorem St.out_grew {B : Nat} {w wr w' : World} {v0 u v c u' : Value} {ys ss cc ys' : List Int} (h : St B w wr v0 u v c ys ss cc) (g : Grew B wr w' u u' ys') : St B w w' v0 u' v c ys' ss cc :=
  ⟨h.out.trans g, h.stk.keep g.grown h.a1.off, h.cnt.keep g.grown h.a2.off, g.apart h.a1 (fun k e => (h.stk.lt k e).2), g.apart h.a2 (fun k e => (h.cnt.lt k e).2), h.a3, h.siz⟩
theorem St.stk_grew {B : Nat} {w wr w' : World} {v0 u v c v' : Value} {ys ss cc ss' : List Int} (h : St B w wr v0 u v c ys ss cc) (g : Grew w.heap.size wr w' v v' ss') : St B w w' v0 u v' c ys ss' cc :=
  ⟨h.out.aside g.grown (fun k e => (h.stk.lt k e).1) h.a1.symm.off, g.own, h.cnt.keep g.grown h.a3.off, (g.apart h.a1.symm (fun k e => (h.out.own.lt k e).2)).symm, h.a2, g.apart h.a3 (fun k e => (h.cnt.lt k e).2), h.siz⟩
theorem St.cnt_grew {B : Nat} {w wr w' : World} {v0 u v c c' : Value} {ys ss cc cc' : List Int} (h : St B w wr v0 u v c ys ss cc) (g : GrewI w.heap.size wr w' c c' cc') : St B w w' v0 u v c' ys ss cc' :=
  ⟨h.out.aside g.grown (fun k e => (h.cnt.lt k e).1) h.a2.symm.off, h.stk.keep g.grown h.a3.symm.off, g.own, h.a1, (h.a2.symm.grow (fun k e => (h.out.own.lt k e).2) g.lies).symm, (h.a3.symm.grow (fun k e => (h.stk.lt k e).2) g.lies).symm, h.siz⟩
theorem St.pop {B : Nat} {w wr : World} {v0 u : Value} {g g' n cap cap' : Nat} {ys ss cc : List Int} (h : St B w wr v0 u (.slice (some ⟨g, 0, none⟩) (n + 1) cap) (.slice (some ⟨g', 0, none⟩) (n + 1) cap') ys ss cc) (h1 : ss.length = n + 1) (h2 : cc.length = n + 1) :
    St B w wr v0 u (.slice (some ⟨g, 0, none⟩) n cap) (.slice (some ⟨g', 0, none⟩) n cap') ys (ss.take n) (cc.take n) :=
  ⟨h.out, h.stk.pop h1, h.cnt.pop h2, h.a1.same rfl, h.a2.same rfl, (h.a3.same rfl : Apart _ (.slice (some ⟨g', 0, none⟩) n cap')), h.siz⟩
theorem St.stored {B : Nat} {w wr : World} {v0 u v : Value} {g n cap : Nat} {ys ss cc : List Int} (h : St B w wr v0 u v (.slice (some ⟨g, 0, none⟩) n cap) ys ss cc) (hn : cc.length = n) (j : Nat) (z : Int) :
    St B w (wr.setCell ⟨g, j, none⟩ (.int .i64 z)) v0 u v (.slice (some ⟨g, 0, none⟩) n cap) ys ss (cc.set j z) := by
  have hs := h.cnt.stored hn j z
  have hb : w.heap.size ≤ g := (h.cnt.lt g rfl).1
  exact ⟨h.out.aside hs.2 (fun k e => by simp only [Option.some.injEq] at e; omega) h.a2.symm.off, h.stk.keep hs.2 h.a3.symm.off, hs.1, h.a1, h.a2, h.a3, h.siz⟩
end Go.Proofs.Qxb6001598a
