/-
  SEAT b6001736a. The memory words that this seat's walks share: 'Own' (a []byte that the call itself has made holds these numbers), 'Grew' (what a run of appends does to it and to the world), 'Src' (a []byte that is only read), the law of append in these words.
-/
import Derived.Test.Qxb6001736aProg
import Derived.WalkKit
import Derived.OpenShut
import Derived.Maps.AppendAt
import Derived.Laws.AppendOwnNone
namespace Go.Proofs.Qxb6001736a
open Go.RowKit

theorem Try.info5 : (Try.prog.info? 5).map (fun i => (i.zero, i.size, i.bytes)) = some (some (.int .u8 0), 1, 1) := by kernel_rfl
theorem Try.info3 : (Try.prog.info? 3).map (fun i => (i.zero, i.size, i.bytes)) = some (some (.int .i64 0), 1, 8) := by kernel_rfl

/-- A fact kept from the walk, and fetched again. -/
theorem hide {p : Prop} (h : p) : Hid p := h
theorem unhide {p : Prop} (h : Hid p) : p := h

/-- Numbers as cells of bytes. -/
def U8 (xs : List Int) : List Value := xs.map (Value.int .u8)
/-- The k-th number; 0 beyond the end. -/
def ati (xs : List Int) (k : Nat) : Int := xs.getD k 0

theorem length_U8 (xs : List Int) : (U8 xs).length = xs.length := by simp [U8]
theorem U8_append (xs ys : List Int) : U8 (xs ++ ys) = U8 xs ++ U8 ys := by simp [U8]

theorem ati_lt {xs : List Int} {k : Nat} (h : k < xs.length) : ati xs k = xs[k] := by simp [ati, h]
theorem ati_left {xs ys : List Int} {k : Nat} (h : k < xs.length) : ati (xs ++ ys) k = ati xs k := by
  simp [ati, List.getElem?_append_left h]
theorem ati_right {xs ys : List Int} {k : Nat} : ati (xs ++ ys) (xs.length + k) = ati ys k := by
  simp [ati, List.getElem?_append_right]
theorem ati_drop (xs : List Int) (i k : Nat) : ati (xs.drop i) k = ati xs (i + k) := by
  simp [ati]
theorem take_ati {xs : List Int} {k : Nat} (h : k < xs.length) : xs.take (k + 1) = xs.take k ++ [ati xs k] := by
  rw [List.take_succ_eq_append_getElem h, ati_lt h]
theorem drop_ati {xs : List Int} {k : Nat} (h : k < xs.length) : xs.drop k = ati xs k :: xs.drop (k + 1) := by
  rw [List.drop_eq_getElem_cons h, ati_lt h]

/-- A []byte of the call's own (its block from B on) that holds xs. -/
def Own (B : Nat) (w : World) (v : Value) (xs : List Int) : Prop := w.ownsRow B 5 1 v xs.length (U8 xs)

theorem Own.nil (B : Nat) (w : World) : Own B w (.slice none 0 0) [] := World.ownsRow_nil w B 5 1

/-- Of v, that held something in w, has become v', that holds xs in w'; besides v's own row nothing that was there has turned. -/
structure Grew (B : Nat) (w w' : World) (v v' : Value) (xs : List Int) : Prop where
  own : Own B w' v' xs
  grown : w.grownBy w' v.ownBlock
  lies : v'.ownBlock = v.ownBlock ∨ ∃ g, v'.ownBlock = some g ∧ w.heap.size ≤ g

theorem Grew.refl {B : Nat} {w : World} {v : Value} {xs : List Int} (h : Own B w v xs) : Grew B w w v v xs := ⟨h, World.grownBy.refl _ _, .inl rfl⟩

theorem Grew.trans {B : Nat} {w w1 w2 : World} {v v1 v2 : Value} {xs ys : List Int} (h : Grew B w w1 v v1 xs) (k : Grew B w1 w2 v1 v2 ys) : Grew B w w2 v v2 ys := by
  refine ⟨k.own, ⟨k.grown.os.trans h.grown.os, k.grown.tape.trans h.grown.tape, k.grown.output.trans h.grown.output, Nat.le_trans h.grown.size k.grown.size, fun i hi hne => ?_⟩, ?_⟩
  · refine (k.grown.block i (Nat.lt_of_lt_of_le hi h.grown.size) ?_).trans (h.grown.block i hi hne)
    rcases h.lies with e | ⟨g, e, hg⟩
    · rw [e]; exact hne
    · rw [e]; intro he; simp only [Option.some.injEq] at he; omega
  · rcases k.lies with e | ⟨g, e, hg⟩
    · rw [e]; exact h.lies
    · exact .inr ⟨g, e, Nat.le_trans h.grown.size hg⟩

theorem Own.lt {B : Nat} {w : World} {v : Value} {xs : List Int} (h : Own B w v xs) : ∀ k, v.ownBlock = some k → B ≤ k ∧ k < w.heap.size := World.ownsRow.lt h

theorem Own.alloc {B : Nat} {w : World} {v : Value} {xs : List Int} (h : Own B w v xs) (o : Obj) : Own B (w.alloc o) v xs := World.ownsRow.alloc h o
theorem Own.drew {B : Nat} {w : World} {v : Value} {xs : List Int} (h : Own B w v xs) : Own B w.drew v xs := World.ownsRow.drew h
theorem Own.keep {B : Nat} {w w' : World} {v : Value} {xs : List Int} {row : Option Nat} (h : Own B w v xs) (hg : w.grownBy w' row) (hne : v.ownBlock = none ∨ v.ownBlock ≠ row) : Own B w' v xs := World.ownsRow.kept h hg hne

theorem Grew.below {B : Nat} {w w' : World} {v v' : Value} {xs ys : List Int} (h : Grew B w w' v v' xs) (hv : Own B w v ys) (hB : B ≤ w.heap.size) : Below B w w' :=
  (Below.refl B w).grown h.grown hB (fun k e => (hv.lt k e).1)

/-- The shape of a value that owns. -/
theorem Own.form {B : Nat} {w : World} {v : Value} {xs : List Int} (h : Own B w v xs) : ∃ ao cap, v = .slice ao xs.length cap ∧ xs.length ≤ cap ∧ cap ≤ maxLen := by
  rcases h.2 with ⟨e, h0⟩ | ⟨g, cap, cur, e, _, _, h1, h2, _⟩
  · exact ⟨none, 0, by rw [e, h0], by omega, Nat.zero_le _⟩
  · exact ⟨_, cap, e, h1, h2⟩

/-- The shape of a value that owns something. -/
theorem Own.solid {B : Nat} {w : World} {v : Value} {xs : List Int} (h : Own B w v xs) (hn : 0 < xs.length) :
    ∃ g cap, v = .slice (some ⟨g, 0, none⟩) xs.length cap ∧ B ≤ g ∧ g < w.heap.size ∧ xs.length ≤ cap ∧ cap ≤ maxLen ∧ ∀ k, k < xs.length → w.cell? ⟨g, k, none⟩ = some (.int .u8 (ati xs k)) := by
  rcases h.2 with ⟨_, h0⟩ | ⟨g, cap, cur, e, hb, hg, h1, h2, h3, h4⟩
  · omega
  · refine ⟨g, cap, e, hb, (Array.getElem?_eq_some_iff.1 hg).1, h1, h2, fun k hk => ?_⟩
    have := World.ownsRow.cells h (g := g) (by rw [e]; rfl) k (.int .u8 (ati xs k)) (by simp [U8, ati, hk])
    rw [Go.WideShapes.add_plain, Nat.zero_add] at this
    exact this

/-- A []byte that is read: n numbers xs, each a byte; where there is one it lies below block B. -/
structure Src (B : Nat) (w : World) (ao : Option Addr) (n : Nat) (xs : List Int) : Prop where
  len : xs.length = n
  byte : ∀ x ∈ xs, 0 ≤ x ∧ x ≤ 255
  cell : n = 0 ∨ ∃ b off, ao = some ⟨b, off, none⟩ ∧ b < B ∧ ∀ k, k < n → w.cell? ⟨b, off + k, none⟩ = some (.int .u8 (ati xs k))

theorem Src.at_byte {B : Nat} {w : World} {ao : Option Addr} {n : Nat} {xs : List Int} (h : Src B w ao n xs) (k : Nat) : 0 ≤ ati xs k ∧ ati xs k ≤ 255 := by
  by_cases hk : k < xs.length
  · rw [ati_lt hk]; exact h.byte _ (List.getElem_mem _)
  · have : ati xs k = 0 := by simp [ati]; rw [List.getElem?_eq_none (by omega)]; rfl
    omega

theorem Src.carry {B : Nat} {w w' : World} {ao : Option Addr} {n : Nat} {xs : List Int} (h : Src B w ao n xs) (hb : Below B w w') : Src B w' ao n xs := by
  refine ⟨h.len, h.byte, ?_⟩
  rcases h.cell with h0 | ⟨b, off, e, hlt, hc⟩
  · exact .inl h0
  · exact .inr ⟨b, off, e, hlt, fun k hk => (hb.cell (p := ⟨b, off + k, none⟩) hlt).trans (hc k hk)⟩

/-- Where there is a byte. -/
theorem Src.place {B : Nat} {w : World} {ao : Option Addr} {n : Nat} {xs : List Int} (h : Src B w ao n xs) (hn : 0 < n) :
    ∃ b off, ao = some ⟨b, off, none⟩ ∧ b < B ∧ ∀ k, k < n → w.cell? ⟨b, off + k, none⟩ = some (.int .u8 (ati xs k)) := by
  rcases h.cell with h0 | h
  · omega
  · exact h

/-- What the call owns can be read. -/
theorem Own.src {B : Nat} {w : World} {ao : Option Addr} {n cap : Nat} {xs : List Int} (h : Own B w (.slice ao n cap) xs) (hby : ∀ x ∈ xs, 0 ≤ x ∧ x ≤ 255) : Src w.heap.size w ao n xs := by
  obtain ⟨ao', cap', e, _⟩ := h.form
  simp only [Value.slice.injEq] at e
  refine ⟨e.2.1.symm, hby, ?_⟩
  by_cases hn : n = 0
  · exact .inl hn
  · obtain ⟨g, c, e2, _, hlt, _, _, hc⟩ := h.solid (by omega)
    simp only [Value.slice.injEq] at e2
    exact .inr ⟨g, 0, e2.1, hlt, fun k hk => by rw [Nat.zero_add]; exact hc k (by omega)⟩

/-- THE LAW OF append IN THESE WORDS, AT THE OPERATION: bytes that lie at an address. -/
theorem wp_app {w : World} {ops : Array Oper} {rest : List Oper} {o : Oper} {a : Act} {Q : Exit → Act → World → Prop} (hgd : o.guard = none) (s x : Operand)
    (ho : o.op = .call { callee := .builtin .append, args := #[s, x], argTypes := #[22, 22] })
    (B : Nat) (v : Value) (xs : List Int) (hs : a.eval s = v) (hown : Own B w v xs)
    (ad : Addr) (m c : Nat) (news : List Int) (hx : a.eval x = .slice (some ad) m c) (hl : news.length = m) (hnews : ∀ j u, (U8 news)[j]? = some u → w.cell? (ad.add j) = some u)
    (hlen : xs.length + m ≤ 140737488355328) (hB : B ≤ w.heap.size)
    (h : ∀ v' w', Grew B w w' v v' (xs ++ news) → wpList Try.prog ops Q rest (a.put o.dst v') w') : wpList Try.prog ops Q (o :: rest) a w := by
  obtain ⟨i0, hi, hz0, hz1, hz2⟩ := info_parts Try.info5
  refine wpList_append_own_at w hgd s x 22 ho B 5 i0 (.int .u8 0) 1 1 Try.underlying22 hi hz0 hz1 hz2 rfl (by decide) v xs.length (U8 xs) hs hown ad m c (U8 news) hx (by rw [length_U8]; omega) hnews ?_ (by unfold maxLen; omega) (by omega) hB ?_
  · intro u hu; simp only [U8, List.mem_map] at hu; obtain ⟨y, _, rfl⟩ := hu; rfl
  · intro v' w' h1 h2 _ h4
    refine h v' w' ⟨?_, h2, ?_⟩
    · show w'.ownsRow B 5 1 v' (xs ++ news).length (U8 (xs ++ news))
      rw [U8_append, List.length_append, hl]; exact h1
    · rcases h4 with e | e
      · exact .inl e
      · exact .inr ⟨_, e, Nat.le_refl _⟩

/-- The same for the numbers that the statement itself lists ('append(out, 'a', c)'): they lie in a new block of their own. 'w' is the world ahead of that block. -/
theorem wp_app_lit {w : World} {ops : Array Oper} {rest : List Oper} {o : Oper} {a : Act} {Q : Exit → Act → World → Prop} (hgd : o.guard = none) (s x : Operand)
    (ho : o.op = .call { callee := .builtin .append, args := #[s, x], argTypes := #[22, 22] })
    (B : Nat) (v : Value) (xs : List Int) (hs : a.eval s = v) (hown : Own B w v xs) (cs : Array Value) (t : TypeId)
    (m c : Nat) (news : List Int) (hcs : cs.toList = U8 news) (hx : a.eval x = .slice (some ⟨w.heap.size, 0, none⟩) m c) (hl : news.length = m)
    (hlen : xs.length + m ≤ 140737488355328) (hB : B ≤ w.heap.size)
    (h : ∀ v' w', Grew B w w' v v' (xs ++ news) → wpList Try.prog ops Q rest (a.put o.dst v') w') : wpList Try.prog ops Q (o :: rest) a (w.alloc (.cells cs t)) := by
  refine wp_app hgd s x ho B v xs hs (hown.alloc _) ⟨w.heap.size, 0, none⟩ m c news hx hl ?_ hlen (by simp; omega) ?_
  · intro j u hj
    rw [← hcs] at hj
    have hadd : (⟨w.heap.size, 0, none⟩ : Addr).add j = ⟨w.heap.size, j, none⟩ := by unfold Addr.add; split <;> simp_all
    rw [hadd, cell_of_row (w.alloc (.cells cs t)) w.heap.size j cs t (0, 0) (heap_alloc_new w _)]
    simpa using hj
  · intro v' w' hg
    refine h v' w' ⟨hg.own, ?_, ?_⟩
    · exact ⟨hg.grown.os, hg.grown.tape, hg.grown.output, Nat.le_trans (by simp) hg.grown.size, fun k hk hne => (hg.grown.block k (by simp; omega) hne).trans (Below.heap_alloc w _ k hk)⟩
    · rcases hg.lies with e | ⟨g, e, hle⟩
      · exact .inl e
      · exact .inr ⟨g, e, Nat.le_trans (by simp) hle⟩

/-- The same for 'append(out, src...)', src a []byte that is read. -/
theorem wp_app_src {w : World} {ops : Array Oper} {rest : List Oper} {o : Oper} {a : Act} {Q : Exit → Act → World → Prop} (hgd : o.guard = none) (s x : Operand)
    (ho : o.op = .call { callee := .builtin .append, args := #[s, x], argTypes := #[22, 22] })
    (B B' : Nat) (v : Value) (xs : List Int) (hs : a.eval s = v) (hown : Own B w v xs)
    (ao : Option Addr) (m c : Nat) (news : List Int) (hx : a.eval x = .slice ao m c) (hsrc : Src B' w ao m news) (hnil : ao = none → c = 0)
    (hlen : xs.length + m ≤ 140737488355328) (hB : B ≤ w.heap.size)
    (h : ∀ v' w', Grew B w w' v v' (xs ++ news) → wpList Try.prog ops Q rest (a.put o.dst v') w') : wpList Try.prog ops Q (o :: rest) a w := by
  cases ao with
  | some ad =>
    refine wp_app hgd s x ho B v xs hs hown ad m c news hx hsrc.len ?_ hlen hB h
    intro j u hj
    rcases hsrc.cell with h0 | ⟨b, off, e, _, hc⟩
    · exfalso
      have : news = [] := List.eq_nil_of_length_eq_zero (by rw [hsrc.len, h0])
      subst this; simp [U8] at hj
    · simp only [Option.some.injEq] at e
      subst e
      have hjm : j < m := by
        have := (List.getElem?_eq_some_iff.1 hj).1
        rw [length_U8, hsrc.len] at this; exact this
      have hu : u = .int .u8 (ati news j) := by
        simp only [U8, List.getElem?_map, Option.map_eq_some_iff] at hj
        obtain ⟨y, hy, rfl⟩ := hj
        simp [ati, hy]
      rw [hu, ← hc j hjm, Go.WideShapes.add_plain]
  | none =>
    have hm : m = 0 := by rcases hsrc.cell with h0 | ⟨b, off, e, _⟩; · exact h0
                          · cases e
    subst hm
    have hc0 := hnil rfl
    subst hc0
    have hn : news = [] := List.eq_nil_of_length_eq_zero hsrc.len
    subst hn
    obtain ⟨i0, hi, _⟩ := info_parts Try.info5
    refine wpList_append_own_none hgd s x 22 ho B 5 i0 1 Try.underlying22 hi v xs.length (U8 xs) hs hown hx (h v w ?_)
    rw [List.append_nil]; exact Grew.refl hown
end Go.Proofs.Qxb6001736a
