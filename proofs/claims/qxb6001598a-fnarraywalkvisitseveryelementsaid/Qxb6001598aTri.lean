/-
  SEAT b6001598a. THREE ROWS OF THE LAW's OWN: the text, the elements' starts, their ends. No walk here.
-/
import Derived.Test.Qxb6001598aMem2
import Derived.Test.Qxb6001598aLay
namespace Go.Proofs.Qxb6001598a
open Go.RowKit

structure Tri (B : Nat) (w wr : World) (u s e : Value) (bs st en : List Int) : Prop where
  out : Own B wr u bs
  one : OwnI B wr s st
  two : OwnI B wr e en
  a1 : Apart u s
  a2 : Apart u e
  a3 : Apart s e
  bel : Below B w wr
  siz : B ≤ wr.heap.size

theorem Tri.out_grew {B : Nat} {w wr w' : World} {u s e u' : Value} {bs st en bs' : List Int} (h : Tri B w wr u s e bs st en) (g : Grew B wr w' u u' bs') : Tri B w w' u' s e bs' st en :=
  ⟨g.own, h.one.keep g.grown h.a1.off, h.two.keep g.grown h.a2.off, g.apart h.a1 (fun k e => (h.one.lt k e).2), g.apart h.a2 (fun k e => (h.two.lt k e).2), h.a3,
    h.bel.trans (g.below h.out h.siz), Nat.le_trans h.siz g.grown.size⟩
theorem GrewI.below {B : Nat} {w w' : World} {v v' : Value} {xs ys : List Int} (h : GrewI B w w' v v' xs) (hv : OwnI B w v ys) (hB : B ≤ w.heap.size) : Below B w w' :=
  (Below.refl B w).grown h.grown hB (fun k e => (hv.lt k e).1)
theorem Tri.one_grew {B : Nat} {w wr w' : World} {u s e s' : Value} {bs st en st' : List Int} (h : Tri B w wr u s e bs st en) (g : GrewI B wr w' s s' st') : Tri B w w' u s' e bs st' en :=
  ⟨h.out.keep g.grown h.a1.symm.off, g.own, h.two.keep g.grown h.a3.off, (h.a1.symm.grow (fun k e => (h.out.lt k e).2) g.lies).symm, h.a2, h.a3.grow (fun k e => (h.two.lt k e).2) g.lies,
    h.bel.trans (g.below h.one h.siz), Nat.le_trans h.siz g.grown.size⟩
theorem Tri.two_grew {B : Nat} {w wr w' : World} {u s e e' : Value} {bs st en en' : List Int} (h : Tri B w wr u s e bs st en) (g : GrewI B wr w' e e' en') : Tri B w w' u s e' bs st en' :=
  ⟨h.out.keep g.grown h.a2.symm.off, h.one.keep g.grown h.a3.symm.off, g.own, h.a1, (h.a2.symm.grow (fun k e => (h.out.lt k e).2) g.lies).symm, (h.a3.symm.grow (fun k e => (h.one.lt k e).2) g.lies).symm,
    h.bel.trans (g.below h.two h.siz), Nat.le_trans h.siz g.grown.size⟩

/-- Between two rounds: the text so far, laid out as the elements els. -/
structure Arr (w wr : World) (u s e : Value) (seg : Nat) (g0 : List Int) (els : List El) : Prop where
  tri : Tri w.heap.size w wr u s e (91 :: (g0 ++ flat els)) (sts (1 + g0.length) els) (ens (1 + g0.length) els)
  gap : Spaces g0
  gap7 : g0.length ≤ 7
  good : Good els
  size : (flat els).length ≤ 16777300 * seg

/-- An element out of its parts. -/
def El.of (l v h : List Int) : El := (l, v, h)

/-- What leads to the next element. -/
def Lead (els : List El) (l : List Int) : Prop := (els = [] ∧ l = []) ∨ (els ≠ [] ∧ ∃ g, l = 44 :: g ∧ Spaces g)

theorem Arr.next {w wr : World} {u s e : Value} {seg seg' : Nat} {g0 lead ys h : List Int} {els : List El}
    (ha : Spaces g0) (ha7 : g0.length ≤ 7) (hg : Good els) (hsz : (flat els).length ≤ 16777300 * seg)
    (ht : Tri w.heap.size w wr u s e (91 :: (g0 ++ (flat els ++ (lead ++ (ys ++ h))))) (sts (1 + g0.length) els ++ [((1 + g0.length + (flat els).length + lead.length : Nat) : Int)]) (ens (1 + g0.length) els ++ [((1 + g0.length + (flat els).length + lead.length + ys.length : Nat) : Int)]))
    (hl : Lead els lead) (hl8 : lead.length ≤ 8) (hv : IsVal ys) (hyl : ys.length ≤ 16777216 * (seg' - seg)) (hs : Spaces h) (hh7 : h.length ≤ 7) (hseg : seg < seg') :
    Arr w wr u s e seg' g0 (els ++ [El.of lead ys h]) := by
  refine ⟨?_, ha, ha7, hg.snoc hl hv hs, ?_⟩
  · rw [flat_snoc, sts_append, ens_append]
    exact ht
  · rw [flat_snoc, List.length_append]
    have : (El.of lead ys h).all.length = lead.length + ys.length + h.length := El.all_length _
    omega
end Go.Proofs.Qxb6001598a
