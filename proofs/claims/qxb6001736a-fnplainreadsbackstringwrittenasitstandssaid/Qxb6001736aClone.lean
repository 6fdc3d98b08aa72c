/-
  SEAT b6001736a. THE WALKS of zzlClone (a []byte of its own that holds the same bytes), zzlSame and zzBytes.
-/
import Derived.Test.Qxb6001736aMem
import Derived.Deep.QuietTactic
import Derived.BigQuiet
import Derived.WalkSmall
import Derived.WalkLawsBesides
import Derived.OwnWalk
import Derived.Laws.CopyOwn
namespace Go.Proofs.Qxb6001736a
open Go.RowKit

theorem size5 : (Try.prog.info? 5).map (·.size) = some 1 := by kernel_rfl

/-- What zzlClone hands back: a slice that holds the same bytes; what was there is as it was. -/
def Cloned (w : World) (n : Nat) (xs : List Int) (e : Ending) (w' : World) : Prop := ∃ a' c', e = .returned (.slice a' n c') ∧ Src w'.heap.size w' a' n xs ∧ Below w.heap.size w w'

set_option maxHeartbeats 1000000 in
theorem clone_calls (B : Nat) (w : World) (a : Option Addr) (n c : Nat) (xs : List Int) (hsrc : Src B w a n xs) (hnil : a = none → c = 0) (hn : n ≤ 1000000000) :
    Calls Try.prog 9 #[.slice a n c] w fun e w' => Cloned w n xs e w' := by
  cases a with
  | none =>
    have hc := hnil rfl
    have h0 : n = 0 := by rcases hsrc.cell with h | ⟨b, off, e, _⟩; · exact h
                          · cases e
    subst hc h0
    have nl : ∀ w : World, (binOp .eql 22 (.slice none 0 0) (.slice none 0 0)).run Try.prog w = .ok (.bool true) w := fun w => Lib.run_eql_slice_nil w 22 5 none 0 0 0 0 Try.underlying22
    have H := hide hsrc
    clear hsrc hnil
    go_enter Try.func9, Try.ntmps9
    go_wp2_with fail
    go_ret
    exact ⟨none, 0, rfl, ⟨(unhide H).len, (unhide H).byte, .inl rfl⟩, Below.refl _ _⟩
  | some ad =>
    obtain ⟨i0, hi, hz0, hz1, hz2⟩ := info_parts Try.info5
    have nl : ∀ w : World, (binOp .eql 22 (.slice (some ad) n c) (.slice none 0 0)).run Try.prog w = .ok (.bool false) w := fun w => Lib.run_eql_slice_nil w 22 5 (some ad) n c 0 0 Try.underlying22
    have H := hide hsrc
    clear hsrc hnil
    go_enter Try.func9, Try.ntmps9
    go_wp2_with (at_make; refine wpList_make_full _ rfl _ _ 22 rfl w.heap.size 5 i0 (.int .u8 0) 1 Try.underlying22 hi hz0 hz1 .i64 .i64 _ _ n rfl rfl rfl rfl (by rw [hz2]; omega) (by unfold maxLen; omega) (Nat.le_refl _) ?_)
    intro w1 own1 gr1
    have hb1 : Below w.heap.size w w1 := (Below.refl _ w).grown gr1 (Nat.le_refl _) (fun k e => by cases e)
    obtain ⟨cur, hcur, hlen⟩ : ∃ cur : Array Value, w1.heap[w.heap.size]? = some (.cells cur 5 (0, 0)) ∧ cur.size = n := by
      rcases own1.2 with ⟨e, _⟩ | ⟨g, cap, cur, e, _, hg, _, _, hs, _⟩
      · cases e
      · simp only [Value.slice.injEq, Option.some.injEq, Addr.mk.injEq] at e
        rw [← e.1.1] at hg
        exact ⟨cur, hg, by rw [hs, ← e.2.2, Nat.mul_one]⟩
    have hsl := (unhide H).len
    have C := hide (show cur = cur.toList.toArray ∧ w1.heap[w.heap.size]? = some (.cells cur.toList.toArray 5 (0, 0)) from ⟨by simp, by simpa using hcur⟩)
    have hcell : 0 < (U8 xs).length → (some (⟨w.heap.size, 0, none⟩ : Addr)) = some ⟨w.heap.size, 0, none⟩ ∧ ∃ ad', some ad = some ad' ∧ ∀ j v, (U8 xs)[j]? = some v → w1.cell? (ad'.add j) = some v := fun hp => by
      refine ⟨rfl, ad, rfl, fun j v hv => ?_⟩
      rw [length_U8] at hp
      obtain ⟨b, off, e, hlt, hc⟩ := (unhide H).place (by omega)
      simp only [Option.some.injEq] at e
      subst e
      have hj : j < n := by
        have := (List.getElem?_eq_some_iff.1 hv).1
        rw [length_U8] at this; omega
      have hu : v = .int .u8 (ati xs j) := by
        simp only [U8, List.getElem?_map, Option.map_eq_some_iff] at hv
        obtain ⟨y, hy, rfl⟩ := hv
        simp [ati, hy]
      have h0 := hc j hj
      rw [Go.WideShapes.add_plain, hb1.cell (p := ⟨b, off + j, none⟩) (World.block_lt_of_cell? _ _ h0), hu]
      exact h0
    have hmin : (U8 xs).length = Nat.min n n := by rw [length_U8, hsl]; exact (Nat.min_self n).symm
    have hfit : 0 + (U8 xs).length ≤ cur.toList.length := by rw [length_U8, hsl, Array.length_toList]; omega
    have hone : ∀ v ∈ U8 xs, v.oneCell' = true := fun v hv => by simp only [U8, List.mem_map] at hv; obtain ⟨y, _, rfl⟩ := hv; rfl
    obtain ⟨w2, hrun, hrow, hb2⟩ : ∃ w2, (Builtin.copy_ #[22, 22] 3 #[.slice (some ⟨w.heap.size, 0, none⟩) n n, .slice (some ad) n c]).run Try.prog w1 = .ok (.int .i64 n) w2 ∧ w2.heap[w.heap.size]? = some (.cells (U8 xs).toArray 5 (0, 0)) ∧ Below w.heap.size w w2 := by
      by_cases h0 : n = 0
      · subst h0
        have hx : xs = [] := List.eq_nil_of_length_eq_zero hsl
        have hc : cur = #[] := Array.eq_empty_of_size_eq_zero hlen
        subst hx hc
        exact ⟨w1, run_copy_none w1 22 22 3 5 _ _ 0 0 0 c Try.underlying22 size5 rfl, hcur, hb1⟩
      · obtain ⟨_, ad', e, hs⟩ := hcell (by rw [length_U8]; omega)
        simp only [Option.some.injEq] at e
        subst e
        have hr := run_copy_row (P := Try.prog) w1 22 22 3 5 w.heap.size 0 n n ad n c cur 5 (U8 xs) Try.underlying22 size5 hcur hmin hs (by simpa using hfit) hone
        have el : cur.toList.take 0 ++ U8 xs ++ cur.toList.drop (0 + (U8 xs).length) = U8 xs := by
          rw [List.drop_eq_nil_of_le (by rw [length_U8, hsl, Array.length_toList]; omega)]
          simp
        rw [el, length_U8, hsl] at hr
        exact ⟨_, hr, setRow_heap w1 _ _ _ 5 _ hcur, below_setRow hb1 (Nat.le_refl _) _⟩
    have HR := hide hrow
    have HB2 := hide hb2
    clear own1 gr1 hb1 hcell hcur hmin hfit hone hrow hb2
    go_wp2_with fail
    go_ret
    refine ⟨some ⟨w.heap.size, 0, none⟩, n, rfl, ⟨hsl, (unhide H).byte, ?_⟩, unhide HB2⟩
    refine .inr ⟨w.heap.size, 0, rfl, (Array.getElem?_eq_some_iff.1 (unhide HR)).1, fun k hk => ?_⟩
    rw [cell_of_row w2 w.heap.size (0 + k) _ 5 (0, 0) (unhide HR)]
    simp [U8, ati, hsl, hk]

set_option maxHeartbeats 400000 in
theorem same_calls (B1 B2 : Nat) (w : World) (a1 a2 : Option Addr) (n c1 c2 : Nat) (xs : List Int) (h1 : Src B1 w a1 n xs) (h2 : Src B2 w a2 n xs) (hn : n ≤ 1000000000) :
    Calls Try.prog 14 #[.slice a1 n c1, .slice a2 n c2] w fun e w' => e = .returned (.bool true) ∧ ∃ q, w' = w.drewN q := by
  have t0 : ((n : Int) != (n : Int)) = false := by simp
  go_enter Try.func14, Try.ntmps14
  go_wp2
  go_loopw [5] (fun i wr => ∃ k q : Nat, k ≤ n ∧ i = .int .i64 k ∧ wr = w.drewN q) (fun i _ => n - (intOf i).toNat)
  case atStart => exact ⟨0, 0, Nat.zero_le _, rfl, rfl⟩
  case round =>
    obtain ⟨k, q, hk, rfl, rfl⟩ := hrel
    by_cases hlt : k < n
    · obtain ⟨b1, o1, e1, _, hc1⟩ := h1.place (by omega)
      obtain ⟨b2, o2, e2, _, hc2⟩ := h2.place (by omega)
      subst e1 e2
      have g1 := hc1 k hlt
      have g2 := hc2 k hlt
      have t1 : (ati xs k != ati xs k) = false := by simp
      clear hc1 hc2 h1 h2
      go_wp2
      go_quiet (fail)
      go_wp2
      exact ⟨⟨k + 1, _, by omega, by go_num, rfl⟩, by simp [intOf]; omega⟩
    · go_wp2
      go_ret
      exact ⟨rfl, q, rfl⟩

theorem bytes19_calls (w : World) (a : Option Addr) (n c : Nat) :
    Calls Try.prog 19 #[.slice a n c] w fun e w' => e = .returned (.bool (decide (n ≤ 1048576))) ∧ w' = w := by
  by_cases h : n ≤ 1048576
  · have d2 : decide ((1048576 : Int) < (n : Int)) = false := decide_eq_false (by omega)
    rw [decide_eq_true h]
    go_enter Try.func19, Try.ntmps19
    go_wp2
    go_ret
    exact ⟨rfl, rfl⟩
  · have d2 : decide ((1048576 : Int) < (n : Int)) = true := decide_eq_true (by omega)
    rw [decide_eq_false h]
    go_enter Try.func19, Try.ntmps19
    go_wp2
    go_ret
    exact ⟨rfl, rfl⟩
end Go.Proofs.Qxb6001736a
