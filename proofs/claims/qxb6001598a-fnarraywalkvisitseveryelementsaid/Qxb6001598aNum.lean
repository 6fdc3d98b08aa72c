/-
  SEAT b6001598a. THE WALKS of the small writers: zzSjAppendUint, zzSjNumber, zzSjLiteral, zzSjClose.
-/
import Derived.Test.Qxb6001598aMem2
import Derived.Test.Qxb6001598aVal
import Derived.Deep.DeepCutAuto
namespace Go.Proofs.Qxb6001598a
open Go.RowKit

theorem Grew.since {B : Nat} {w w' : World} {v v' : Value} {xs : List Int} {o : Obj} (h : Grew B (w.alloc o) w' v v' xs) : Grew B w w' v v' xs := by
  refine ⟨h.own, ⟨h.grown.os, h.grown.tape, h.grown.output, Nat.le_trans (by simp) h.grown.size, fun k hk hne => (h.grown.block k (by simp; omega) hne).trans (Below.heap_alloc w _ k hk)⟩, ?_⟩
  rcases h.lies with e | ⟨g, e, hg⟩
  · exact .inl e
  · exact .inr ⟨g, e, Nat.le_trans (by simp) hg⟩

/-- 'wp_app_lit' where the new block's number stands as another term. -/
theorem wp_app_at {w : World} {ops : Array Oper} {rest : List Oper} {o : Oper} {a : Act} {Q : Exit → Act → World → Prop} (hgd : o.guard = none) (s x : Operand)
    (ho : o.op = .call { callee := .builtin .append, args := #[s, x], argTypes := #[22, 22] })
    (B : Nat) (v : Value) (xs : List Int) (hs : a.eval s = v) (hown : Own B w v xs) (cs : Array Value) (t : TypeId)
    (m c : Nat) (news : List Int) (hcs : cs.toList = U8 news) (H : Nat) (hH : w.heap.size = H) (hx : a.eval x = .slice (some ⟨H, 0, none⟩) m c) (hl : news.length = m)
    (hlen : xs.length + m ≤ 140737488355328) (hB : B ≤ w.heap.size)
    (h : ∀ v' w', Grew B w w' v v' (xs ++ news) → wpList Try.prog ops Q rest (a.put o.dst v') w') : wpList Try.prog ops Q (o :: rest) a (w.alloc (.cells cs t)) := by
  subst hH
  exact wp_app_lit hgd s x ho B v xs hs hown cs t m c news hcs hx hl hlen hB h

set_option maxHeartbeats 1000000 in
set_option maxRecDepth 100000 in
theorem uint0 (B : Nat) (w : World) (v : Value) (xs : List Int) (hown : Own B w v xs) (hlen : xs.length ≤ 10000000000000) (hB : B ≤ w.heap.size) :
    Calls Try.prog 29 #[v, .int .i64 0] w fun e w' => ∃ v', e = .returned v' ∧ Grew B w w' v v' (xs ++ [48]) := by
  go_enter Try.func29, Try.ntmps29
  go_wp2_with (at_builtin; refine wp_app_lit rfl _ _ rfl B _ xs rfl hown _ _ 1 1 [48] rfl rfl rfl (by omega) hB ?_)
  intro u' w' hg
  go_wp2
  go_ret
  exact ⟨_, rfl, hg⟩

set_option maxHeartbeats 1000000 in
set_option maxRecDepth 100000 in
theorem uint1 (B : Nat) (w : World) (v : Value) (xs : List Int) (k : Int) (h0 : 1 ≤ k) (h1 : k ≤ 9) (hown : Own B w v xs) (hlen : xs.length ≤ 10000000000000) (hB : B ≤ w.heap.size) :
    Calls Try.prog 29 #[v, .int .i64 k] w fun e w' => ∃ v', e = .returned v' ∧ Grew B w w' v v' (xs ++ [48 + k % 10]) := by
  go_enter Try.func29, Try.ntmps29
  go_wp2_with fail
  refine wp_loop_rounds 2 ?_
  rw [rounds_succ]
  go_wp2_with fail
  rw [rounds_succ]
  go_wp2_with fail
  refine wp_loop_rounds 2 ?_
  rw [rounds_succ]
  go_wp2_with (at_builtin; refine wp_app_at rfl _ _ rfl B _ xs rfl (hown.alloc _) _ _ 1 1 [48 + k % 10] rfl (w.heap.size + 1) (by simp) rfl rfl (by omega) (by simp; omega) ?_)
  intro u' w' hg
  go_wp2_with fail
  rw [rounds_succ]
  go_wp2_with fail
  go_ret
  exact ⟨_, rfl, hg.since⟩

set_option maxHeartbeats 1000000 in
set_option maxRecDepth 100000 in
theorem uint2 (B : Nat) (w : World) (v : Value) (xs : List Int) (k : Int) (h0 : 10 ≤ k) (h1 : k ≤ 99) (hown : Own B w v xs) (hlen : xs.length ≤ 10000000000000) (hB : B ≤ w.heap.size) :
    Calls Try.prog 29 #[v, .int .i64 k] w fun e w' => ∃ v', e = .returned v' ∧ Grew B w w' v v' (xs ++ [48 + k / 10 % 10, 48 + k % 10]) := by
  go_enter Try.func29, Try.ntmps29
  go_wp2_with fail
  refine wp_loop_rounds 3 ?_
  rw [rounds_succ]
  go_wp2_with fail
  rw [rounds_succ]
  go_wp2_with fail
  rw [rounds_succ]
  go_wp2_with fail
  refine wp_loop_rounds 3 ?_
  rw [rounds_succ]
  go_wp2_with (at_builtin; refine wp_app_at rfl _ _ rfl B _ xs rfl (hown.alloc _) _ _ 1 1 [48 + k / 10 % 10] rfl (w.heap.size + 1) (by simp) rfl rfl (by omega) (by simp; omega) ?_)
  intro u' w' hg
  have hc : w'.cell? ⟨w.heap.size, 0, none⟩ = some (.int .u8 (48 + k % 10)) := by
    refine hg.grown.cell (a := ⟨w.heap.size, 0, none⟩) ?_ ?_
    · simp
    · intro e
      have := (hown.lt w.heap.size e.symm).2
      omega
  have hz := hg.grown.size
  have G := hide hg.since
  have O := hg.own
  simp at hz
  clear hg
  go_wp2_with fail
  rw [rounds_succ]
  go_wp2_with (at_builtin; refine wp_app_lit rfl _ _ rfl B _ (xs ++ [48 + k / 10 % 10]) rfl O _ _ 1 1 [48 + k % 10] rfl rfl rfl (by simp; omega) (by omega) ?_)
  intro u2 w2 hg2
  have G2 := hide ((unhide G).trans hg2)
  clear hg2
  go_wp2_with fail
  rw [rounds_succ]
  go_wp2_with fail
  go_ret
  exact ⟨_, rfl, by simpa using unhide G2⟩

/-- zzSjAppendUint below 100: one or two digits. -/
theorem uint_calls (B : Nat) (w : World) (v : Value) (xs : List Int) (k : Int) (h0 : 0 ≤ k) (h1 : k ≤ 99) (hown : Own B w v xs) (hlen : xs.length ≤ 10000000000000) (hB : B ≤ w.heap.size) :
    Calls Try.prog 29 #[v, .int .i64 k] w fun e w' => ∃ v' ys, e = .returned v' ∧ Bare ys ∧ ys.length ≤ 2 ∧ Grew B w w' v v' (xs ++ ys) := by
  by_cases c0 : k = 0
  · subst c0
    refine (uint0 B w v xs hown hlen hB).mono ?_
    rintro e w' ⟨v', rfl, g⟩
    exact ⟨v', [48], rfl, ⟨by simp, by intro c hc; simp at hc; unfold bare; omega⟩, by simp, g⟩
  · by_cases c1 : k ≤ 9
    · refine (uint1 B w v xs k (by omega) c1 hown hlen hB).mono ?_
      rintro e w' ⟨v', rfl, g⟩
      exact ⟨v', _, rfl, ⟨by simp, by intro c hc; simp at hc; unfold bare; omega⟩, by simp, g⟩
    · refine (uint2 B w v xs k (by omega) h1 hown hlen hB).mono ?_
      rintro e w' ⟨v', rfl, g⟩
      exact ⟨v', _, rfl, ⟨by simp, by intro c hc; simp at hc; unfold bare; omega⟩, by simp, g⟩

theorem Bare.join {a b : List Int} (ha : Bare a) (hb : ∀ c ∈ b, bare c) : Bare (a ++ b) := by
  refine ⟨by have := ha.1; rw [List.length_append]; omega, fun c hc => ?_⟩
  rw [List.mem_append] at hc
  rcases hc with hc | hc
  · exact ha.2 c hc
  · exact hb c hc
theorem Bare.cons {c : Int} {b : List Int} (hc : bare c) (hb : Bare b) : Bare (c :: b) := by
  refine ⟨by simp, fun x hx => ?_⟩
  rw [List.mem_cons] at hx
  rcases hx with rfl | hx
  · exact hc
  · exact hb.2 x hx

set_option maxHeartbeats 1000000 in
theorem number_calls (B : Nat) (w : World) (v : Value) (xs : List Int) (op : Int) (h0 : 0 ≤ op) (h1 : op ≤ 255) (hown : Own B w v xs) (hlen : xs.length ≤ 9000000000000) (hB : B ≤ w.heap.size) :
    Calls Try.prog 25 #[v, .int .u8 op] w fun e w' => ∃ v' ys, e = .returned v' ∧ IsVal ys ∧ ys.length ≤ 8 ∧ Grew B w w' v v' (xs ++ ys) := by
  by_cases c0 : op / 6 % 4 = 0
  · have t0 : (op / 6 % 4 == 0) = true := by simp [c0]
    clear c0
    go_enter Try.func25, Try.ntmps25
    go_wp2_with fail
    refine (uint_calls B w v xs _ (by omega) (by omega) hown (by omega) hB).mono ?_
    rintro e w1 ⟨v1, ys, rfl, hb, hl, g⟩
    go_wp2_with fail
    go_ret
    exact ⟨_, ys, rfl, .inl hb, by omega, g⟩
  · have t0 : (op / 6 % 4 == 0) = false := by simp [c0]
    by_cases c1 : op / 6 % 4 = 1
    · have t1 : (op / 6 % 4 == 1) = true := by simp [c1]
      clear c0 c1
      go_enter Try.func25, Try.ntmps25
      go_wp2_with (at_builtin; refine wp_app_lit rfl _ _ rfl B _ xs rfl hown _ _ 1 1 [45] rfl rfl rfl (by omega) hB ?_)
      intro u1 w1 g1
      have hz := g1.grown.size
      go_wp2_with fail
      refine (uint_calls B w1 u1 (xs ++ [45]) _ (by omega) (by omega) g1.own (by simp; omega) (by omega)).mono ?_
      rintro e w2 ⟨v2, ys, rfl, hb, hl, g⟩
      have G := hide (g1.trans g)
      clear g1 g
      go_wp2_with fail
      go_ret
      exact ⟨_, 45 :: ys, rfl, .inl (hb.cons (by unfold bare; omega)), by simp; omega, by simpa using unhide G⟩
    · have t1 : (op / 6 % 4 == 1) = false := by simp [c1]
      by_cases c2 : op / 6 % 4 = 2
      · have t2 : (op / 6 % 4 == 2) = true := by simp [c2]
        clear c0 c1 c2
        go_enter Try.func25, Try.ntmps25
        go_wp2_with fail
        refine (uint_calls B w v xs _ (by omega) (by omega) hown (by omega) hB).mono ?_
        rintro e w1 ⟨v1, ys, rfl, hb, hl, g1⟩
        have hz := g1.grown.size
        have HB := hide hb
        clear hb
        go_wp2_with (at_builtin; refine wp_app_lit rfl _ _ rfl B _ (xs ++ ys) rfl g1.own _ _ 3 3 [46, 50, 53] rfl rfl rfl (by simp; omega) (by omega) ?_)
        intro u2 w2 g2
        have G := hide (g1.trans g2)
        clear g1 g2
        go_wp2_with fail
        go_ret
        exact ⟨_, ys ++ [46, 50, 53], rfl, .inl ((unhide HB).join (by intro c hc; simp at hc; unfold bare; omega)), by simp; omega, by simpa using unhide G⟩
      · have t2 : (op / 6 % 4 == 2) = false := by simp [c2]
        clear c0 c1 c2
        go_enter Try.func25, Try.ntmps25
        go_wp2_with fail
        refine (uint_calls B w v xs _ (by omega) (by omega) hown (by omega) hB).mono ?_
        rintro e w1 ⟨v1, ys, rfl, hb, hl, g1⟩
        have hz := g1.grown.size
        have HB := hide hb
        clear hb
        go_wp2_with (at_builtin; refine wp_app_lit rfl _ _ rfl B _ (xs ++ ys) rfl g1.own _ _ 3 3 [101, 43, 55] rfl rfl rfl (by simp; omega) (by omega) ?_)
        intro u2 w2 g2
        have G := hide (g1.trans g2)
        clear g1 g2
        go_wp2_with fail
        go_ret
        exact ⟨_, ys ++ [101, 43, 55], rfl, .inl ((unhide HB).join (by intro c hc; simp at hc; unfold bare; omega)), by simp; omega, by simpa using unhide G⟩

set_option maxHeartbeats 1000000 in
theorem literal_calls (B : Nat) (w : World) (v : Value) (xs : List Int) (op : Int) (h0 : 0 ≤ op) (h1 : op ≤ 255) (hown : Own B w v xs) (hlen : xs.length ≤ 10000000000000) (hB : B ≤ w.heap.size) :
    Calls Try.prog 26 #[v, .int .u8 op] w fun e w' => ∃ v' ys, e = .returned v' ∧ IsVal ys ∧ ys.length ≤ 8 ∧ Grew B w w' v v' (xs ++ ys) := by
  by_cases c0 : op / 6 % 3 = 0
  · have t0 : (op / 6 % 3 == 0) = true := by simp [c0]
    clear c0
    go_enter Try.func26, Try.ntmps26
    go_wp2_with (at_builtin; refine wp_app_lit rfl _ _ rfl B _ xs rfl hown _ _ 4 4 [116, 114, 117, 101] rfl rfl rfl (by omega) hB ?_)
    intro u' w' g
    go_wp2
    go_ret
    exact ⟨_, _, rfl, .inl ⟨by simp, by intro c hc; simp at hc; unfold bare; omega⟩, by simp, g⟩
  · have t0 : (op / 6 % 3 == 0) = false := by simp [c0]
    by_cases c1 : op / 6 % 3 = 1
    · have t1 : (op / 6 % 3 == 1) = true := by simp [c1]
      clear c0 c1
      go_enter Try.func26, Try.ntmps26
      go_wp2_with (at_builtin; refine wp_app_lit rfl _ _ rfl B _ xs rfl hown _ _ 5 5 [102, 97, 108, 115, 101] rfl rfl rfl (by omega) hB ?_)
      intro u' w' g
      go_wp2
      go_ret
      exact ⟨_, _, rfl, .inl ⟨by simp, by intro c hc; simp at hc; unfold bare; omega⟩, by simp, g⟩
    · have t1 : (op / 6 % 3 == 1) = false := by simp [c1]
      clear c0 c1
      go_enter Try.func26, Try.ntmps26
      go_wp2_with (at_builtin; refine wp_app_lit rfl _ _ rfl B _ xs rfl hown _ _ 4 4 [110, 117, 108, 108] rfl rfl rfl (by omega) hB ?_)
      intro u' w' g
      go_wp2
      go_ret
      exact ⟨_, _, rfl, .inl ⟨by simp, by intro c hc; simp at hc; unfold bare; omega⟩, by simp, g⟩

set_option maxHeartbeats 400000 in
theorem close_calls (B : Nat) (w : World) (v : Value) (xs : List Int) (k : Int) (hown : Own B w v xs) (hlen : xs.length ≤ 10000000000000) (hB : B ≤ w.heap.size) :
    Calls Try.prog 24 #[v, .int .u8 k] w fun e w' => ∃ v' c, e = .returned v' ∧ (c = 125 ∨ c = 93) ∧ Grew B w w' v v' (xs ++ [c]) := by
  by_cases hk : k = 91
  · have t : (k == 91) = true := by simp [hk]
    clear hk
    go_enter Try.func24, Try.ntmps24
    go_wp2_with (at_builtin; refine wp_app_lit rfl _ _ rfl B _ xs rfl hown _ _ 1 1 [93] rfl rfl rfl (by omega) hB ?_)
    intro u' w' hg
    go_wp2
    go_ret
    exact ⟨_, 93, rfl, .inr rfl, hg⟩
  · have t : (k == 91) = false := by simp [hk]
    clear hk
    go_enter Try.func24, Try.ntmps24
    go_wp2_with (at_builtin; refine wp_app_lit rfl _ _ rfl B _ xs rfl hown _ _ 1 1 [125] rfl rfl rfl (by omega) hB ?_)
    intro u' w' hg
    go_wp2
    go_ret
    exact ⟨_, 125, rfl, .inl rfl, hg⟩
end Go.Proofs.Qxb6001598a
