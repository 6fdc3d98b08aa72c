/-
  SEAT b6001632a. THE WALK of zzIndexOf: the first place of sub in s, in the shelf's own words ('Lib.index').
-/
import Derived.Test.Qxb6001632aProg
import Derived.WalkKit
import Derived.WalkSmall
import Derived.Deep.QuietTactic
import Derived.BigQuiet
import Derived.Deep.DeepCutAuto
import Derived.Lib.IndexLaws
import Derived.IntWalk
namespace Go.Proofs.Qxb6001632a
open Go.RowKit Go.Lib

theorem hide {p : Prop} (h : p) : Hid p := h
theorem unhide {p : Prop} (h : Hid p) : p := h

theorem bytes_at (s : ByteArray) (i : Nat) (h : i < s.size) : s.data.toList[i]? = some s[i] := by
  have hl : i < s.data.toList.length := by simpa using h
  rw [List.getElem?_eq_getElem hl]; rfl

/-- One byte more. -/
theorem pre_step {S T : List UInt8} {i j : Nat} {c : UInt8} (h : (S.drop i).take j = T.take j) (h1 : S[i + j]? = some c) (h2 : T[j]? = some c) : (S.drop i).take (j + 1) = T.take (j + 1) := by
  have e1 : (S.drop i)[j]? = some c := by rw [List.getElem?_drop]; exact h1
  rw [List.take_add_one, List.take_add_one, h, e1, h2]
theorem pre_no {S T : List UInt8} {i j : Nat} {c d : UInt8} (h1 : S[i + j]? = some c) (h2 : T[j]? = some d) (hne : c ≠ d) : occAt S T i = false := by
  cases ho : occAt S T i with
  | false => rfl
  | true =>
    exfalso
    unfold occAt at ho
    obtain ⟨r, hr⟩ := List.isPrefixOf_iff_prefix.1 ho
    have e1 : (S.drop i)[j]? = some c := by rw [List.getElem?_drop]; exact h1
    have hj : j < T.length := (List.getElem?_eq_some_iff.1 h2).1
    rw [← hr, List.getElem?_append_left hj, h2] at e1
    exact hne (Option.some.inj e1).symm
theorem pre_all {S T : List UInt8} {i : Nat} (h : (S.drop i).take T.length = T.take T.length) : occAt S T i = true := by
  unfold occAt
  rw [List.take_length] at h
  rw [List.isPrefixOf_iff_prefix]
  exact ⟨(S.drop i).drop T.length, by have := List.take_append_drop T.length (S.drop i); rw [h] at this; exact this⟩

theorem ret_i64 {a b : Int} (h : a = b) : Ending.returned (.int .i64 a) = .returned (.int .i64 b) := by rw [h]

set_option maxHeartbeats 2000000 in
set_option maxRecDepth 100000 in
theorem indexOf_calls (s sub : ByteArray) (w : World) (hs : s.size ≤ 100000000) (hm0 : 1 ≤ sub.size) (hm1 : sub.size ≤ 1000) :
    Calls Try.prog 7 #[.string s, .string sub] w fun e w' => e = .returned (.int .i64 (Lib.index s.data.toList sub.data.toList)) ∧ ∃ q, w' = w.drewN q := by
  have t0 : ((sub.size : Int) == 0) = false := beq_eq_false_iff_ne.2 (by omega)
  have hsl : s.data.toList.length = s.size := rfl
  have htl : sub.data.toList.length = sub.size := rfl
  have hsub : sub.data.toList ≠ [] := by
    intro h
    rw [h] at htl
    simp only [List.length_nil] at htl
    omega
  have HSB := hide hsub
  have HSL := hide hsl
  have HTL := hide htl
  clear hsub hsl htl
  go_enter Try.func7, Try.ntmps7
  go_wp2_with fail
  go_loopg [7] (s.size + 1) (fun gk i wr => ∃ k q : Nat, i = .int .i64 k ∧ k ≤ s.size + 1 ∧ s.size + 1 ≤ gk + k ∧ Hid (NoOcc s.data.toList sub.data.toList k) ∧ w.drewN q = wr)
  case atStart => exact ⟨0, 0, rfl, by omega, by omega, NoOcc.zero _ _, rfl⟩
  case round =>
    obtain ⟨k, q, rfl, hk, hgk, hno, rfl⟩ := hrel
    obtain ⟨g0, hg0⟩ : ∃ g, gk = g := ⟨_, rfl⟩
    rw [hg0] at hgk
    by_cases hr : k + sub.size ≤ s.size
    · go_wp2_with fail
      go_loopg [8] sub.size (fun gj j wr => ∃ a q : Nat, j = .int .i64 a ∧ a ≤ sub.size ∧ sub.size ≤ gj + a ∧ Hid ((s.data.toList.drop k).take a = sub.data.toList.take a) ∧ w.drewN q = wr)
      case atStart => exact ⟨0, q, rfl, by omega, by omega, by simp [Hid], rfl⟩
      case round =>
        obtain ⟨a, q2, rfl, ha, hgj, hpre, rfl⟩ := hrel
        by_cases ham : a < sub.size
        · have hka : k + a < s.size := by omega
          have hkn : ((k : Int) + a).toNat = k + a := by omega
          have hkb : ((k : Int) + a).toNat < s.size := by omega
          have b1 := bytes_at s (k + a) hka
          have b2 := bytes_at sub a ham
          have hi1 : (k : Int) + a < s.size := by omega
          have hi0 : (0 : Int) ≤ (k : Int) + a := by omega
          have hw : IntKind.i64.wrap ((k : Int) + a) = (k : Int) + a := IntWalk.i64_in _ (by omega)
          have es : s[((k : Int) + a).toNat] = s[k + a] := by simp only [hkn]
          by_cases heq : s[k + a] = sub[a]
          · have te : ((s[((k : Int) + a).toNat].toNat : Int) == (sub[a].toNat : Int)) = true := by rw [es, heq]; simp
            have te2 : ((s[k + a].toNat : Int) == (sub[a].toNat : Int)) = true := by rw [heq]; simp
            have P := hide (pre_step hpre.out b1 (by rw [b2, heq]))
            clear heq b1 b2 es hpre hkn
            go_wp2_with fail
            go_quiet (fail)
            go_wp2_with fail
            go_roundg (gk - 1)
            refine ⟨a + 1, q2 + nq, ?_, by omega, by omega, P, ?_⟩
            · push_cast; rfl
            · first | rfl | rw [World.drewN_drewN]
            · omega
          · have hne : s[k + a].toNat ≠ sub[a].toNat := fun h => heq (UInt8.toNat_inj.1 h)
            have te : ((s[((k : Int) + a).toNat].toNat : Int) == (sub[a].toNat : Int)) = false := by
              rw [es]; exact beq_eq_false_iff_ne.2 (by omega)
            have te2 : ((s[k + a].toNat : Int) == (sub[a].toNat : Int)) = false := beq_eq_false_iff_ne.2 (by omega)
            have P := hide (hno.out.succ (pre_no b1 b2 heq))
            have tm : ((a : Int) == (sub.size : Int)) = false := beq_eq_false_iff_ne.2 (by omega)
            clear heq b1 b2 es hpre hkn hne
            go_wp2_with fail
            go_quiet (fail)
            go_wp2_with fail
            go_roundg (g0 - 1)
            refine ⟨k + 1, q2 + nq, ?_, by omega, by omega, P, ?_⟩
            · push_cast; rfl
            · first | rfl | rw [World.drewN_drewN]
            · omega
        · have hd : decide ((a : Int) < (sub.size : Int)) = false := decide_eq_false (by omega)
          have hdn : decide (a < sub.size) = false := decide_eq_false (by omega)
          have tm : ((a : Int) == (sub.size : Int)) = true := by
            have : a = sub.size := by omega
            rw [this]; simp
          have P := hide (index_hit hno.out (by rw [unhide HSL]; omega) (pre_all (by
            have : a = sub.size := by omega
            rw [this] at hpre
            exact hpre.out)))
          clear hpre ham
          go_wp2_with fail
          go_quiet (fail)
          go_wp2_with fail
          go_ret
          exact ⟨ret_i64 (unhide P).symm, q2 + nq, rfl⟩
    · have P := hide (index_past (unhide HSB) hno.out (by rw [unhide HSL, unhide HTL]; omega))
      have hd : decide ((k : Int) + sub.size ≤ s.size) = false := decide_eq_false (by omega)
      go_wp2_with fail
      go_ret
      exact ⟨ret_i64 (unhide P).symm, q, rfl⟩
end Go.Proofs.Qxb6001632a
