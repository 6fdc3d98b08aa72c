/-
  SEAT b6001598a. THE WALK of zzSjEncode: a string, escaped as marked.
-/
import Derived.Test.Qxb6001598aMem2
import Derived.Test.Qxb6001598aVal
import Derived.Deep.DeepCutAuto
namespace Go.Proofs.Qxb6001598a
open Go.RowKit

/-- The inside of a string, so far. -/
structure Enc (b : List Int) : Prop where
  scan : ∀ r, scanS false (b ++ r) = (scanS false r).map (· + b.length)
  bytes : Bytes b
theorem Enc.nil : Enc [] := ⟨fun r => by simp, fun x hx => by simp at hx⟩
theorem Enc.one {b : List Int} {c : Int} (h : Enc b) (h0 : 0 ≤ c) (h1 : c ≤ 255) (h2 : c ≠ 34) (h3 : c ≠ 92) : Enc (b ++ [c]) := by
  refine ⟨fun r => ?_, h.bytes.append (fun x hx => by simp at hx; omega)⟩
  rw [List.append_assoc, h.scan]
  show (scanS false (c :: r)).map _ = _
  rw [scanS_plain h2 h3, Option.map_map]
  congr 1
  funext n
  simp only [Function.comp_def, List.length_append, List.length_cons, List.length_nil]; omega
theorem Enc.two {b : List Int} {c : Int} (h : Enc b) (h0 : 0 ≤ c) (h1 : c ≤ 255) : Enc (b ++ [92, c]) := by
  refine ⟨fun r => ?_, h.bytes.append (fun x hx => by simp at hx; omega)⟩
  rw [List.append_assoc, h.scan]
  show (scanS false (92 :: c :: r)).map _ = _
  rw [scanS_pair, Option.map_map]
  congr 1
  funext n
  simp only [Function.comp_def, List.length_append, List.length_cons, List.length_nil]; omega
theorem Enc.str {b : List Int} (h : Enc b) : Str (34 :: (b ++ [34])) := by
  refine ⟨b ++ [34], rfl, fun r => ?_, ?_⟩
  · rw [List.append_assoc, h.scan]
    have : scanS false ([34] ++ r) = some 1 := by simp [scanS]
    rw [this, List.length_append]; simp; omega
  · intro x hx
    rw [List.mem_cons, List.mem_append] at hx
    rcases hx with rfl | hx | hx
    · omega
    · exact h.bytes x hx
    · simp at hx; omega

set_option maxHeartbeats 2000000 in
set_option maxRecDepth 100000 in
theorem encode_calls (B : Nat) (w : World) (v : Value) (xs es : List Int) (s : ByteArray) (ao : Option Addr) (n cap : Nat) (hown : Own B w v xs) (hsrc : Src B w ao n es) (hs : s.size ≤ 1048576) (hn : n ≤ 1048576) (hlen : xs.length ≤ 9000000000000) (hB : B ≤ w.heap.size) :
    Calls Try.prog 8 #[v, .string s, .slice ao n cap] w fun e w' => ∃ v' ys, e = .returned v' ∧ Str ys ∧ ys.length ≤ 2 * s.size + 2 ∧ Grew B w w' v v' (xs ++ ys) := by
  go_enter Try.func8, Try.ntmps8
  go_wp2_with (at_builtin; refine wp_app_lit rfl _ _ rfl B _ xs rfl hown _ _ 1 1 [34] rfl rfl rfl (by omega) hB ?_)
  intro u1 w1 g1
  have R0 := hide g1
  clear g1
  go_wp2_with fail
  go_loopg [0, 7] s.size (fun gk u i wr => ∃ (k : Nat) (b : List Int), i = .int .i64 k ∧ k ≤ s.size ∧ s.size ≤ gk + k ∧ Enc b ∧ b.length ≤ 2 * k ∧ Grew B w wr v u (xs ++ 34 :: b))
  case atStart => exact ⟨0, [], rfl, Nat.zero_le _, by omega, Enc.nil, by simp, by simpa using unhide R0⟩
  case round =>
    obtain ⟨k, b, rfl, hk, hgk, he, hbl, hg⟩ := hrel
    clear R0
    have hbel := hg.below hown hB
    have hzr : B ≤ wr.heap.size := Nat.le_trans hB hbel.size
    have hO := hg.own
    have hsr := hsrc.carry hbel
    have HG := hide hg
    have HE := hide he
    clear hg he
    by_cases hks : k < s.size
    · go_upto_if 24 with fail
      go_cut [9] (fun u wc => ∃ m : Bool, u = .bool m ∧ wr = wc)
      case first =>
        by_cases hn0 : 0 < n
        · obtain ⟨ba, off, hao, hbB, hcell⟩ := hsr.place hn0
          subst hao
          have hmod : k % n < n := Nat.mod_lt _ hn0
          have hc := hcell (k % n) hmod
          have hby := hsrc.at_byte (k % n)
          clear hcell hsr
          go_wp2_with fail
          go_meet
          case rel => exact ⟨_, rfl, rfl⟩
        · clear hsr
          go_wp2_with fail
          go_meet
          case rel => exact ⟨false, rfl, rfl⟩
      case rest =>
        obtain ⟨m, rfl, rfl⟩ := hcut
        have hcb : (s[k].toNat : Int) ≤ 255 := by have := s[k].toNat_lt; omega
        have HCB := hide hcb
        clear hcb
        by_cases hesc : (s[k].toNat : Int) = 34 ∨ (s[k].toNat : Int) = 92 ∨ m = true
        · have hq : ((s[k].toNat : Int) == 34) = true ∨ (((s[k].toNat : Int) == 34) = false ∧ ((s[k].toNat : Int) == 92) = true) ∨ (((s[k].toNat : Int) == 34) = false ∧ ((s[k].toNat : Int) == 92) = false ∧ m = true) := by
            by_cases c1 : (s[k].toNat : Int) = 34
            · left; simp [c1]
            · by_cases c2 : (s[k].toNat : Int) = 92
              · right; left; simp [c2]
              · right; right; refine ⟨by simp [c1], by simp [c2], by rcases hesc with h | h | h
                                                                     · exact absurd h c1
                                                                     · exact absurd h c2
                                                                     · exact h⟩
          clear hesc
          have R := hide (fun (u2 : Value) (w2 : World) (g : Grew B wr w2 u0 u2 (xs ++ 34 :: (b ++ [92, (s[k].toNat : Int)]))) => (unhide HG).trans g)
          have HE2 := hide ((unhide HE).two (c := (s[k].toNat : Int)) (by omega) (unhide HCB))
          rcases hq with t1 | ⟨t1, t2⟩ | ⟨t1, t2, t3⟩
          all_goals
            go_wp2_with (at_builtin; refine wp_app_lit rfl _ _ rfl B _ (xs ++ 34 :: b) rfl hO _ _ 1 1 [92] rfl rfl rfl (by simp; omega) hzr ?_)
            intro u2 w2 g2
            have hz2 := g2.grown.size
            have hO2 : Own B w2 u2 (xs ++ 34 :: (b ++ [92])) := by simpa using g2.own
            have G2 := hide g2
            clear g2
            go_wp2_with (at_builtin; refine wp_app_lit rfl _ _ rfl B _ (xs ++ 34 :: (b ++ [92])) rfl hO2 _ _ 1 1 [(s[k].toNat : Int)] rfl rfl rfl (by simp; omega) (by omega) ?_)
            intro u3 w3 g3
            have G3 := hide (unhide R _ _ (by simpa using (unhide G2).trans g3))
            clear g3
            go_wp2_with fail
            go_roundg (gk - 1)
            case measure => omega
            case rel => exact ⟨k + 1, _, by go_num, by omega, by omega, unhide HE2, by simp; omega, unhide G3⟩
        · have t1 : ((s[k].toNat : Int) == 34) = false := by simp; omega
          have t2 : ((s[k].toNat : Int) == 92) = false := by simp; omega
          have t3 : m = false := by cases m with
            | false => rfl
            | true => exact absurd (.inr (.inr rfl)) hesc
          have HE2 := hide ((unhide HE).one (c := (s[k].toNat : Int)) (by omega) (unhide HCB) (by omega) (by omega))
          have R := hide (fun (u2 : Value) (w2 : World) (g : Grew B wr w2 u0 u2 (xs ++ 34 :: (b ++ [(s[k].toNat : Int)]))) => (unhide HG).trans g)
          clear hesc
          go_wp2_with (at_builtin; refine wp_app_lit rfl _ _ rfl B _ (xs ++ 34 :: b) rfl hO _ _ 1 1 [(s[k].toNat : Int)] rfl rfl rfl (by simp; omega) hzr ?_)
          intro u3 w3 g3
          have G3 := hide (unhide R _ _ (by simpa using g3))
          clear g3
          go_wp2_with fail
          go_roundg (gk - 1)
          case measure => omega
          case rel => exact ⟨k + 1, _, by go_num, by omega, by omega, unhide HE2, by simp; omega, unhide G3⟩
    · clear hsr
      have HS := hide (unhide HE).str
      go_wp2_with (at_builtin; refine wp_app_lit rfl _ _ rfl B _ (xs ++ 34 :: b) rfl hO _ _ 1 1 [34] rfl rfl rfl (by simp; omega) hzr ?_)
      intro u3 w3 g3
      have G3 := hide ((unhide HG).trans g3)
      clear g3
      go_wp2_with fail
      go_ret
      exact ⟨_, 34 :: (b ++ [34]), rfl, unhide HS, by simp; omega, by simpa using unhide G3⟩
end Go.Proofs.Qxb6001598a
