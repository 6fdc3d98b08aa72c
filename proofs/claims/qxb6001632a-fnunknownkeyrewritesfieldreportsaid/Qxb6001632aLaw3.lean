/-
  SEAT b6001632a. THE WALK of FnUnknownKeyRewritesFieldReport.
-/
import Derived.Test.Qxb6001632aPlain
namespace Go.Proofs.Qxb6001632a
open Go.RowKit Go.Lib

/-- Do the three lengths fit? -/
def fit3 (p k t : ByteArray) : Bool := decide (p.size + k.size + t.size ≤ 1048576)

set_option maxHeartbeats 1000000 in
theorem bytes6_calls (p k t : ByteArray) (w : World) (hp : p.size ≤ 9223372036854775807) (hk : k.size ≤ 9223372036854775807) (ht : t.size ≤ 9223372036854775807) :
    Calls Try.prog 6 #[.string p, .string k, .string t] w fun e w' => e = .returned (.bool (fit3 p k t)) ∧ w' = w := by
  by_cases h1 : p.size ≤ 1048576
  · have d1 : decide ((1048576 : Int) < (p.size : Int)) = false := decide_eq_false (by omega)
    by_cases h2 : k.size ≤ 1048576
    · have d2 : decide ((1048576 : Int) < (k.size : Int)) = false := decide_eq_false (by omega)
      by_cases h3 : p.size + k.size ≤ 1048576
      · have d3 : decide ((1048576 : Int) < (p.size : Int) + k.size) = false := decide_eq_false (by omega)
        by_cases h4 : t.size ≤ 1048576
        · have d4 : decide ((1048576 : Int) < (t.size : Int)) = false := decide_eq_false (by omega)
          by_cases h5 : p.size + k.size + t.size ≤ 1048576
          · have d5 : decide ((1048576 : Int) < (p.size : Int) + k.size + t.size) = false := decide_eq_false (by omega)
            rw [show fit3 p k t = true from decide_eq_true h5]
            go_enter Try.func6, Try.ntmps6
            go_wp2
            go_ret
            exact ⟨rfl, rfl⟩
          · have d5 : decide ((1048576 : Int) < (p.size : Int) + k.size + t.size) = true := decide_eq_true (by omega)
            rw [show fit3 p k t = false from decide_eq_false h5]
            go_enter Try.func6, Try.ntmps6
            go_wp2
            go_ret
            exact ⟨rfl, rfl⟩
        · have d4 : decide ((1048576 : Int) < (t.size : Int)) = true := decide_eq_true (by omega)
          rw [show fit3 p k t = false from decide_eq_false (by omega)]
          go_enter Try.func6, Try.ntmps6
          go_wp2
          go_ret
          exact ⟨rfl, rfl⟩
      · have d3 : decide ((1048576 : Int) < (p.size : Int) + k.size) = true := decide_eq_true (by omega)
        rw [show fit3 p k t = false from decide_eq_false (by omega)]
        go_enter Try.func6, Try.ntmps6
        go_wp2
        go_ret
        exact ⟨rfl, rfl⟩
    · have d2 : decide ((1048576 : Int) < (k.size : Int)) = true := decide_eq_true (by omega)
      rw [show fit3 p k t = false from decide_eq_false (by omega)]
      go_enter Try.func6, Try.ntmps6
      go_wp2
      go_ret
      exact ⟨rfl, rfl⟩
  · have d1 : decide ((1048576 : Int) < (p.size : Int)) = true := decide_eq_true (by omega)
    rw [show fit3 p k t = false from decide_eq_false (by omega)]
    go_enter Try.func6, Try.ntmps6
    go_wp2
    go_ret
    exact ⟨rfl, rfl⟩

theorem data_mk (l : List UInt8) : (⟨l.toArray⟩ : ByteArray).data.toList = l := rfl
theorem size_list (m : ByteArray) : m.data.toList.length = m.size := rfl

set_option maxHeartbeats 2000000 in
set_option maxRecDepth 100000 in
theorem law3_calls (p k t : ByteArray) (g : Int) (w : World) (hp : p.size ≤ 9223372036854775807) (hk : k.size ≤ 9223372036854775807) (ht : t.size ≤ 9223372036854775807) (hg : w.cell? ⟨0, 0, none⟩ = some (.int .i64 g)) :
    Calls Try.prog 3 #[.string p, .string k, .string t] w fun e w' => e = .returned (.bool true) ∧ ∃ q, w' = w.drewN q := by
  have HB := hide (bytes6_calls p k t w hp hk ht)
  by_cases h : p.size + k.size + t.size ≤ 1048576
  · rw [show fit3 p k t = true from decide_eq_true h] at HB
    have hF : sepF.length = 8 := rfl
    have hT : sepT.length = 19 := rfl
    have hU : sepU.length = 14 := rfl
    have lp := size_list p
    have lk := size_list k
    have lt := size_list t
    have d1 : decide ((1048576 : Int) < (p.size : Int)) = false := decide_eq_false (by omega)
    have d2 : decide ((1048576 : Int) < (k.size : Int)) = false := decide_eq_false (by omega)
    have d3 : decide ((1048576 : Int) < (t.size : Int)) = false := decide_eq_false (by omega)
    have d4 : decide ((1048576 : Int) < (p.size : Int) + k.size + t.size) = false := decide_eq_false (by omega)
    -- the sums
    have A1 : ∀ w : World, (Op.stringOp .add p ⟨#[58, 32, 102, 105, 101, 108, 100, 32]⟩).run Try.prog w = .ok (.string ⟨(p.data.toList ++ sepF).toArray⟩) w := fun w => by
      have := run_string_add_lists (P := Try.prog) w p.data.toList sepF (by omega) (by omega)
      rw [str_self] at this
      exact this
    have A2 : ∀ w : World, (Op.stringOp .add k ⟨#[32, 110, 111, 116, 32, 102, 111, 117, 110, 100, 32, 105, 110, 32, 116, 121, 112, 101, 32]⟩).run Try.prog w = .ok (.string ⟨(k.data.toList ++ sepT).toArray⟩) w := fun w => by
      have := run_string_add_lists (P := Try.prog) w k.data.toList sepT (by omega) (by omega)
      rw [str_self] at this
      exact this
    have A3 : ∀ w : World, (Op.stringOp .add ⟨(p.data.toList ++ sepF).toArray⟩ k).run Try.prog w = .ok (.string ⟨(p.data.toList ++ sepF ++ k.data.toList).toArray⟩) w := fun w => by
      have := run_string_add_lists (P := Try.prog) w (p.data.toList ++ sepF) k.data.toList (by simp only [List.length_append]; omega) (by omega)
      rw [str_self] at this
      exact this
    have A4 : ∀ w : World, (Op.stringOp .add ⟨(p.data.toList ++ sepF ++ k.data.toList).toArray⟩ ⟨#[32, 110, 111, 116, 32, 102, 111, 117, 110, 100, 32, 105, 110, 32, 116, 121, 112, 101, 32]⟩).run Try.prog w = .ok (.string ⟨(p.data.toList ++ sepF ++ k.data.toList ++ sepT).toArray⟩) w := fun w =>
      run_string_add_lists (P := Try.prog) w (p.data.toList ++ sepF ++ k.data.toList) sepT (by simp only [List.length_append]; omega) (by omega)
    have A5 : ∀ w : World, (Op.stringOp .add ⟨(p.data.toList ++ sepF ++ k.data.toList ++ sepT).toArray⟩ t).run Try.prog w = .ok (.string ⟨(p.data.toList ++ sepF ++ k.data.toList ++ sepT ++ t.data.toList).toArray⟩) w := fun w => by
      have := run_string_add_lists (P := Try.prog) w (p.data.toList ++ sepF ++ k.data.toList ++ sepT) t.data.toList (by simp only [List.length_append]; omega) (by omega)
      rw [str_self] at this
      exact this
    have A6 : ∀ w : World, (Op.stringOp .add p ⟨#[58, 32, 117, 110, 107, 110, 111, 119, 110, 32, 107, 101, 121, 32]⟩).run Try.prog w = .ok (.string ⟨(p.data.toList ++ sepU).toArray⟩) w := fun w => by
      have := run_string_add_lists (P := Try.prog) w p.data.toList sepU (by omega) (by omega)
      rw [str_self] at this
      exact this
    have A7 : ∀ w : World, (Op.stringOp .add ⟨(p.data.toList ++ sepU).toArray⟩ k).run Try.prog w = .ok (.string ⟨(p.data.toList ++ sepU ++ k.data.toList).toArray⟩) w := fun w => by
      have := run_string_add_lists (P := Try.prog) w (p.data.toList ++ sepU) k.data.toList (by simp only [List.length_append]; omega) (by omega)
      rw [str_self] at this
      exact this
    -- the callees
    have I1 : ∀ w, _ := fun w => indexOf_calls ⟨(p.data.toList ++ sepF).toArray⟩ ⟨sepF.toArray⟩ w (by simp only [ByteArray.size, List.size_toArray, List.length_append]; omega) (by decide) (by decide)
    have I2 : ∀ w, _ := fun w => indexOf_calls ⟨(k.data.toList ++ sepT).toArray⟩ ⟨sepT.toArray⟩ w (by simp only [ByteArray.size, List.size_toArray, List.length_append]; omega) (by decide) (by decide)
    have K : ∀ q, _ := fun q => zzUnknown_calls ⟨(p.data.toList ++ sepF ++ k.data.toList ++ sepT ++ t.data.toList).toArray⟩ g (w.drewN q) (by simp only [ByteArray.size, List.size_toArray, List.length_append]; omega) hg
    simp only at I1 I2 K
    have hu := uk_made (p := p.data.toList) (k := k.data.toList) (t := t.data.toList)
    rw [lp, lk] at hu
    obtain ⟨a, ha⟩ : ∃ a, index (p.data.toList ++ sepF) sepF = a := ⟨_, rfl⟩
    obtain ⟨b, hb⟩ : ∃ a, index (k.data.toList ++ sepT) sepT = a := ⟨_, rfl⟩
    rw [ha] at I1 hu
    rw [hb] at I2 hu
    have K' : a = p.size → b = k.size → ∀ q, Calls Try.prog 8 #[.string ⟨(p.data.toList ++ sepF ++ k.data.toList ++ sepT ++ t.data.toList).toArray⟩] (w.drewN q) fun e w' => e = .returned (.string ⟨(p.data.toList ++ sepU ++ k.data.toList).toArray⟩) ∧ ∃ n, w' = (w.drewN q).drewN n := fun e1 e2 q => by
      have := K q
      rw [hu e1 e2] at this
      exact this
    obtain ⟨x1, hx1⟩ : ∃ r : ByteArray, ⟨(p.data.toList ++ sepF).toArray⟩ = r := ⟨_, rfl⟩
    rw [hx1] at A1 A3 I1
    obtain ⟨x2, hx2⟩ : ∃ r : ByteArray, ⟨(k.data.toList ++ sepT).toArray⟩ = r := ⟨_, rfl⟩
    rw [hx2] at A2 I2
    obtain ⟨x3, hx3⟩ : ∃ r : ByteArray, ⟨(p.data.toList ++ sepF ++ k.data.toList).toArray⟩ = r := ⟨_, rfl⟩
    rw [hx3] at A3 A4
    obtain ⟨x4, hx4⟩ : ∃ r : ByteArray, ⟨(p.data.toList ++ sepF ++ k.data.toList ++ sepT).toArray⟩ = r := ⟨_, rfl⟩
    rw [hx4] at A4 A5
    obtain ⟨x5, hx5⟩ : ∃ r : ByteArray, ⟨(p.data.toList ++ sepF ++ k.data.toList ++ sepT ++ t.data.toList).toArray⟩ = r := ⟨_, rfl⟩
    rw [hx5] at A5 K'
    obtain ⟨x6, hx6⟩ : ∃ r : ByteArray, ⟨(p.data.toList ++ sepU).toArray⟩ = r := ⟨_, rfl⟩
    rw [hx6] at A6 A7
    obtain ⟨x7, hx7⟩ : ∃ r : ByteArray, ⟨(p.data.toList ++ sepU ++ k.data.toList).toArray⟩ = r := ⟨_, rfl⟩
    rw [hx7] at A7 K'
    have HI1 := hide I1
    have HI2 := hide I2
    have HK := hide K'
    clear I1 I2 K K' hu ha hb hg lp lk lt hF hT hU hx1 hx2 hx3 hx4 hx5 hx6 hx7
    by_cases h1 : a = p.size
    · have n1 : (a == (p.size : Int)) = true := by rw [h1]; simp
      by_cases h2 : b = k.size
      · have n2 : (b == (k.size : Int)) = true := by rw [h2]; simp
        have HK := hide (unhide HK h1 h2)
        clear h1 h2
        go_enter Try.func3, Try.ntmps3
        go_wp2_with fail
        refine (unhide HB).mono ?_
        rintro e w' ⟨rfl, hw⟩
        replace hw := hw.symm
        subst hw
        go_wp2_with fail
        refine (unhide HI1 _).mono ?_
        rintro e w' ⟨rfl, q, hw⟩
        subst hw
        go_wp2_with fail
        refine (unhide HI2 _).mono ?_
        rintro e w' ⟨rfl, q2, hw⟩
        subst hw
        go_wp2_with fail
        refine (unhide HK _).mono ?_
        rintro e w' ⟨rfl, q3, hw⟩
        subst hw
        go_wp2_with fail
        go_ret
        exact ⟨by simp, _, rfl⟩
      · have n2 : (b == (k.size : Int)) = false := beq_eq_false_iff_ne.2 h2
        clear h1 h2 HK
        go_enter Try.func3, Try.ntmps3
        go_wp2_with fail
        refine (unhide HB).mono ?_
        rintro e w' ⟨rfl, hw⟩
        replace hw := hw.symm
        subst hw
        go_wp2_with fail
        refine (unhide HI1 _).mono ?_
        rintro e w' ⟨rfl, q, hw⟩
        subst hw
        go_wp2_with fail
        refine (unhide HI2 _).mono ?_
        rintro e w' ⟨rfl, q2, hw⟩
        subst hw
        go_wp2_with fail
        go_ret
        exact ⟨by simp, _, rfl⟩
    · have n1 : (a == (p.size : Int)) = false := beq_eq_false_iff_ne.2 h1
      clear h1 HK HI2
      go_enter Try.func3, Try.ntmps3
      go_wp2_with fail
      refine (unhide HB).mono ?_
      rintro e w' ⟨rfl, hw⟩
      replace hw := hw.symm
      subst hw
      go_wp2_with fail
      refine (unhide HI1 _).mono ?_
      rintro e w' ⟨rfl, q, hw⟩
      subst hw
      go_wp2_with fail
      go_ret
      exact ⟨by simp, _, rfl⟩
  · rw [show fit3 p k t = false from decide_eq_false h] at HB
    go_enter Try.func3, Try.ntmps3
    go_wp2_with fail
    refine (unhide HB).mono ?_
    rintro e w' ⟨rfl, hw⟩
    replace hw := hw.symm
    subst hw
    go_wp2_with fail
    go_ret
    exact ⟨rfl, 0, rfl⟩
end Go.Proofs.Qxb6001632a
