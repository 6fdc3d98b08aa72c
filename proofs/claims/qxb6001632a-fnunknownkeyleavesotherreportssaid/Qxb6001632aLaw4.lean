/-
  SEAT b6001632a. THE WALK of FnUnknownKeyLeavesOtherReports.
-/
import Derived.Test.Qxb6001632aPlain
namespace Go.Proofs.Qxb6001632a
open Go.RowKit Go.Lib

theorem bytes9_calls (m : ByteArray) (w : World) (hm : m.size ≤ 9223372036854775807) :
    Calls Try.prog 9 #[.string m] w fun e w' => e = .returned (.bool (decide (m.size ≤ 1048576))) ∧ w' = w := by
  by_cases h : m.size ≤ 1048576
  · have d1 : decide ((m.size : Int) > 1048576) = false := decide_eq_false (by omega)
    have d2 : decide ((1048576 : Int) < (m.size : Int)) = false := decide_eq_false (by omega)
    rw [decide_eq_true h]
    go_enter Try.func9, Try.ntmps9
    go_wp2
    go_ret
    exact ⟨rfl, rfl⟩
  · have d1 : decide ((m.size : Int) > 1048576) = true := decide_eq_true (by omega)
    have d2 : decide ((1048576 : Int) < (m.size : Int)) = true := decide_eq_true (by omega)
    rw [decide_eq_false h]
    go_enter Try.func9, Try.ntmps9
    go_wp2
    go_ret
    exact ⟨rfl, rfl⟩

set_option maxHeartbeats 1000000 in
theorem law4_calls (m : ByteArray) (g : Int) (w : World) (hm : m.size ≤ 9223372036854775807) (hg : w.cell? ⟨0, 0, none⟩ = some (.int .i64 g)) :
    Calls Try.prog 4 #[.string m] w fun e w' => e = .returned (.bool true) ∧ ∃ q, w' = w.drewN q := by
  have HB := hide (bytes9_calls m w hm)
  by_cases h : m.size ≤ 1048576
  · rw [decide_eq_true h] at HB
    have I1 := hide (fun w => indexOf_calls m ⟨sepF.toArray⟩ w (by omega) (by decide) (by decide))
    have I2 := hide (fun w => indexOf_calls m ⟨sepT.toArray⟩ w (by omega) (by decide) (by decide))
    have K := hide (fun q => zzUnknown_calls m g (w.drewN q) (by omega) hg)
    have hl1 := index_ge m.data.toList sepF
    have hl2 := index_ge m.data.toList sepT
    have hu := hide (uk_other (m := m.data.toList))
    obtain ⟨a, ha⟩ : ∃ a, index m.data.toList sepF = a := ⟨_, rfl⟩
    obtain ⟨b, hb⟩ : ∃ a, index m.data.toList sepT = a := ⟨_, rfl⟩
    have I1' := hide (fun w => (show Calls Try.prog 7 #[.string m, .string ⟨sepF.toArray⟩] w fun e w' => e = .returned (.int .i64 a) ∧ ∃ q, w' = w.drewN q from ha ▸ unhide I1 w))
    have I2' := hide (fun w => (show Calls Try.prog 7 #[.string m, .string ⟨sepT.toArray⟩] w fun e w' => e = .returned (.int .i64 b) ∧ ∃ q, w' = w.drewN q from hb ▸ unhide I2 w))
    rw [ha] at hl1 hu
    rw [hb] at hl2 hu
    clear I1 I2 ha hb hg
    have d1 : decide ((m.size : Int) > 1048576) = false := decide_eq_false (by omega)
    have d2 : decide ((1048576 : Int) < (m.size : Int)) = false := decide_eq_false (by omega)
    by_cases hab : 0 ≤ a ∧ 0 ≤ b
    · obtain ⟨h0, h1⟩ := hab
      have e1 : decide (a ≥ 0) = true := decide_eq_true h0
      have e2 : decide (b ≥ 0) = true := decide_eq_true h1
      go_enter Try.func4, Try.ntmps4
      go_wp2_with fail
      refine (unhide HB).mono ?_
      rintro e w' ⟨rfl, hw⟩
      replace hw := hw.symm
      subst hw
      go_wp2_with fail
      refine (unhide I1' _).mono ?_
      rintro e w' ⟨rfl, q, hw⟩
      subst hw
      go_wp2_with fail
      refine (unhide I2' _).mono ?_
      rintro e w' ⟨rfl, q2, hw⟩
      subst hw
      go_wp2_with fail
      go_ret
      exact ⟨rfl, q + q2, rfl⟩
    · have hs := unhide hu (by omega)
      have K' := hide (fun q => (show Calls Try.prog 8 #[.string m] (w.drewN q) fun e w' => e = .returned (.string m) ∧ ∃ k, w' = (w.drewN q).drewN k from by
        have := unhide K q
        rw [hs, str_self] at this
        exact this))
      clear hs hu K
      by_cases h0 : 0 ≤ a
      · have h1 : b < 0 := by omega
        have e1 : decide (a ≥ 0) = true := decide_eq_true h0
        have e2 : decide (b ≥ 0) = false := decide_eq_false (by omega)
        have e3 : decide (0 ≤ b) = false := decide_eq_false (by omega)
        clear hab
        go_enter Try.func4, Try.ntmps4
        go_wp2_with fail
        refine (unhide HB).mono ?_
        rintro e w' ⟨rfl, hw⟩
        replace hw := hw.symm
        subst hw
        go_wp2_with fail
        refine (unhide I1' _).mono ?_
        rintro e w' ⟨rfl, q, hw⟩
        subst hw
        go_wp2_with fail
        refine (unhide I2' _).mono ?_
        rintro e w' ⟨rfl, q2, hw⟩
        subst hw
        go_wp2_with fail
        refine (unhide K' _).mono ?_
        rintro e w' ⟨rfl, q3, hw⟩
        subst hw
        go_wp2_with fail
        go_ret
        exact ⟨by simp, _, rfl⟩
      · have e1 : decide (a ≥ 0) = false := decide_eq_false (by omega)
        have e3 : decide (0 ≤ a) = false := decide_eq_false (by omega)
        clear hab
        go_enter Try.func4, Try.ntmps4
        go_wp2_with fail
        refine (unhide HB).mono ?_
        rintro e w' ⟨rfl, hw⟩
        replace hw := hw.symm
        subst hw
        go_wp2_with fail
        refine (unhide I1' _).mono ?_
        rintro e w' ⟨rfl, q, hw⟩
        subst hw
        go_wp2_with fail
        refine (unhide K' _).mono ?_
        rintro e w' ⟨rfl, q3, hw⟩
        subst hw
        go_wp2_with fail
        go_ret
        exact ⟨by simp, _, rfl⟩
  · rw [decide_eq_false h] at HB
    go_enter Try.func4, Try.ntmps4
    go_wp2_with fail
    refine (unhide HB).mono ?_
    rintro e w' ⟨rfl, hw⟩
    replace hw := hw.symm
    subst hw
    go_wp2_with fail
    go_ret
    exact ⟨rfl, 0, rfl⟩
end Go.Proofs.Qxb6001632a
