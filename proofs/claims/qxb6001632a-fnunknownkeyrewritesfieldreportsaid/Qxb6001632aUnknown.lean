/-
  SEAT b6001632a. THE WALK of unknownKey and of its wrapper: two Cuts by the shelf's contract, then a sum of strings.
-/
import Derived.Test.Qxb6001632aShelf
import Derived.Test.Qxb6001632aIndex
import Derived.WalkSpells
namespace Go.Proofs.Qxb6001632a
open Go.RowKit Go.Lib

/-- ": field " -/
def sepF : List UInt8 := [58, 32, 102, 105, 101, 108, 100, 32]
/-- " not found in type " -/
def sepT : List UInt8 := [32, 110, 111, 116, 32, 102, 111, 117, 110, 100, 32, 105, 110, 32, 116, 121, 112, 101, 32]
/-- ": unknown key " -/
def sepU : List UInt8 := [58, 32, 117, 110, 107, 110, 111, 119, 110, 32, 107, 101, 121, 32]

/-- What unknownKey makes of a report. -/
def ukOf (m : List UInt8) : List UInt8 :=
  if (cut m sepF).2.2 then
    if (cut (cut m sepF).2.1 sepT).2.2 then (cut m sepF).1 ++ sepU ++ (cut (cut m sepF).2.1 sepT).1 else m
  else m

theorem cut_len (s sep : List UInt8) : (cut s sep).1.length ≤ s.length ∧ (cut s sep).2.1.length ≤ s.length := by
  unfold cut
  split
  · simp; omega
  · simp

theorem str_self (m : ByteArray) : (⟨m.data.toList.toArray⟩ : ByteArray) = m := by cases m; rfl

theorem ret_str {a b : ByteArray} (h : a = b) : Ending.returned (.string a) = .returned (.string b) := by rw [h]

set_option maxHeartbeats 1000000 in
set_option maxRecDepth 100000 in
theorem unknown_calls (m : ByteArray) (g : Int) (w : World) (hm : m.size ≤ 4000000) (hg : w.cell? ⟨0, 0, none⟩ = some (.int .i64 g)) :
    Calls Try.prog 11 #[.string m] w fun e w' => e = .returned (.string ⟨(ukOf m.data.toList).toArray⟩) ∧ ∃ q, w' = w.drewN q := by
  have hml : m.data.toList.length = m.size := rfl
  obtain ⟨a, b, ok, hc⟩ : ∃ a b ok, cut m.data.toList sepF = (a, b, ok) := ⟨_, _, _, rfl⟩
  obtain ⟨c, d, ok2, hd⟩ : ∃ c d ok, cut b sepT = (c, d, ok) := ⟨_, _, _, rfl⟩
  have C1 := Try.strings_Cut m ⟨sepF.toArray⟩ g w (by omega) hg
  have C2 : ∀ n, _ := fun n => Try.strings_Cut ⟨b.toArray⟩ ⟨sepT.toArray⟩ g (w.drewN n) (by
    have := (cut_len m.data.toList sepF).2
    rw [hc] at this
    simp only [ByteArray.size, List.size_toArray] at *
    omega) hg
  simp only [hc, hd] at C1 C2
  have ha := (cut_len m.data.toList sepF).1
  have hb := (cut_len m.data.toList sepF).2
  have hcl := (cut_len b sepT).1
  rw [hc] at ha hb
  rw [hd] at hcl
  simp only at ha hb hcl
  have hu : ukOf m.data.toList = if ok then (if ok2 then a ++ sepU ++ c else m.data.toList) else m.data.toList := by
    unfold ukOf
    rw [hc]
    simp only [hd]
  have HU := hide hu
  have Ax : ∀ w : World, (Op.stringOp .add ⟨a.toArray⟩ ⟨#[58, 32, 117, 110, 107, 110, 111, 119, 110, 32, 107, 101, 121, 32]⟩).run Try.prog w = .ok (.string ⟨(a ++ sepU).toArray⟩) w := fun w => run_string_add_lists w a sepU (by omega) (by decide)
  have Ay : ∀ w : World, (Op.stringOp .add ⟨(a ++ sepU).toArray⟩ ⟨c.toArray⟩).run Try.prog w = .ok (.string ⟨(a ++ sepU ++ c).toArray⟩) w := fun w => run_string_add_lists w _ c (by simp only [List.length_append]; have : sepU.length = 14 := rfl; omega) (by omega)
  have R0 : ok = false → Ending.returned (.string m) = .returned (.string ⟨(ukOf m.data.toList).toArray⟩) := fun h => by
    subst h; rw [hu]; exact ret_str (str_self m).symm
  have R1 : ok2 = false → Ending.returned (.string m) = .returned (.string ⟨(ukOf m.data.toList).toArray⟩) := fun h => by
    subst h; rw [hu]; cases ok <;> exact ret_str (str_self m).symm
  have R2 : ok = true → ok2 = true → Ending.returned (.string ⟨(a ++ sepU ++ c).toArray⟩) = .returned (.string ⟨(ukOf m.data.toList).toArray⟩) := fun h h2 => by
    subst h h2; rw [hu]; rfl
  clear hu HU ha hb hcl hc hd hml
  obtain ⟨res, hres⟩ : ∃ r : ByteArray, ⟨(ukOf m.data.toList).toArray⟩ = r := ⟨_, rfl⟩
  obtain ⟨x, hx⟩ : ∃ r : ByteArray, ⟨a.toArray⟩ = r := ⟨_, rfl⟩
  obtain ⟨y, hy⟩ : ∃ r : ByteArray, ⟨b.toArray⟩ = r := ⟨_, rfl⟩
  obtain ⟨z, hz⟩ : ∃ r : ByteArray, ⟨c.toArray⟩ = r := ⟨_, rfl⟩
  obtain ⟨u, hu⟩ : ∃ r : ByteArray, ⟨(a ++ sepU).toArray⟩ = r := ⟨_, rfl⟩
  obtain ⟨v, hv⟩ : ∃ r : ByteArray, ⟨(a ++ sepU ++ c).toArray⟩ = r := ⟨_, rfl⟩
  obtain ⟨d', hd'⟩ : ∃ r : ByteArray, ⟨d.toArray⟩ = r := ⟨_, rfl⟩
  rw [hres] at R0 R1 R2
  rw [hres]
  rw [hx, hy] at C1
  rw [hx, hu] at Ax
  rw [hu, hz, hv] at Ay
  rw [hv] at R2
  have C2' : ∀ n, Calls Try.prog 12 #[.string y, .string ⟨sepT.toArray⟩] (w.drewN n) fun e w' => e = .returned (.tuple #[.string z, .string d', .bool ok2]) ∧ ∃ k, w' = (w.drewN n).drewN k := fun n => by
    have := C2 n
    rw [hz, hd', hy] at this
    exact this
  have H1 := hide C1
  have H2 := hide C2'
  have HR0 := hide R0
  have HR1 := hide R1
  have HR2 := hide R2
  clear C1 C2 C2' R0 R1 R2 hres hx hy hz hu hv hd' hg
  go_enter Try.func11, Try.ntmps11
  go_wp2_with fail
  refine (unhide H1).mono ?_
  rintro e w' ⟨rfl, n, hw⟩
  subst hw
  cases ok
  · go_wp2_with fail
    go_ret
    exact ⟨unhide HR0 trivial, n, rfl⟩
  · go_wp2_with fail
    refine (unhide H2 n).mono ?_
    rintro e w' ⟨rfl, k, hw⟩
    subst hw
    cases ok2
    · go_wp2_with fail
      go_ret
      exact ⟨unhide HR1 trivial, n + k, rfl⟩
    · go_wp2_with fail
      go_ret
      exact ⟨unhide HR2 trivial trivial, n + k, rfl⟩

set_option maxHeartbeats 1000000 in
theorem zzUnknown_calls (m : ByteArray) (g : Int) (w : World) (hm : m.size ≤ 4000000) (hg : w.cell? ⟨0, 0, none⟩ = some (.int .i64 g)) :
    Calls Try.prog 8 #[.string m] w fun e w' => e = .returned (.string ⟨(ukOf m.data.toList).toArray⟩) ∧ ∃ q, w' = w.drewN q := by
  have H := hide (unknown_calls m g w hm hg)
  obtain ⟨res, hres⟩ : ∃ r : ByteArray, ⟨(ukOf m.data.toList).toArray⟩ = r := ⟨_, rfl⟩
  rw [hres] at H
  rw [hres]
  clear hres hg
  go_enter Try.func8, Try.ntmps8
  go_wp2_with fail
  refine (unhide H).mono ?_
  rintro e w' ⟨rfl, n, hw⟩
  subst hw
  go_wp2_with fail
  go_ret
  exact ⟨rfl, n, rfl⟩
end Go.Proofs.Qxb6001632a
