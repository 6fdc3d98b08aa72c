/-
  SEAT b6001736a. THE WALK of (*tokens).skip where the text stands at a quote: it moves nothing.
-/
import Derived.Test.Qxb6001736aMem
import Derived.Deep.QuietTactic
import Derived.BigQuiet
import Derived.WalkSmall
import Derived.Deep.DeepCutAuto
namespace Go.Proofs.Qxb6001736a
open Go.RowKit

set_option maxHeartbeats 1000000 in
set_option maxRecDepth 100000 in
theorem skip_calls (w : World) (T g n c : Nat) (hn : 0 < n) (hn1 : n ≤ 1000000000) (hd : w.cell? ⟨T, 0, none⟩ = some (.slice (some ⟨g, 0, none⟩) n c)) (ha : w.cell? ⟨T, 1, none⟩ = some (.int .i64 0))
    (hq : w.cell? ⟨g, 0, none⟩ = some (.int .u8 34)) :
    Calls Try.prog 27 #[.pointer (some ⟨T, 0, none⟩)] w fun e w' => e = .returned (.tuple #[]) ∧ ∃ q, w' = w.drewN q := by
  have hi : (0 : Int) < (n : Int) := by omega
  go_enter Try.func27, Try.ntmps27
  go_wp2_with fail
  go_loopg [] n (fun gk wr => wr = w)
  case atStart => rfl
  case round =>
    subst hrel
    go_wp2_with fail
    go_quiet (fail)
    go_wp2_with fail
    go_quiet (fail)
    go_wp2_with fail
    refine bodyPost_ret (results_none rfl _ _ _) rfl ?_
    exact ⟨rfl, _, rfl⟩
end Go.Proofs.Qxb6001736a
