import Derived.Test.Qxb6613770aRecW
import Derived.Test.Qxb6613770aLocT
namespace Go.Proofs.Qxb6613770a
set_option linter.unusedVariables false
set_option linter.unusedSimpArgs false
open Go.RowKit

set_option maxHeartbeats 4000000 in
set_option maxRecDepth 100000 in
/-- zzToVersion. -/
theorem toVersion_any (v : Ver) (w : World) :
    Calls Try.prog 48 #[.agg #[.int .u64 v.slot, .int .u64 v.br, .string v.bn]] w fun e w' => e = .returned (.agg #[.int .u64 v.slot, .int .u64 v.br, .string v.bn]) ∧ Kept (fun _ => False) w w' := by
  go_enter Try.func48, Try.ntmps48
  go_wp2
  go_region_with (go_at_call 41; refine (toBallot_any v.br v.bn _).mono ?_; rintro e w1 ⟨rfl, rfl⟩)
  all_goals
    go_wp2
    refine bodyPost_ret (v := .agg #[.int .u64 v.slot, .int .u64 v.br, .string v.bn]) (by simp [results, Try.results48, go_sem]) rfl ⟨rfl, ?_⟩
    repeat (first | with_reducible exact Kept.refl _ w | with_reducible refine Kept.drew ?_ | with_reducible refine Kept.alloc ?_ _ | (with_reducible refine Kept.setCell ?_ ?_ _; rotate_left; (simp; try omega)))

end Go.Proofs.Qxb6613770a
