/- The closed facts of FnSimplifyPoints' row. -/
import Derived.Test.YtlpaecafpbbbkaaGreatDoorRows
import Derived.JoinedOf
import Derived.Tactics
import Derived.Lay
import Derived.MakeChecks
import Derived.Test.YtlpaecafpbbbkaaGreatDoorSPT21
namespace Go.Proofs.YtlpaecafpbbbkaaGreatDoor
namespace SPT
set_option maxRecDepth 100000 in
set_option maxHeartbeats 4000000 in
theorem facts : joinedFacts Tryz.checked.prog 3 Tryz.f3 Rows.fnSimplifyPointsSpec Rows.fnSimplifyPointsRow = true := by
  unfold joinedFacts
  simp only [Bool.and_eq_true]
  repeat' apply And.intro
  all_goals (as_aux_lemma => kernel_rfl)
end SPT
end Go.Proofs.YtlpaecafpbbbkaaGreatDoor
