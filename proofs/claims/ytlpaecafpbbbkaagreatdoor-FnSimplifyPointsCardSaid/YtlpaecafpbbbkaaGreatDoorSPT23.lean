/- The closed facts of FnSimplifyPoints' row. -/
import Derived.Test.YtlpaecafpbbbkaaGreatDoorRows
import Derived.JoinedOf
import Derived.Tactics
import Derived.Lay
import Derived.MakeChecks
import Derived.Test.YtlpaecafpbbbkaaGreatDoorSPT22
namespace Go.Proofs.YtlpaecafpbbbkaaGreatDoor
namespace SPT
set_option maxRecDepth 100000 in
set_option maxHeartbeats 4000000 in
theorem facts : joinedFacts Tryz.checked.prog 3 Tryz.f3 Rows.fnSimplifyPointsSpec Rows.fnSimplifyPointsRow = true := by
  unfold joinedFacts
  simp only [Bool.and_eq_true]
  repeat' apply And.intro
  all_goals (as_aux_lemma => kernel_rfl)
theorem named : Tryz.checked.prog.funcNamed Rows.fnSimplifyPointsRow.func = some 3 := by kernel_rfl
theorem inst : Tryz.f3.isInstance Tryz.checked.prog Rows.fnSimplifyPointsRow.origin Rows.fnSimplifyPointsRow.targs := of_decide_eq_true (by kernel_rfl)
theorem wrap : Tryz.f3.isWrapper Tryz.checked.prog Rows.fnSimplifyPointsRow.wrapper Rows.fnSimplifyPointsRow.mainSum := by
  unfold Func.isWrapper; first | (rw [if_pos (by decide +kernel)]; kernel_rfl) | (rw [if_neg (by decide +kernel)]; exact ⟨rfl, rfl⟩)
end SPT
end Go.Proofs.YtlpaecafpbbbkaaGreatDoor
