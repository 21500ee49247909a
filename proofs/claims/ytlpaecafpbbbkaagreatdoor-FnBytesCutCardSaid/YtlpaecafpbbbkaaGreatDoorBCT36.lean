/- The closed facts of FnBytesCut' row. -/
import Derived.Test.YtlpaecafpbbbkaaGreatDoorRows
import Derived.JoinedOf
import Derived.Tactics
import Derived.Lay
import Derived.MakeChecks
set_option linter.unusedVariables false
set_option linter.unusedSimpArgs false
namespace Go.Proofs.YtlpaecafpbbbkaaGreatDoor
namespace BCT
set_option maxRecDepth 100000 in
set_option maxHeartbeats 4000000 in
theorem facts : joinedFacts Tryz.checked.prog 6 Tryz.f6 Rows.fnBytesCutSpec Rows.fnBytesCutRow = true := by
  unfold joinedFacts
  simp only [Bool.and_eq_true]
  repeat' apply And.intro
  all_goals (as_aux_lemma => kernel_rfl)
theorem named : Tryz.checked.prog.funcNamed Rows.fnBytesCutRow.func = some 6 := by kernel_rfl
theorem inst : Tryz.f6.isInstance Tryz.checked.prog Rows.fnBytesCutRow.origin Rows.fnBytesCutRow.targs := of_decide_eq_true (by kernel_rfl)
theorem wrap : Tryz.f6.isWrapper Tryz.checked.prog Rows.fnBytesCutRow.wrapper Rows.fnBytesCutRow.mainSum := by
  unfold Func.isWrapper; first | (rw [if_pos (by decide +kernel)]; kernel_rfl) | (rw [if_neg (by decide +kernel)]; exact ⟨rfl, rfl⟩)
end BCT
end Go.Proofs.YtlpaecafpbbbkaaGreatDoor
