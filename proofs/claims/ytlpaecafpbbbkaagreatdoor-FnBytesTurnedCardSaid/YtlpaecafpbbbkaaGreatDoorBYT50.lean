/- The closed facts of FnBytesTurned' row. -/
import Derived.Test.YtlpaecafpbbbkaaGreatDoorRows
import Derived.JoinedOf
import Derived.Tactics
import Derived.Lay
import Derived.MakeChecks
set_option linter.unusedVariables false
set_option linter.unusedSimpArgs false
set_option maxRecDepth 100000
set_option maxHeartbeats 24000000
namespace Go.Proofs.YtlpaecafpbbbkaaGreatDoor
section
namespace BTT
theorem facts:joinedFacts Tryz.checked.prog 5 Tryz.f5 Rows.fnBytesTurnedSpec Rows.fnBytesTurnedRow=true:=by
  unfold joinedFacts
  simp only [Bool.and_eq_true]
  repeat' apply And.intro
  all_goals (as_aux_lemma=>kernel_rfl)
theorem named:Tryz.checked.prog.funcNamed Rows.fnBytesTurnedRow.func=some 5:=by kernel_rfl
theorem inst:Tryz.f5.isInstance Tryz.checked.prog Rows.fnBytesTurnedRow.origin Rows.fnBytesTurnedRow.targs:=of_decide_eq_true (by kernel_rfl)
theorem wrap:Tryz.f5.isWrapper Tryz.checked.prog Rows.fnBytesTurnedRow.wrapper Rows.fnBytesTurnedRow.mainSum:=by
  unfold Func.isWrapper;first | (rw [if_pos (by decide +kernel)];kernel_rfl) | (rw [if_neg (by decide +kernel)];exact ⟨rfl,rfl⟩)
end BTT
end
end Go.Proofs.YtlpaecafpbbbkaaGreatDoor
