/- The closed facts of FnRectangleEmpty' row. -/
import Derived.Test.YtlpaecafpbbbkaaGreatDoorRows
import Derived.JoinedOf
import Derived.Tactics
import Derived.Lay
import Derived.MakeChecks
set_option linter.unusedVariables false
set_option linter.unusedSimpArgs false
set_option maxRecDepth 100000
set_option maxHeartbeats 24000000
namespace Go.Proofs.YtlpaecafpbbbkaaGreatDoor
section
namespace RET
theorem facts:joinedFacts Tryz.checked.prog 7 Tryz.f7 Rows.fnRectangleEmptySpec Rows.fnRectangleEmptyRow=true:=by
  unfold joinedFacts
  simp only [Bool.and_eq_true]
  repeat' apply And.intro
  all_goals (as_aux_lemma=>kernel_rfl)
theorem named:Tryz.checked.prog.funcNamed Rows.fnRectangleEmptyRow.func=some 7:=by kernel_rfl
theorem inst:Tryz.f7.isInstance Tryz.checked.prog Rows.fnRectangleEmptyRow.origin Rows.fnRectangleEmptyRow.targs:=of_decide_eq_true (by kernel_rfl)
theorem wrap:Tryz.f7.isWrapper Tryz.checked.prog Rows.fnRectangleEmptyRow.wrapper Rows.fnRectangleEmptyRow.mainSum:=by
  unfold Func.isWrapper;first | (rw [if_pos (by decide +kernel)];kernel_rfl) | (rw [if_neg (by decide +kernel)];exact ⟨rfl,rfl⟩)
end RET
end
end Go.Proofs.YtlpaecafpbbbkaaGreatDoor
