/- The closed facts of FnBytesReads' row. -/
import Derived.Test.YtlpaecafpbbbkaaGreatDoorRows
import Derived.JoinedOf
import Derived.Tactics
import Derived.Lay
import Derived.MakeChecks
set_option linter.unusedVariables false
set_option linter.unusedSimpArgs false
set_option maxRecDepth 100000
set_option maxHeartbeats 24000000
namespace Go.Proofs.YtlpaecafpbbbkaaGreatDoor
section
namespace BRT
theorem facts:joinedFacts Tryz.checked.prog 4 Tryz.f4 Rows.fnBytesReadsSpec Rows.fnBytesReadsRow=true:=by
  unfold joinedFacts
  simp only [Bool.and_eq_true]
  repeat' apply And.intro
  all_goals (as_aux_lemma=>kernel_rfl)
theorem named:Tryz.checked.prog.funcNamed Rows.fnBytesReadsRow.func=some 4:=by kernel_rfl
theorem inst:Tryz.f4.isInstance Tryz.checked.prog Rows.fnBytesReadsRow.origin Rows.fnBytesReadsRow.targs:=of_decide_eq_true (by kernel_rfl)
theorem wrap:Tryz.f4.isWrapper Tryz.checked.prog Rows.fnBytesReadsRow.wrapper Rows.fnBytesReadsRow.mainSum:=by
  unfold Func.isWrapper;first | (rw [if_pos (by decide +kernel)];kernel_rfl) | (rw [if_neg (by decide +kernel)];exact ⟨rfl,rfl⟩)
end BRT
end
end Go.Proofs.YtlpaecafpbbbkaaGreatDoor
