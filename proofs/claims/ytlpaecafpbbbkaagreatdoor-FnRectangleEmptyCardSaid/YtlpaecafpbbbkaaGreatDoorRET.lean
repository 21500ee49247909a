/- FnRectangleEmpty: both rectangles about an empty shape, in which no polygon has an empty ring, are empty ones of its kind: the row's statement and its card. -/
import Derived.Test.YtlpaecafpbbbkaaGreatDoorRCT29
import Derived.Test.YtlpaecafpbbbkaaGreatDoorRCT30
import Derived.Test.YtlpaecafpbbbkaaGreatDoorCards
import Derived.Test.YtlpaecafpbbbkaaGreatDoorTie
import Derived.Lib.SmallJoins
import Derived.Laws.Cover2
import Derived.Lay
import Derived.LaidOnce
import Derived.SevenTiedAt
import Derived.MakeChecks
set_option linter.unusedVariables false
set_option linter.unusedSimpArgs false
namespace Go.Proofs.YtlpaecafpbbbkaaGreatDoor
open Go.Joins Go.ChangeShapes Go.WideShapes Go.RowKit Go.Deep Go.ChangeAt
namespace RET

theorem holds : Rows.FnRectangleEmptySaid :=
  OpenClaim.holds_of_wide 7 Tryz.f7 rfl rfl rfl rfl rfl rfl rfl ⟨rfl, rfl, rfl, rfl, rfl⟩ rfl rfl rfl rfl rfl named Tryz.func7 facts inst wrap
    (fun os started H enc _ => lifted os started H enc)
theorem card_holds : Rows.FnRectangleEmptyCardSaid :=
  Claim7.holds_tied_plain_at .later [] [.sentinel] true (true, "f6c3c9077dfb46c49ae944910e15568bf03937d9d4023d2c08604dc0b0ef09f0") true holds (fun _ h => by cases h) (by as_aux_lemma => kernel_rfl) (fun _ h => by cases h) fnRectangleEmpty_row_tie rfl ⟨rfl, rfl⟩ (by as_aux_lemma => kernel_rfl) rfl
    (fun f fn hf hfn => by
      obtain rfl : f = 7 := Option.some.inj ((show Tryz.prog.funcNamed "pub-alidade/laws.FnRectangleEmpty" = some 7 by as_aux_lemma => kernel_rfl).symm.trans hf) |>.symm
      obtain rfl : fn = Tryz.f7 := (Option.some.inj (Tryz.func7.symm.trans hfn)).symm
      exact ⟨by as_aux_lemma => kernel_rfl, fun j t ht => by
        rw [Tryz.params7] at ht
        have hm : t ∈ [25, 4] := by simpa using Array.mem_of_getElem? ht
        have hall : ([25, 4].all fun u => !Tryz.prog.wantsStandIn u) = true := by as_aux_lemma => kernel_rfl
        exact (show Tryz.prog.wantsStandIn t = false by simpa using List.all_eq_true.1 hall t hm)⟩)
    (by as_aux_lemma => kernel_rfl)
#print axioms card_holds
end RET
end Go.Proofs.YtlpaecafpbbbkaaGreatDoor
