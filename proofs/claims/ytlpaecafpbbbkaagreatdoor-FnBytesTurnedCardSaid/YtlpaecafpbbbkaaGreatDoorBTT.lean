/- FnBytesTurned: when any one byte of the bytes of a geometry without NaN is changed, they are read, or refused, as by the reference: the row's statement and its card. -/
import Derived.Test.YtlpaecafpbbbkaaGreatDoorBYT49
import Derived.Test.YtlpaecafpbbbkaaGreatDoorBYT50
import Derived.Test.YtlpaecafpbbbkaaGreatDoorCards
import Derived.Test.YtlpaecafpbbbkaaGreatDoorTie
import Derived.Lib.SmallJoins
import Derived.Laws.Cover2
import Derived.Lay
import Derived.LaidOnce
import Derived.SevenTiedAt
import Derived.MakeChecks
set_option linter.unusedVariables false
set_option linter.unusedSimpArgs false
namespace Go.Proofs.YtlpaecafpbbbkaaGreatDoor
open Go.Joins Go.ChangeShapes Go.WideShapes Go.RowKit Go.Deep Go.ChangeAt
namespace BTT

theorem holds : Rows.FnBytesTurnedSaid :=
  OpenClaim.holds_of_wide 5 Tryz.f5 rfl rfl rfl rfl rfl rfl rfl ⟨rfl, rfl, rfl, rfl, rfl⟩ rfl rfl rfl rfl rfl named Tryz.func5 facts inst wrap
    (fun os started H enc _ => lifted os started H enc)
theorem card_holds : Rows.FnBytesTurnedCardSaid :=
  Claim7.holds_tied_plain_at .later [] [.sentinel] true (true, "f6c3c9077dfb46c49ae944910e15568bf03937d9d4023d2c08604dc0b0ef09f0") true holds (fun _ h => by cases h) (by as_aux_lemma => kernel_rfl) (fun _ h => by cases h) fnBytesTurned_row_tie rfl ⟨rfl, rfl⟩ (by as_aux_lemma => kernel_rfl) rfl
    (fun f fn hf hfn => by
      obtain rfl : f = 5 := Option.some.inj ((show Tryz.prog.funcNamed "pub-alidade/laws.FnBytesTurned" = some 5 by as_aux_lemma => kernel_rfl).symm.trans hf) |>.symm
      obtain rfl : fn = Tryz.f5 := (Option.some.inj (Tryz.func5.symm.trans hfn)).symm
      exact ⟨by as_aux_lemma => kernel_rfl, fun j t ht => by
        rw [Tryz.params5] at ht
        have hm : t ∈ [33, 3, 5] := by simpa using Array.mem_of_getElem? ht
        have hall : ([33, 3, 5].all fun u => !Tryz.prog.wantsStandIn u) = true := by as_aux_lemma => kernel_rfl
        exact (show Tryz.prog.wantsStandIn t = false by simpa using List.all_eq_true.1 hall t hm)⟩)
    (by as_aux_lemma => kernel_rfl)
#print axioms card_holds
end BTT
end Go.Proofs.YtlpaecafpbbbkaaGreatDoor
