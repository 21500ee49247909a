/- FnSimplifyPoints' row: the walk, lifted. -/
import Derived.Test.YtlpaecafpbbbkaaGreatDoorRows
import Derived.Lib.SmallJoins
import Derived.Laws.Cover2
import Derived.Lay
import Derived.LaidOnce
import Derived.SevenTiedAt
import Derived.MakeChecks
import Derived.Test.YtlpaecafpbbbkaaGreatDoorSPT21
namespace Go.Proofs.YtlpaecafpbbbkaaGreatDoor
open Go.Joins Go.ChangeShapes Go.WideShapes Go.RowKit Go.Deep Go.ChangeAt
namespace SPT
abbrev laid : List (String × DataW Unit) := Rows.fnSimplifyPointsRow.laid
theorem own : ownKnob Tryz.prog.godebug = none := by kernel_rfl

set_option maxRecDepth 100000 in
theorem lifted (os : Os) (started : os.Started) (H : Type) (enc : TypeId × Value → H) :
    ReturnsInHanded {} Tryz.checked os 3 .any (fun w args => (Rows.fnSimplifyPointsSpec.pre enc Tryz.prog Tryz.f3 Rows.fnSimplifyPointsRow.domain false w args ∧ laidMetH Tryz.prog laid w) ∧ sizedMet enc Tryz.prog Tryz.f3 (OpenSpec.ofChange Rows.fnSimplifyPointsSpec) false w args)
      (Rows.fnSimplifyPointsSpec.post enc Tryz.prog Tryz.f3 false true false false) := by
  refine returnsInHanded_of_change_and (C := Tryz.checked) (X := fun w _ => laidMetH Tryz.prog laid w) (fun _ _ _ hh h => h.of_heap hh) own started (by kernel_rfl) Tryz.func3
    (ChangeSpec.witness_shaped (enc := enc) (C := Tryz.checked) (os := os) (X := fun w _ => laidMetH Tryz.prog laid w) false (World.laidAll Tryz.prog os laid) #[.agg #[.int .i64 0, .slice none 0 0, .slice none 0 0], .float .f64 0] 8 (World.laidAll_os _ _ _)
      (World.shaped_of_ZipB (by kernel_rfl) (by kernel_rfl)) (by kernel_rfl) (by kernel_rfl) (by kernel_rfl)
      (by rw [MakeChecks.laidMetH_plain _ _ _ (by kernel_rfl)]; exact laidMet_laidAll _ (by kernel_rfl) (by kernel_rfl))) ?_
  intro W base args ds gs before hval0 hW _ _ hL _
  have hval : ∀ (j : Nat) t v, Tryz.f3.params[j]? = some t → args[j]? = some v → Value.okWide Tryz.prog W .any base t v := hval0
  have hW' := hW
  obtain ⟨p, q, hA0, hV, rfl, _, _⟩ := hW
  have hA : DataW.TrodAll enc Tryz.prog W 0 (fun _ => true) true Tryz.f3.params.toList args.toList ds p := hA0
  have hAk := hA
  rw [Tryz.params3] at hA hval
  obtain ⟨v0, v1, d0, d1, p0, p1, rfl, rfl, rfl, h0, h1⟩ := trodAll_two hA
  obtain ⟨rfl, rfl⟩ := trodVars_none hV
  obtain ⟨cs, rfl, hsz⟩ := okWide_struct Tryz.underlying25 (hval 0 25 v0 rfl rfl)
  obtain ⟨c0, c1, c2, rfl⟩ := array3 (hsz.trans (by kernel_rfl : Tryz.prog.cellsOf 25 = 3))
  obtain ⟨th, rfl⟩ := okWide_float Tryz.underlying26 (hval 1 26 v1 rfl rfl)
  obtain ⟨fuel, hf⟩ := h0
  obtain ⟨d0', d1', d2', t, e, hk⟩ := KS_of_trod fuel _ _ hf
  have e' : [c0, c1, c2] = [d0', d1', d2'] := e
  simp only [List.cons.injEq, and_true] at e'
  obtain ⟨rfl, rfl, rfl⟩ := e'
  refine (FnSimplifyPoints_any fuel W _ t th hk).mono fun e W' ⟨he, hg⟩ => ?_
  subst he
  have hb := below_gt hg
  simp only [List.append_nil] at hW'
  exact ⟨_, rfl, _, _, _, [], _, [], hW', trodAll_mk1 (shut_bool Tryz.underlying4 _), args_in [25, 26, 3, 22, 80, 23] (by kernel_rfl) (by rw [Tryz.params3]; intro t ht; simp at ht; rcases ht with rfl | rfl <;> simp) hAk hb, rfl, hb.frame _, fun h => by cases h⟩

end SPT
end Go.Proofs.YtlpaecafpbbbkaaGreatDoor
