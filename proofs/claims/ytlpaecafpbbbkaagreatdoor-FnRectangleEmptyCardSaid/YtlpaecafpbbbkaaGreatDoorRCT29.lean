/- FnRectangleEmpty' row: the walk, lifted. -/
import Derived.Test.YtlpaecafpbbbkaaGreatDoorRows
import Derived.Lib.SmallJoins
import Derived.Laws.Cover2
import Derived.Lay
import Derived.LaidOnce
import Derived.SevenTiedAt
import Derived.MakeChecks
import Derived.Test.YtlpaecafpbbbkaaGreatDoorRCT27
import Derived.Test.YtlpaecafpbbbkaaGreatDoorRCT28
set_option linter.unusedVariables false
set_option linter.unusedSimpArgs false
set_option maxRecDepth 100000
set_option maxHeartbeats 24000000
namespace Go.Proofs.YtlpaecafpbbbkaaGreatDoor
section
open Go.Joins Go.ChangeShapes Go.WideShapes Go.RowKit Go.Deep Go.ChangeAt
namespace RET
abbrev laid:List (String × DataW Unit):=Rows.fnRectangleEmptyRow.laid
theorem own:ownKnob Tryz.prog.godebug=none:=by kernel_rfl
theorem lifted (os:Os) (started:os.Started) (H:Type) (enc:TypeId × Value→H) :
    ReturnsInHanded {} Tryz.checked os 7 .any (fun w args=>(Rows.fnRectangleEmptySpec.pre enc Tryz.prog Tryz.f7 Rows.fnRectangleEmptyRow.domain false w args∧laidMetH Tryz.prog laid w)∧sizedMet enc Tryz.prog Tryz.f7 (OpenSpec.ofChange Rows.fnRectangleEmptySpec) false w args)
      (Rows.fnRectangleEmptySpec.post enc Tryz.prog Tryz.f7 false true false false):=by
  refine returnsInHanded_of_change_and (C:=Tryz.checked) (X:=fun w _=>laidMetH Tryz.prog laid w) (fun _ _ _ hh h=>h.of_heap hh) own started (by kernel_rfl) Tryz.func7
    (ChangeSpec.witness_shaped (enc:=enc) (C:=Tryz.checked) (os:=os) (X:=fun w _=>laidMetH Tryz.prog laid w) false (World.laidAll Tryz.prog os laid) #[.agg #[.int .i64 0,.slice none 0 0,.slice none 0 0],.bool false] 8 (World.laidAll_os _ _ _)
      (World.shaped_of_ZipB (by kernel_rfl) (by kernel_rfl)) (by kernel_rfl) (by kernel_rfl) (by kernel_rfl)
      (by rw [MakeChecks.laidMetH_plain _ _ _ (by kernel_rfl)];exact laidMet_laidAll _ (by kernel_rfl) (by kernel_rfl))) ?_
  intro W base args ds gs before hval0 hW _ hWt hL _
  have hval:∀ (j:Nat) t v,Tryz.f7.params[j]?=some t→args[j]?=some v→Value.okWide Tryz.prog W .any base t v:=hval0
  have hW':=hW
  obtain ⟨p,q,hA0,hV,rfl,_,_⟩:=hW
  have hA:DataW.TrodAll enc Tryz.prog W 0 (fun _=>true) true Tryz.f7.params.toList args.toList ds p:=hA0
  have hAk:=hA
  rw [Tryz.params7] at hA hval hWt
  obtain ⟨v0,v1,d0,d1,p0,p1,rfl,rfl,rfl,h0,h1⟩:=trodAll_two hA
  obtain ⟨rfl,rfl⟩:=trodVars_none hV
  obtain ⟨cs,rfl,hsz⟩:=okWide_struct Tryz.underlying25 (hval 0 25 v0 rfl rfl)
  obtain ⟨c0,c1,c2,rfl⟩:=array3 (hsz.trans (by kernel_rfl:Tryz.prog.cellsOf 25=3))
  obtain ⟨th,rfl⟩:=okWide_bool Tryz.underlying4 (hval 1 4 v1 rfl rfl)
  have hw0:(d0.weights Tryz.prog 25).all (·≤reachBytes)=true:=by
    have h9:=hWt
    simp only [List.append_nil,List.cons_append,DataW.weightsEach,List.all_append,Bool.and_eq_true] at h9
    exact h9.1
  obtain ⟨fuel,hf⟩:=h0
  obtain ⟨d0',d1',d2',t,e,hk,hrow⟩:=KSr_of_trod fuel _ _ hf hw0
  have e':[c0,c1,c2]=[d0',d1',d2']:=e
  simp only [List.cons.injEq,and_true] at e'
  obtain ⟨rfl,rfl,rfl⟩:=e'
  refine (FnRectangleEmpty_any fuel W _ t th hk hrow).mono fun e W' ⟨he,hg⟩=>?_
  subst he
  have hb:=below_gt hg
  simp only [List.append_nil] at hW'
  exact ⟨_,rfl,_,_,_,[],_,[],hW',trodAll_mk1 (shut_bool Tryz.underlying4 _),args_in [25,4,3,22,80,23] (by kernel_rfl) (by rw [Tryz.params7];intro t ht;simp at ht;rcases ht with rfl | rfl <;> simp) hAk hb,rfl,hb.frame _,fun h=>by cases h⟩
end RET
end
end Go.Proofs.YtlpaecafpbbbkaaGreatDoor
