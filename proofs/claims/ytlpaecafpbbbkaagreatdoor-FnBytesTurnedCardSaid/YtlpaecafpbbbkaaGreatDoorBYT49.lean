/- FnBytesTurned' row: the walk, lifted. -/
import Derived.Test.YtlpaecafpbbbkaaGreatDoorRows
import Derived.Lib.SmallJoins
import Derived.Laws.Cover2
import Derived.Lay
import Derived.LaidOnce
import Derived.SevenTiedAt
import Derived.MakeChecks
import Derived.Test.YtlpaecafpbbbkaaGreatDoorBYT47
import Derived.Test.YtlpaecafpbbbkaaGreatDoorBYT48
set_option linter.unusedVariables false
set_option linter.unusedSimpArgs false
set_option maxRecDepth 100000
set_option maxHeartbeats 24000000
namespace Go.Proofs.YtlpaecafpbbbkaaGreatDoor
section
open Go.Joins Go.ChangeShapes Go.WideShapes Go.RowKit Go.Deep Go.ChangeAt
namespace BTT
abbrev laid:List (String × DataW Unit):=Rows.fnBytesTurnedRow.laid
theorem own:ownKnob Tryz.prog.godebug=none:=by kernel_rfl
theorem lifted (os:Os) (started:os.Started) (H:Type) (enc:TypeId × Value→H) :
    ReturnsInHanded {} Tryz.checked os 5 .any (fun w args=>(Rows.fnBytesTurnedSpec.pre enc Tryz.prog Tryz.f5 Rows.fnBytesTurnedRow.domain false w args∧laidMetH Tryz.prog laid w)∧sizedMet enc Tryz.prog Tryz.f5 (OpenSpec.ofChange Rows.fnBytesTurnedSpec) false w args)
      (Rows.fnBytesTurnedSpec.post enc Tryz.prog Tryz.f5 false true false false):=by
  refine returnsInHanded_of_change_and (C:=Tryz.checked) (X:=fun w _=>laidMetH Tryz.prog laid w) (fun _ _ _ hh h=>h.of_heap hh) own started (by kernel_rfl) Tryz.func5
    (ChangeSpec.witness_shaped (enc:=enc) (C:=Tryz.checked) (os:=os) (X:=fun w _=>laidMetH Tryz.prog laid w) false (World.laidAll Tryz.prog os laid) #[.agg #[.int .i64 0,.int .i64 0,.slice none 0 0,.slice none 0 0],.int .i64 0,.int .u8 0] 8 (World.laidAll_os _ _ _)
      (World.shaped_of_ZipB (by kernel_rfl) (by kernel_rfl)) (by kernel_rfl) (by kernel_rfl) (by kernel_rfl)
      (by rw [MakeChecks.laidMetH_plain _ _ _ (by kernel_rfl)];exact laidMet_laidAll _ (by kernel_rfl) (by kernel_rfl))) ?_
  intro W base args ds gs before hval0 hW _ _ hL _
  have hval:∀ (j:Nat) t v,Tryz.f5.params[j]?=some t→args[j]?=some v→Value.okWide Tryz.prog W .any base t v:=hval0
  have hW':=hW
  obtain ⟨p,q,hA0,hV,rfl,_,_⟩:=hW
  have hA:DataW.TrodAll enc Tryz.prog W 0 (fun _=>true) true Tryz.f5.params.toList args.toList ds p:=hA0
  have hAk:=hA
  rw [Tryz.params5] at hA hval
  obtain ⟨v0,v1,v2,d0,d1,d2,p0,p1,p2,rfl,rfl,rfl,h0,h1,h2⟩:=trodAll_three hA
  obtain ⟨rfl,rfl⟩:=trodVars_none hV
  obtain ⟨cs,rfl,hsz⟩:=okWide_struct Tryz.underlying33 (hval 0 33 v0 rfl rfl)
  obtain ⟨c0,c1,c2,c3,rfl⟩:=array4 (hsz.trans (by kernel_rfl:Tryz.prog.cellsOf 33=4))
  obtain ⟨fuel,hf⟩:=h0
  obtain ⟨d0',d1',d2',d3',t,e,hk⟩:=KD_of_trod fuel _ _ hf
  have e':[c0,c1,c2,c3]=[d0',d1',d2',d3']:=e
  simp only [List.cons.injEq,and_true] at e'
  obtain ⟨rfl,rfl,rfl,rfl⟩:=e'
  obtain ⟨at_,rfl⟩:=okWide_int Tryz.underlying3 (hval 1 3 v1 rfl rfl)
  obtain ⟨to_,rfl⟩:=okWide_int Tryz.underlying5 (hval 2 5 v2 rfl rfl)
  obtain ⟨fuel2,hf2⟩:=h2
  obtain ⟨n2,e2,_,hwf⟩:=DataW.trod_int Tryz.underlying5 hf2
  have e3:[Value.int .u8 to_]=[.int .u8 n2]:=e2
  simp only [List.cons.injEq,Value.int.injEq,and_true,true_and] at e3
  subst e3
  have hto:0≤to_∧to_≤255:=by simpa [Lit.wf,IntKind.min,IntKind.max,IntKind.signed,IntKind.bits] using hwf
  refine (FnBytesTurned_any fuel _ W _ t at_ to_ hto hk).mono fun e W' ⟨he,hg⟩=>?_
  subst he
  have hb:=below_gt hg
  simp only [List.append_nil] at hW'
  exact ⟨_,rfl,_,_,_,[],_,[],hW',trodAll_mk1 (shut_bool Tryz.underlying4 _),args_in [33,3,30,26,31,5] (by kernel_rfl) (by rw [Tryz.params5];intro t ht;simp at ht;rcases ht with rfl | rfl | rfl <;> simp) hAk hb,rfl,hb.frame _,fun h=>by cases h⟩
end BTT
end
end Go.Proofs.YtlpaecafpbbbkaaGreatDoor
