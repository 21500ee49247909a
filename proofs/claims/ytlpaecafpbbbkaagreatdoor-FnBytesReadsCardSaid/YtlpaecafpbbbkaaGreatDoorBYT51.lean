/- FnBytesReads' row: the walk, lifted. -/
import Derived.Test.YtlpaecafpbbbkaaGreatDoorRows
import Derived.Lib.SmallJoins
import Derived.Laws.Cover2
import Derived.Lay
import Derived.LaidOnce
import Derived.SevenTiedAt
import Derived.MakeChecks
import Derived.Test.YtlpaecafpbbbkaaGreatDoorBYT43
import Derived.Test.YtlpaecafpbbbkaaGreatDoorBYT48
set_option linter.unusedVariables false
set_option linter.unusedSimpArgs false
set_option maxRecDepth 100000
set_option maxHeartbeats 24000000
namespace Go.Proofs.YtlpaecafpbbbkaaGreatDoor
section
open Go.Joins Go.ChangeShapes Go.WideShapes Go.RowKit Go.Deep Go.ChangeAt
namespace BRT
abbrev laid:List (String × DataW Unit):=Rows.fnBytesReadsRow.laid
theorem own:ownKnob Tryz.prog.godebug=none:=by kernel_rfl
theorem lifted (os:Os) (started:os.Started) (H:Type) (enc:TypeId × Value→H) :
    ReturnsInHanded {} Tryz.checked os 4 .any (fun w args=>(Rows.fnBytesReadsSpec.pre enc Tryz.prog Tryz.f4 Rows.fnBytesReadsRow.domain false w args∧laidMetH Tryz.prog laid w)∧sizedMet enc Tryz.prog Tryz.f4 (OpenSpec.ofChange Rows.fnBytesReadsSpec) false w args)
      (Rows.fnBytesReadsSpec.post enc Tryz.prog Tryz.f4 false true false false):=by
  refine returnsInHanded_of_change_and (C:=Tryz.checked) (X:=fun w _=>laidMetH Tryz.prog laid w) (fun _ _ _ hh h=>h.of_heap hh) own started (by kernel_rfl) Tryz.func4
    (ChangeSpec.witness_shaped (enc:=enc) (C:=Tryz.checked) (os:=os) (X:=fun w _=>laidMetH Tryz.prog laid w) false (World.laidAll Tryz.prog os laid) #[.slice none 0 0] 8 (World.laidAll_os _ _ _)
      (World.shaped_of_ZipB (by kernel_rfl) (by kernel_rfl)) (by kernel_rfl) (by kernel_rfl) (by kernel_rfl)
      (by rw [MakeChecks.laidMetH_plain _ _ _ (by kernel_rfl)];exact laidMet_laidAll _ (by kernel_rfl) (by kernel_rfl))) ?_
  intro W base args ds gs before hval0 hW _ _ hL _
  have hval:∀ (j:Nat) t v,Tryz.f4.params[j]?=some t→args[j]?=some v→Value.okWide Tryz.prog W .any base t v:=hval0
  have hW':=hW
  obtain ⟨p,q,hA0,hV,rfl,_,_⟩:=hW
  have hA:DataW.TrodAll enc Tryz.prog W 0 (fun _=>true) true Tryz.f4.params.toList args.toList ds p:=hA0
  have hAk:=hA
  rw [Tryz.params4] at hA hval
  obtain ⟨v0,d0,rfl,rfl,h0⟩:=trodAll_one hA
  obtain ⟨rfl,rfl⟩:=trodVars_none hV
  obtain ⟨ba,bl,bc,rfl⟩:=okWide_slice Tryz.underlying39 (hval 0 39 v0 rfl rfl)
  obtain ⟨fuel,hf⟩:=h0
  obtain ⟨l,hb0⟩:=BIn_of_trod (c:=.slice ba bl bc) hf
  refine (FnBytesReads_any W _ l hb0).mono fun e W' ⟨he,hg⟩=>?_
  subst he
  have hb:=below_gt hg
  simp only [List.append_nil] at hW'
  exact ⟨_,rfl,_,_,_,[],_,[],hW',trodAll_mk1 (shut_bool Tryz.underlying4 _),args_in [39,5] (by kernel_rfl) (by rw [Tryz.params4];intro t ht;simp at ht;rcases ht with rfl <;> simp) hAk hb,rfl,hb.frame _,fun h=>by cases h⟩
end BRT
end
end Go.Proofs.YtlpaecafpbbbkaaGreatDoor
