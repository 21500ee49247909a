/- What was handed in reads as it did, behind a call that only makes new memory: where the program has slices of elements without cells. -/
import Derived.Test.YtlpaecafpbbbkaaGreatDoorRows
import Derived.ReadAgain
import Derived.Below
import Derived.ChangeBears
import Derived.ChangeReads
import Derived.Test.YtlpaecafpbbbkaaGreatDoorBYT1
set_option linter.unusedVariables false
set_option linter.unusedSimpArgs false
set_option maxRecDepth 100000
set_option maxHeartbeats 24000000
namespace Go.Proofs.YtlpaecafpbbbkaaGreatDoor
section
open Go.Joins Go.ChangeShapes Go.WideShapes Go.RowKit Go.Deep Go.ChangeAt
theorem kids_all:Kids Tryz.prog (·<Tryz.prog.types.size):=kids_rows (by kernel_rfl) (by kernel_rfl)
noncomputable def closedB (L:List TypeId):Bool:=L.all fun t=>decide (t<Tryz.prog.types.size)&&match Tryz.prog.underlying t with
  | some (.pointer e)=>L.contains e
  | some (.slice e)=>L.contains e&&decide (0<Tryz.prog.cellsOf e)
  | some (.array _ e)=>L.contains e
  | some (.struct fs)=>fs.toList.all fun f=>L.contains f.type
  | some (.map _ e)=>L.contains e
  | _=>true
theorem closed_at {L:List TypeId} (h:closedB L=true) {t:TypeId} (ht:t ∈ L):t<Tryz.prog.types.size∧(match Tryz.prog.underlying t with
  | some (.pointer e)=>L.contains e
  | some (.slice e)=>L.contains e&&decide (0<Tryz.prog.cellsOf e)
  | some (.array _ e)=>L.contains e
  | some (.struct fs)=>fs.toList.all fun f=>L.contains f.type
  | some (.map _ e)=>L.contains e
  | _=>true)=true:=by
  have h1:=List.all_eq_true.1 h t ht
  rw [Bool.and_eq_true] at h1
  exact ⟨of_decide_eq_true h1.1,h1.2⟩
theorem kids_in {L:List TypeId} (h:closedB L=true):Kids Tryz.prog (· ∈ L) where
  pointer:=fun ht hu=>by
    have h1:=(closed_at h ht).2
    rw [hu] at h1
    simpa using h1
  slice:=fun ht hu=>by
    have h1:=(closed_at h ht).2
    rw [hu] at h1
    simp only [Bool.and_eq_true] at h1
    simpa using h1.1
  array:=fun ht hu=>by
    have h1:=(closed_at h ht).2
    rw [hu] at h1
    exact ⟨by simpa using h1,(kids_all.array (closed_at h ht).1 hu).2⟩
  struct:=fun ht hu=>by
    have h1:=(closed_at h ht).2
    rw [hu] at h1
    exact ⟨fun f hf=>by simpa using List.all_eq_true.1 h1 f hf,(kids_all.struct (closed_at h ht).1 hu).2⟩
  map:=fun ht hu=>by
    have h1:=(closed_at h ht).2
    rw [hu] at h1
    simpa using h1
theorem full_in {L:List TypeId} (h:closedB L=true):∀ t e,t ∈ L→Tryz.prog.underlying t=some (.slice e)→0<Tryz.prog.cellsOf e:=fun t e ht hu=>by
  have h1:=(closed_at h ht).2
  rw [hu] at h1
  simp only [Bool.and_eq_true] at h1
  exact of_decide_eq_true h1.2
section
variable {H:Type} {enc:TypeId × Value→H} {P:Program} {W W':World} {base:Nat} {spare:Nat→Bool} {held:Bool}
theorem trodAll_carry4:∀ {ts:List TypeId} {vs:List Value} {ds:List (DataW H)} {ps:List MemPlace},DataW.TrodAll enc P W base spare held ts vs ds ps→(∀ p ∈ ps,W.sameAt W' p)→DataW.TrodAll enc P W' base spare held ts vs ds ps
  | [],[],[],_,h,_=>h
  | _::_,_::_,_::_,_,⟨p,q,⟨n,h1⟩,h2,e⟩,hs =>
    ⟨p,q,⟨n,DataW.trod_carry n _ _ _ h1 (fun x hx=>hs x (by rw [e];exact List.mem_append_left _ hx))⟩,trodAll_carry4 h2 (fun x hx=>hs x (by rw [e];exact List.mem_append_right _ hx)),e⟩
end
section
variable {H:Type} {enc:TypeId × Value→H} {W W':World}
theorem args_in (L:List TypeId) (hL:closedB L=true) {ts:List TypeId} {vs:List Value} {ds:List (DataW H)} {ps:List MemPlace} (hts:∀ t ∈ ts,t ∈ L) (hA:DataW.TrodAll enc Tryz.prog W 0 (fun _=>true) true ts vs ds ps) (hb:Below W.heap.size W W') :
    DataW.TrodAll enc Tryz.prog W' 0 (fun b=>decide (b<W.heap.size)) true ts vs ds ps :=
  (trodAll_carry4 hA fun p hp=>hb.same (hA.lt p hp)).respare (kids_in hL) (full_in hL) hts fun p hp=>by simpa using hA.lt p hp
end
end
end Go.Proofs.YtlpaecafpbbbkaaGreatDoor
