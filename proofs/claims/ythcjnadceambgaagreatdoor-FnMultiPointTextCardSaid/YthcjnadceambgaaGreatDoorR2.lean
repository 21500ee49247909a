/- What was handed in reads as it did, behind a call that only makes new memory. -/
import Derived.Test.YthcjnadceambgaaGreatDoorR
import Derived.Test.YthcjnadceambgaaGreatDoorRows
import Derived.ReadAgain
import Derived.Below
import Derived.ChangeBears
import Derived.ChangeReads
namespace Go.Proofs.YthcjnadceambgaaGreatDoor
open Go.Joins Go.ChangeShapes Go.WideShapes Go.RowKit Go.Deep Go.ChangeAt

theorem kids_all : Kids Tryz.prog (· < Tryz.prog.types.size) := kids_rows (by kernel_rfl) (by kernel_rfl)
theorem full_all : ∀ t e, t < Tryz.prog.types.size → Tryz.prog.underlying t = some (.slice e) → 0 < Tryz.prog.cellsOf e := slices_full_of Tryz.prog (by kernel_rfl)

section
variable {H : Type} {enc : TypeId × Value → H} {P : Program} {W W' : World} {base : Nat} {spare : Nat → Bool} {held : Bool}
theorem trodAll_carry : ∀ {ts : List TypeId} {vs : List Value} {ds : List (DataW H)} {ps : List MemPlace}, DataW.TrodAll enc P W base spare held ts vs ds ps → (∀ p ∈ ps, W.sameAt W' p) → DataW.TrodAll enc P W' base spare held ts vs ds ps
  | [], [], [], _, h, _ => h
  | _ :: _, _ :: _, _ :: _, _, ⟨p, q, ⟨n, h1⟩, h2, e⟩, hs =>
    ⟨p, q, ⟨n, DataW.trod_carry n _ _ _ h1 (fun x hx => hs x (by rw [e]; exact List.mem_append_left _ hx))⟩, trodAll_carry h2 (fun x hx => hs x (by rw [e]; exact List.mem_append_right _ hx)), e⟩
end
section
variable {H : Type} {enc : TypeId × Value → H} {W W' : World}
theorem args_below {ts : List TypeId} {vs : List Value} {ds : List (DataW H)} {ps : List MemPlace} (hts : ∀ t ∈ ts, t < Tryz.prog.types.size) (hA : DataW.TrodAll enc Tryz.prog W 0 (fun _ => true) true ts vs ds ps) (hb : Below W.heap.size W W') :
    DataW.TrodAll enc Tryz.prog W' 0 (fun b => decide (b < W.heap.size)) true ts vs ds ps :=
  (trodAll_carry hA fun p hp => hb.same (hA.lt p hp)).respare kids_all full_all hts fun p hp => by simpa using hA.lt p hp
end
end Go.Proofs.YthcjnadceambgaaGreatDoor
