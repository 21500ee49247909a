/- One string behind the other. -/
import Derived.Test.YthcjnadceambgaaGreatDoorProg
import Derived.WalkKit
import Derived.WalkSpells
import Derived.WalkLawsBesides
import Derived.Handy
namespace Go.Proofs.YthcjnadceambgaaGreatDoor
open Go.RowKit
/-- One string behind the other, all three under names. -/
theorem cat_run (P : Program) (a b : List UInt8) (sa sb c : ByteArray) (ha : sa = ⟨a.toArray⟩) (hb : sb = ⟨b.toArray⟩) (hc : c = ⟨(a ++ b).toArray⟩) (hl : a.length + b.length ≤ 100000000) :
    ∀ W : World, (Op.stringOp .add sa sb).run P W = .ok (.string c) W := by
  intro W
  subst ha hb hc
  have e : ∀ l : List UInt8, (ByteArray.mk l.toArray).size = l.length := fun l => by simp [ByteArray.size]
  have ee : (ByteArray.mk a.toArray ++ ByteArray.mk b.toArray) = ⟨(a ++ b).toArray⟩ := by
    apply ByteArray.ext
    simp
  rw [run_string_add_sum (P := P) W _ _ (by rw [e, e]; omega), ee]

end Go.Proofs.YthcjnadceambgaaGreatDoor
