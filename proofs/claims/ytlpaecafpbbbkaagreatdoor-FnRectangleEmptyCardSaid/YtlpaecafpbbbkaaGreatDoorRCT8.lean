/- The package's text of a line string: its methods. The reference's ForceCoordinatesType. -/
import Derived.StillTailTactics
import Derived.Test.YtlpaecafpbbbkaaGreatDoorRCT3
set_option linter.unusedVariables false
set_option linter.unusedSimpArgs false
set_option maxRecDepth 100000
set_option maxHeartbeats 24000000
namespace Go.Proofs.YtlpaecafpbbbkaaGreatDoor
section
open Go.RowKit
theorem LineIsEmpty_any (r n:Nat) (hr:r<4) (a:Option Addr) (hn:n≤2513169434843) (W:World) :
    Calls Tryz.prog 96 #[.agg #[.int .u8 r,.slice a n n]] W fun e w'=>e=.returned (.bool (((n / widN r:Nat):Int)==0))∧W.grownBy w' none:=by
  have HL:=Lib.hid (fun w=>Length_any r n hr a n hn w)
  have HG:=Lib.hid (World.grownBy_alloc W (.cells #[.int .u8 r,.slice a n n] 93) none)
  generalize n / widN r=L at HL ⊢
  go_enter Tryz.func96,Tryz.ntmps96
  go_wp2_with (first | (go_at_call 102;refine (HL.out _).mono ?_;rintro e w' ⟨rfl,hg⟩))
  go_ret
  exact ⟨rfl,gt_trans HG.out hg (.inl rfl)⟩
theorem LineCT_any (r:Nat) (y:Value) (hy:∃ p n c,y=.slice p n c) (W:World) :
    Calls Tryz.prog 129 #[.agg #[.int .u8 r,y]] W fun e w'=>e=.returned (.int .u8 r)∧W.grownBy w' none:=by
  obtain ⟨p,n,c,rfl⟩:=hy
  go_enter Tryz.func129,Tryz.ntmps129
  go_wp2_with go_in
  go_ret
  exact ⟨rfl,gt_alloc_r (World.grownBy_alloc _ _ _) _⟩
end
section
open Go.RowKit
theorem fF_lt {W:World} {p:Option Addr} {n:Nat} {f:Nat→Nat} (h:FVal W p n f) (r r' i:Nat):fF r r' f i<18446744073709551616:=by
  unfold fF
  split
  · exact h.lt _
  · split
    · exact h.lt _
    · split
      · exact fval_plZ h r _
      · exact fval_plM h r _
end
end Go.Proofs.YtlpaecafpbbbkaaGreatDoor
