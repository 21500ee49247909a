/- FnBytesCut, walked whole: whatever the geometry and the place, it answers true. -/
import Derived.Test.YtlpaecafpbbbkaaGreatDoorBYT6
import Derived.Test.YtlpaecafpbbbkaaGreatDoorBYT42
import Derived.Test.YtlpaecafpbbbkaaGreatDoorBYT45
set_option linter.unusedVariables false
set_option linter.unusedSimpArgs false
set_option maxRecDepth 100000
set_option maxHeartbeats 24000000
namespace Go.Proofs.YtlpaecafpbbbkaaGreatDoor
section
open Go.RowKit
theorem BIn.of_own {W:World} {base:Nat} {e:TypeId} {x:Value} {l:List UInt8} (h:W.ownsRow base e 1 x l.length (Bs l)):BIn W x l:=by
  rcases h.2 with ⟨rfl,h0⟩ | ⟨g,cap,cur,rfl,hb,hh,h1,h2,_⟩
  · exact ⟨none,0,by rw [h0],by omega,by decide,fun _=>rfl,fun h=>by omega⟩
  · refine ⟨_,cap,rfl,h1,h2,(fun h=>by cases h),fun _=>⟨g,0,rfl,fun i u hi=>?_⟩⟩
    have hc:=h.cells (g:=g) rfl i (.int .u8 u.toNat) (by simp [Bs,hi])
    have ha:(⟨g,0,none⟩ : Addr).add i=⟨g,0+i,none⟩:=by unfold Addr.add;split <;> simp_all
    rwa [ha] at hc
end
end Go.Proofs.YtlpaecafpbbbkaaGreatDoor
