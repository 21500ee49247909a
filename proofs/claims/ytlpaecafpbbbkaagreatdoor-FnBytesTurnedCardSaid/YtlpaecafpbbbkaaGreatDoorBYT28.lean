/- The package's reader of well known binary: points of any type, polygons. -/
import Derived.Test.YtlpaecafpbbbkaaGreatDoorBYT11
import Derived.Test.YtlpaecafpbbbkaaGreatDoorBYT23
import Derived.Test.YtlpaecafpbbbkaaGreatDoorBYT25
import Derived.Test.YtlpaecafpbbbkaaGreatDoorBYT26
import Derived.Test.YtlpaecafpbbbkaaGreatDoorBYT27
set_option linter.unusedVariables false
set_option linter.unusedSimpArgs false
set_option maxRecDepth 100000
set_option maxHeartbeats 24000000
namespace Go.Proofs.YtlpaecafpbbbkaaGreatDoor
section
open Go.RowKit
theorem parsePt_any (V W:World) (pb r:Nat) (big:Bool) (l:List UInt8) (hr:r<4) (h:WP V W pb l (if big=true then 0 else 1) (!big)) :
    Calls Tryz.prog 199 #[.pointer (some ⟨pb,0,none⟩),.int .u8 r] W (PrPost DPoint (ptE 0).v V W pb big ((rdF (widN r) big l).bind fun ns l2=>rdPt true r ns l2)):=by
  have hc:r=0∨r=1∨r=2∨r=3:=by omega
  rcases hc with rfl | rfl | rfl | rfl
  · exact parsePt0 V W pb big l h
  · exact parsePt1 V W pb big l h
  · exact parsePt2 V W pb big l h
  · exact parsePt3 V W pb big l h
end
end Go.Proofs.YtlpaecafpbbbkaaGreatDoor
