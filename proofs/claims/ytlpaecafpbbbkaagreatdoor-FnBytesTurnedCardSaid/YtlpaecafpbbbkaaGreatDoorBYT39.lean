/- The reference's reader of well known binary: a geometry, whatever the bytes. The package's reader of well known binary: what is read on the way of few bytes is small. The package's reader of well known binary: a row of points that grows. The package's reader of well known binary: several points. -/
import Derived.Test.YtlpaecafpbbbkaaGreatDoorBYT21
import Derived.Test.YtlpaecafpbbbkaaGreatDoorBYT29
import Derived.Test.YtlpaecafpbbbkaaGreatDoorBYT31
import Derived.Test.YtlpaecafpbbbkaaGreatDoorBYT32
import Derived.Test.YtlpaecafpbbbkaaGreatDoorBYT34
import Derived.Test.YtlpaecafpbbbkaaGreatDoorBYT35
import Derived.Test.YtlpaecafpbbbkaaGreatDoorBYT36
import Derived.Test.YtlpaecafpbbbkaaGreatDoorBYT37
import Derived.Test.YtlpaecafpbbbkaaGreatDoorBYT38
set_option linter.unusedVariables false
set_option linter.unusedSimpArgs false
set_option maxRecDepth 100000
set_option maxHeartbeats 24000000
namespace Go.Proofs.YtlpaecafpbbbkaaGreatDoor
section
open Go.RowKit
theorem kd_of {kk kind:Int} {any:Bool} (hk:0≤kind→¬ kk=kind→any=true):KdOk kk kind any:=by
  rcases kd_or kk kind any with h | ⟨h1,h2,_,_,h3⟩
  · exact h
  · rw [hk h1 h2] at h3;cases h3
theorem geom_pt (h:Nat) (V W:World) (rb o c dm:Nat) (any big:Bool) (kind:Int) (len:Nat) (l1 l2:List UInt8) (HW:Hid (rb<W.heap.size∧V.heap.size≤W.heap.size)) (hob:((o:Int)==0)=big) (hcm:(c:Int) % 1000=1) (hcd:(c:Int) / 1000=(dm:Int)) (hcm2:c % 1000=1) (hcd2:c / 1000=dm) (hwd:wrap64 (dm:Int)=(dm:Int)) (hwc:IntKind.i64.wrap (c:Int)=(c:Int)) (t1:¬ (1:Int)<(o:Int)) (t4:¬ (3:Int)<(dm:Int)) (hlen:l2.length+5≤len) (hk:0≤kind→¬ (1:Int)=kind→any=true)
    (H1:Hid (Calls Tryz.prog 84 #[.pointer (some ⟨rb,0,none⟩),.int .i64 1,.bool false] (W.alloc (.cells #[.int .i64 0,.int .i64 0,.slice none 0 0,.slice none 0 0] 33)) fun e w'=>e=.returned (.int .u64 o)∧RS V w' rb l1 any false false∧(W.alloc (.cells #[.int .i64 0,.int .i64 0,.slice none 0 0,.slice none 0 0] 33)).grownBy w' (some rb)))
    (H2:Hid (∀ w,RS V w rb l1 any false false→Calls Tryz.prog 84 #[.pointer (some ⟨rb,0,none⟩),.int .i64 4,.bool big] w fun e w'=>e=.returned (.int .u64 c)∧RS V w' rb l2 any false false∧w.grownBy w' (some rb))) :
    Calls Tryz.prog 36 #[.pointer (some ⟨rb,0,none⟩),.int .i64 kind] W (GPost (h+1) V W rb any ((rdF (widN dm) big l2).bind fun ns l3=>rdPt any dm ns l3) len):=by
  have hkd:=kd_of hk
  by_cases hsh:8*widN dm≤l2.length
  · cases hn0:nanB (fIn big l2 0) <;> cases hn1:nanB (fIn big l2 1)
    · exact gp_none h V W rb o c dm any big kind len l1 l2 HW hob hcm hcd hcm2 hcd2 hwd hwc t1 t4 hkd hsh hlen hn0 hn1 H1 H2
    · cases any
      · exact gp_yxF h V W rb o c dm big kind len l1 l2 HW hob hcm hcd hcm2 hcd2 hwd hwc t1 t4 hkd hsh hlen hn0 hn1 H1 H2
      · exact gp_yxT h V W rb o c dm big kind len l1 l2 HW hob hcm hcd hcm2 hcd2 hwd hwc t1 t4 hkd hsh hlen hn0 hn1 H1 H2
    · cases any
      · exact gp_xyF h V W rb o c dm big kind len l1 l2 HW hob hcm hcd hcm2 hcd2 hwd hwc t1 t4 hkd hsh hlen hn0 hn1 H1 H2
      · exact gp_xyT h V W rb o c dm big kind len l1 l2 HW hob hcm hcd hcm2 hcd2 hwd hwc t1 t4 hkd hsh hlen hn0 hn1 H1 H2
    · exact gp_both h V W rb o c dm any big kind len l1 l2 HW hob hcm hcd hcm2 hcd2 hwd hwc t1 t4 hkd hsh hlen hn0 hn1 H1 H2
  · exact gp_short h V W rb o c dm any big kind len l1 l2 HW hob hcm hcd hcm2 hcd2 hwd hwc t1 t4 hkd (by omega) H1 H2
theorem geom_ln (h:Nat) (V W:World) (rb o c dm:Nat) (any big:Bool) (kind:Int) (len:Nat) (l1 l2:List UInt8) (HW:Hid (rb<W.heap.size∧V.heap.size≤W.heap.size)) (hob:((o:Int)==0)=big) (hcm:(c:Int) % 1000=2) (hcd:(c:Int) / 1000=(dm:Int)) (hcm2:c % 1000=2) (hcd2:c / 1000=dm) (hwd:wrap64 (dm:Int)=(dm:Int)) (hwc:IntKind.i64.wrap (c:Int)=(c:Int)) (t1:¬ (1:Int)<(o:Int)) (t4:¬ (3:Int)<(dm:Int)) (hlen:l2.length+5≤len) (hk:0≤kind→¬ (2:Int)=kind→any=true)
    (H1:Hid (Calls Tryz.prog 84 #[.pointer (some ⟨rb,0,none⟩),.int .i64 1,.bool false] (W.alloc (.cells #[.int .i64 0,.int .i64 0,.slice none 0 0,.slice none 0 0] 33)) fun e w'=>e=.returned (.int .u64 o)∧RS V w' rb l1 any false false∧(W.alloc (.cells #[.int .i64 0,.int .i64 0,.slice none 0 0,.slice none 0 0] 33)).grownBy w' (some rb)))
    (H2:Hid (∀ w,RS V w rb l1 any false false→Calls Tryz.prog 84 #[.pointer (some ⟨rb,0,none⟩),.int .i64 4,.bool big] w fun e w'=>e=.returned (.int .u64 c)∧RS V w' rb l2 any false false∧w.grownBy w' (some rb))) :
    Calls Tryz.prog 36 #[.pointer (some ⟨rb,0,none⟩),.int .i64 kind] W (GPost (h+1) V W rb any (rdLine dm big l2) len):=by
  have hkd:=kd_of hk
  cases hc:rdC big l2 with
  | bad gr=>exact gl_bad h V W rb o c dm any big kind len l1 l2 HW hob hcm hcd hcm2 hcd2 hwd hwc t1 t4 hkd gr hc hlen H1 H2
  | ok cn l3 =>
    by_cases hsh:8*(cn*widN dm)≤l3.length
    · exact gl_ok h V W rb o c dm any big kind len l1 l2 HW hob hcm hcd hcm2 hcd2 hwd hwc t1 t4 hkd cn l3 hc (rdC_len hc).2 hsh hlen H1 H2
    · exact gl_short h V W rb o c dm any big kind len l1 l2 HW hob hcm hcd hcm2 hcd2 hwd hwc t1 t4 hkd cn l3 hc (rdC_len hc).2 (by omega) hlen H1 H2
theorem geom_3 (h:Nat) (V W:World) (rb o c dm:Nat) (any big:Bool) (kind:Int) (len:Nat) (l1 l2:List UInt8) (HW:Hid (rb<W.heap.size∧V.heap.size≤W.heap.size)) (hob:((o:Int)==0)=big) (hcm:(c:Int) % 1000=3) (hcd:(c:Int) / 1000=(dm:Int)) (hcm2:c % 1000=3) (hcd2:c / 1000=dm) (hwd:wrap64 (dm:Int)=(dm:Int)) (hwc:IntKind.i64.wrap (c:Int)=(c:Int)) (t1:¬ (1:Int)<(o:Int)) (t4:¬ (3:Int)<(dm:Int)) (hlen:l2.length+5≤len) (hk:0≤kind→¬ (3:Int)=kind→any=true)
    (H1:Hid (Calls Tryz.prog 84 #[.pointer (some ⟨rb,0,none⟩),.int .i64 1,.bool false] (W.alloc (.cells #[.int .i64 0,.int .i64 0,.slice none 0 0,.slice none 0 0] 33)) fun e w'=>e=.returned (.int .u64 o)∧RS V w' rb l1 any false false∧(W.alloc (.cells #[.int .i64 0,.int .i64 0,.slice none 0 0,.slice none 0 0] 33)).grownBy w' (some rb)))
    (H2:Hid (∀ w,RS V w rb l1 any false false→Calls Tryz.prog 84 #[.pointer (some ⟨rb,0,none⟩),.int .i64 4,.bool big] w fun e w'=>e=.returned (.int .u64 c)∧RS V w' rb l2 any false false∧w.grownBy w' (some rb))) :
    Calls Tryz.prog 36 #[.pointer (some ⟨rb,0,none⟩),.int .i64 kind] W (GPost (h+2) V W rb any ((rdC big l2).bind fun n l3=>(rdL (rdLine dm big) n l3).bind fun ts l4=>.ok (.mk 3 dm 0 (fun _=>0) ts) l4) len):=by
  have hkd:=kd_of hk
  cases hc:rdC big l2 with
  | bad gr=>exact gq_L (h+1) V W rb o c dm any big kind len l1 l2 HW hob 3 (by decide) (by decide) (by decide) (by decide) (by decide) hcm hcd hcm2 hcd2 hwd hwc t1 t4 hkd gr hc hlen H1 H2
  | ok cn l3=>exact gr_3 h V W rb o c dm any big kind len l1 l2 HW hob hcm hcd hcm2 hcd2 hwd hwc t1 t4 hkd cn l3 hc (rdC_len hc).2 hlen H1 H2
theorem geom_4 (h H:Nat) (V W:World) (rb o c dm:Nat) (any big:Bool) (kind:Int) (len:Nat) (l1 l2:List UInt8) (HW:Hid (rb<W.heap.size∧V.heap.size≤W.heap.size)) (hob:((o:Int)==0)=big) (hcm:(c:Int) % 1000=4) (hcd:(c:Int) / 1000=(dm:Int)) (hcm2:c % 1000=4) (hcd2:c / 1000=dm) (hwd:wrap64 (dm:Int)=(dm:Int)) (hwc:IntKind.i64.wrap (c:Int)=(c:Int)) (t1:¬ (1:Int)<(o:Int)) (t4:¬ (3:Int)<(dm:Int)) (hlen:l2.length+5≤len) (hk:0≤kind→¬ (4:Int)=kind→any=true) (hkk:¬ (4:Int)=kind)
    (ih:∀ w lk,lk.length+9≤len→RS V w rb lk any false false→Calls Tryz.prog 36 #[.pointer (some ⟨rb,0,none⟩),.int .i64 (1)] w (GPost (h+1) V w rb any (rdG any H (1) lk) lk.length))
    (H1:Hid (Calls Tryz.prog 84 #[.pointer (some ⟨rb,0,none⟩),.int .i64 1,.bool false] (W.alloc (.cells #[.int .i64 0,.int .i64 0,.slice none 0 0,.slice none 0 0] 33)) fun e w'=>e=.returned (.int .u64 o)∧RS V w' rb l1 any false false∧(W.alloc (.cells #[.int .i64 0,.int .i64 0,.slice none 0 0,.slice none 0 0] 33)).grownBy w' (some rb)))
    (H2:Hid (∀ w,RS V w rb l1 any false false→Calls Tryz.prog 84 #[.pointer (some ⟨rb,0,none⟩),.int .i64 4,.bool big] w fun e w'=>e=.returned (.int .u64 c)∧RS V w' rb l2 any false false∧w.grownBy w' (some rb))) :
    Calls Tryz.prog 36 #[.pointer (some ⟨rb,0,none⟩),.int .i64 kind] W (GPost (h+2) V W rb any ((rdC big l2).bind fun n l3=>(rdL (rdG any H (1)) n l3).bind fun ts l4=>.ok (.mk 4 dm 0 (fun _=>0) ts) l4) len):=by
  have hkd:=kd_of hk
  cases hc:rdC big l2 with
  | bad gr=>exact gq_L (h+1) V W rb o c dm any big kind len l1 l2 HW hob 4 (by decide) (by decide) (by decide) (by decide) (by decide) hcm hcd hcm2 hcd2 hwd hwc t1 t4 hkd gr hc hlen H1 H2
  | ok cn l3=>exact gr_L h H V W rb o c dm any big kind len l1 l2 HW hob 4 1 (fun w=>KidOf_4 w) (by decide) (by decide) (by decide) (by decide) (by decide) (by decide) hcm hcd hcm2 hcd2 hwd hwc t1 t4 hkd cn l3 hc (rdC_len hc).2 hlen ih H1 H2
theorem geom_5 (h H:Nat) (V W:World) (rb o c dm:Nat) (any big:Bool) (kind:Int) (len:Nat) (l1 l2:List UInt8) (HW:Hid (rb<W.heap.size∧V.heap.size≤W.heap.size)) (hob:((o:Int)==0)=big) (hcm:(c:Int) % 1000=5) (hcd:(c:Int) / 1000=(dm:Int)) (hcm2:c % 1000=5) (hcd2:c / 1000=dm) (hwd:wrap64 (dm:Int)=(dm:Int)) (hwc:IntKind.i64.wrap (c:Int)=(c:Int)) (t1:¬ (1:Int)<(o:Int)) (t4:¬ (3:Int)<(dm:Int)) (hlen:l2.length+5≤len) (hk:0≤kind→¬ (5:Int)=kind→any=true) (hkk:¬ (5:Int)=kind)
    (ih:∀ w lk,lk.length+9≤len→RS V w rb lk any false false→Calls Tryz.prog 36 #[.pointer (some ⟨rb,0,none⟩),.int .i64 (2)] w (GPost (h+1) V w rb any (rdG any H (2) lk) lk.length))
    (H1:Hid (Calls Tryz.prog 84 #[.pointer (some ⟨rb,0,none⟩),.int .i64 1,.bool false] (W.alloc (.cells #[.int .i64 0,.int .i64 0,.slice none 0 0,.slice none 0 0] 33)) fun e w'=>e=.returned (.int .u64 o)∧RS V w' rb l1 any false false∧(W.alloc (.cells #[.int .i64 0,.int .i64 0,.slice none 0 0,.slice none 0 0] 33)).grownBy w' (some rb)))
    (H2:Hid (∀ w,RS V w rb l1 any false false→Calls Tryz.prog 84 #[.pointer (some ⟨rb,0,none⟩),.int .i64 4,.bool big] w fun e w'=>e=.returned (.int .u64 c)∧RS V w' rb l2 any false false∧w.grownBy w' (some rb))) :
    Calls Tryz.prog 36 #[.pointer (some ⟨rb,0,none⟩),.int .i64 kind] W (GPost (h+2) V W rb any ((rdC big l2).bind fun n l3=>(rdL (rdG any H (2)) n l3).bind fun ts l4=>.ok (.mk 5 dm 0 (fun _=>0) ts) l4) len):=by
  have hkd:=kd_of hk
  cases hc:rdC big l2 with
  | bad gr=>exact gq_L (h+1) V W rb o c dm any big kind len l1 l2 HW hob 5 (by decide) (by decide) (by decide) (by decide) (by decide) hcm hcd hcm2 hcd2 hwd hwc t1 t4 hkd gr hc hlen H1 H2
  | ok cn l3=>exact gr_L h H V W rb o c dm any big kind len l1 l2 HW hob 5 2 (fun w=>KidOf_5 w) (by decide) (by decide) (by decide) (by decide) (by decide) (by decide) hcm hcd hcm2 hcd2 hwd hwc t1 t4 hkd cn l3 hc (rdC_len hc).2 hlen ih H1 H2
theorem geom_6 (h H:Nat) (V W:World) (rb o c dm:Nat) (any big:Bool) (kind:Int) (len:Nat) (l1 l2:List UInt8) (HW:Hid (rb<W.heap.size∧V.heap.size≤W.heap.size)) (hob:((o:Int)==0)=big) (hcm:(c:Int) % 1000=6) (hcd:(c:Int) / 1000=(dm:Int)) (hcm2:c % 1000=6) (hcd2:c / 1000=dm) (hwd:wrap64 (dm:Int)=(dm:Int)) (hwc:IntKind.i64.wrap (c:Int)=(c:Int)) (t1:¬ (1:Int)<(o:Int)) (t4:¬ (3:Int)<(dm:Int)) (hlen:l2.length+5≤len) (hk:0≤kind→¬ (6:Int)=kind→any=true) (hkk:¬ (6:Int)=kind)
    (ih:∀ w lk,lk.length+9≤len→RS V w rb lk any false false→Calls Tryz.prog 36 #[.pointer (some ⟨rb,0,none⟩),.int .i64 (3)] w (GPost (h+1) V w rb any (rdG any H (3) lk) lk.length))
    (H1:Hid (Calls Tryz.prog 84 #[.pointer (some ⟨rb,0,none⟩),.int .i64 1,.bool false] (W.alloc (.cells #[.int .i64 0,.int .i64 0,.slice none 0 0,.slice none 0 0] 33)) fun e w'=>e=.returned (.int .u64 o)∧RS V w' rb l1 any false false∧(W.alloc (.cells #[.int .i64 0,.int .i64 0,.slice none 0 0,.slice none 0 0] 33)).grownBy w' (some rb)))
    (H2:Hid (∀ w,RS V w rb l1 any false false→Calls Tryz.prog 84 #[.pointer (some ⟨rb,0,none⟩),.int .i64 4,.bool big] w fun e w'=>e=.returned (.int .u64 c)∧RS V w' rb l2 any false false∧w.grownBy w' (some rb))) :
    Calls Tryz.prog 36 #[.pointer (some ⟨rb,0,none⟩),.int .i64 kind] W (GPost (h+2) V W rb any ((rdC big l2).bind fun n l3=>(rdL (rdG any H (3)) n l3).bind fun ts l4=>.ok (.mk 6 dm 0 (fun _=>0) ts) l4) len):=by
  have hkd:=kd_of hk
  cases hc:rdC big l2 with
  | bad gr=>exact gq_L (h+1) V W rb o c dm any big kind len l1 l2 HW hob 6 (by decide) (by decide) (by decide) (by decide) (by decide) hcm hcd hcm2 hcd2 hwd hwc t1 t4 hkd gr hc hlen H1 H2
  | ok cn l3=>exact gr_L h H V W rb o c dm any big kind len l1 l2 HW hob 6 3 (fun w=>KidOf_6 w) (by decide) (by decide) (by decide) (by decide) (by decide) (by decide) hcm hcd hcm2 hcd2 hwd hwc t1 t4 hkd cn l3 hc (rdC_len hc).2 hlen ih H1 H2
theorem geom_7 (h H:Nat) (V W:World) (rb o c dm:Nat) (any big:Bool) (kind:Int) (len:Nat) (l1 l2:List UInt8) (HW:Hid (rb<W.heap.size∧V.heap.size≤W.heap.size)) (hob:((o:Int)==0)=big) (hcm:(c:Int) % 1000=7) (hcd:(c:Int) / 1000=(dm:Int)) (hcm2:c % 1000=7) (hcd2:c / 1000=dm) (hwd:wrap64 (dm:Int)=(dm:Int)) (hwc:IntKind.i64.wrap (c:Int)=(c:Int)) (t1:¬ (1:Int)<(o:Int)) (t4:¬ (3:Int)<(dm:Int)) (hlen:l2.length+5≤len) (hk:0≤kind→¬ (0:Int)=kind→any=true) (hkk:¬ (0:Int)=kind)
    (ih:∀ w lk,lk.length+9≤len→RS V w rb lk any false false→Calls Tryz.prog 36 #[.pointer (some ⟨rb,0,none⟩),.int .i64 (-1)] w (GPost (h+1) V w rb any (rdG any H (-1) lk) lk.length))
    (H1:Hid (Calls Tryz.prog 84 #[.pointer (some ⟨rb,0,none⟩),.int .i64 1,.bool false] (W.alloc (.cells #[.int .i64 0,.int .i64 0,.slice none 0 0,.slice none 0 0] 33)) fun e w'=>e=.returned (.int .u64 o)∧RS V w' rb l1 any false false∧(W.alloc (.cells #[.int .i64 0,.int .i64 0,.slice none 0 0,.slice none 0 0] 33)).grownBy w' (some rb)))
    (H2:Hid (∀ w,RS V w rb l1 any false false→Calls Tryz.prog 84 #[.pointer (some ⟨rb,0,none⟩),.int .i64 4,.bool big] w fun e w'=>e=.returned (.int .u64 c)∧RS V w' rb l2 any false false∧w.grownBy w' (some rb))) :
    Calls Tryz.prog 36 #[.pointer (some ⟨rb,0,none⟩),.int .i64 kind] W (GPost (h+2) V W rb any ((rdC big l2).bind fun n l3=>(rdL (rdG any H (-1)) n l3).bind fun ts l4=>.ok (.mk 0 dm 0 (fun _=>0) ts) l4) len):=by
  have hkd:=kd_of hk
  cases hc:rdC big l2 with
  | bad gr=>exact gq_7 (h+1) V W rb o c dm any big kind len l1 l2 HW hob hcm hcd hcm2 hcd2 hwd hwc t1 t4 hkd gr hc hlen H1 H2
  | ok cn l3=>exact gr_7 h H V W rb o c dm any big kind len l1 l2 HW hob hcm hcd hcm2 hcd2 hwd hwc t1 t4 hkd cn l3 hc (rdC_len hc).2 hlen ih H1 H2
theorem kinds_4 {kind:Int} (h:kind=-1∨kind=1∨kind=2∨kind=3):¬ (4:Int)=kind∧¬ (5:Int)=kind∧¬ (6:Int)=kind∧¬ (0:Int)=kind:=by omega
theorem geom_good (H:Nat) (ih:∀ (V W:World) (rb:Nat) (any:Bool) (kind:Int) (l:List UInt8),(kind=-1∨kind=1∨kind=2∨kind=3)→l.length<9*H→RS V W rb l any false false→Calls Tryz.prog 36 #[.pointer (some ⟨rb,0,none⟩),.int .i64 kind] W (GPost (H+1) V W rb any (rdG any H kind l) l.length))
    (V W:World) (rb o c dm:Nat) (any big:Bool) (kind:Int) (len:Nat) (l1 l2:List UInt8) (HW:Hid (rb<W.heap.size∧V.heap.size≤W.heap.size)) (hob:((o:Int)==0)=big) (hkd:kind=-1∨kind=1∨kind=2∨kind=3) (km:Nat) (hc:c<4294967296) (t1:¬ 1<o) (hkm:c % 1000=km) (hk1:1≤km) (hk7:km≤7) (hcd2:c / 1000=dm) (t4:¬ 3<dm) (hlen:l2.length+5≤len) (hl9:len<9*(H+1)) (hk:0≤kind→¬ (if km=7 then (0:Int) else (km:Nat))=kind→any=true)
    (H1:Hid (Calls Tryz.prog 84 #[.pointer (some ⟨rb,0,none⟩),.int .i64 1,.bool false] (W.alloc (.cells #[.int .i64 0,.int .i64 0,.slice none 0 0,.slice none 0 0] 33)) fun e w'=>e=.returned (.int .u64 o)∧RS V w' rb l1 any false false∧(W.alloc (.cells #[.int .i64 0,.int .i64 0,.slice none 0 0,.slice none 0 0] 33)).grownBy w' (some rb)))
    (H2:Hid (∀ w,RS V w rb l1 any false false→Calls Tryz.prog 84 #[.pointer (some ⟨rb,0,none⟩),.int .i64 4,.bool big] w fun e w'=>e=.returned (.int .u64 c)∧RS V w' rb l2 any false false∧w.grownBy w' (some rb))) :
    Calls Tryz.prog 36 #[.pointer (some ⟨rb,0,none⟩),.int .i64 kind] W (GPost (H+2) V W rb any (rdB any (rdG any H) ⟨big,if km=7 then 0 else (km:Nat),dm⟩ l2) len):=by
  have hwd:wrap64 (dm:Int)=(dm:Int):=by unfold wrap64;omega
  have hwc:IntKind.i64.wrap (c:Int)=(c:Int):=by rw [IntKind.wrap_i64];omega
  obtain ⟨n4,n5,n6,n0⟩:=kinds_4 hkd
  have hcd:(c:Int) / 1000=(dm:Int):=by omega
  have t1':¬ (1:Int)<(o:Int):=by omega
  have t4':¬ (3:Int)<(dm:Int):=by omega
  rcases (by omega:km=1∨km=2∨km=3∨km=4∨km=5∨km=6∨km=7) with rfl | rfl | rfl | rfl | rfl | rfl | rfl
  · exact geom_pt (H+1) V W rb o c dm any big kind len l1 l2 HW hob (by omega) hcd hkm hcd2 hwd hwc t1' t4' hlen hk H1 H2
  · exact geom_ln (H+1) V W rb o c dm any big kind len l1 l2 HW hob (by omega) hcd hkm hcd2 hwd hwc t1' t4' hlen hk H1 H2
  · exact geom_3 H V W rb o c dm any big kind len l1 l2 HW hob (by omega) hcd hkm hcd2 hwd hwc t1' t4' hlen hk H1 H2
  · exact geom_4 H H V W rb o c dm any big kind len l1 l2 HW hob (by omega) hcd hkm hcd2 hwd hwc t1' t4' hlen hk n4 (fun w lk h9 hr=>ih V w rb any (1) lk (by decide) (by omega) hr) H1 H2
  · exact geom_5 H H V W rb o c dm any big kind len l1 l2 HW hob (by omega) hcd hkm hcd2 hwd hwc t1' t4' hlen hk n5 (fun w lk h9 hr=>ih V w rb any (2) lk (by decide) (by omega) hr) H1 H2
  · exact geom_6 H H V W rb o c dm any big kind len l1 l2 HW hob (by omega) hcd hkm hcd2 hwd hwc t1' t4' hlen hk n6 (fun w lk h9 hr=>ih V w rb any (3) lk (by decide) (by omega) hr) H1 H2
  · exact geom_7 H H V W rb o c dm any big kind len l1 l2 HW hob (by omega) hcd hkm hcd2 hwd hwc t1' t4' hlen hk n0 (fun w lk h9 hr=>ih V w rb any (-1) lk (by decide) (by omega) hr) H1 H2
theorem rdHead_bad {l:List UInt8} {g:Bool} (h:rdHead l=.bad g):g=false:=by
  have hN:∀ n big l g,rdN n big l=.bad g→g=false:=fun n big l g e=>by
    unfold rdN at e
    split at e
    · injection e with e;exact e.symm
    · cases e
  unfold rdHead at h
  cases h1:rdN 1 false l with
  | bad g1=>rw [h1] at h;injection h with h;rw [←h];exact hN _ _ _ _ h1
  | ok o l1 =>
    rw [h1,Rd.ok_bind] at h
    cases h2:rdN 4 (o==0) l1 with
    | bad g2=>rw [h2] at h;injection h with h;rw [←h];exact hN _ _ _ _ h2
    | ok c l2 =>
      rw [h2,Rd.ok_bind] at h
      split at h
      · injection h with h;exact h.symm
      · cases h
theorem geom_any:∀ (H:Nat) (V W:World) (rb:Nat) (any:Bool) (kind:Int) (l:List UInt8),(kind=-1∨kind=1∨kind=2∨kind=3)→l.length<9*H→RS V W rb l any false false→Calls Tryz.prog 36 #[.pointer (some ⟨rb,0,none⟩),.int .i64 kind] W (GPost (H+1) V W rb any (rdG any H kind l) l.length)
  | 0,_,_,_,_,_,_,_,h,_=>absurd h (by omega)
  | H+1,V,W,rb,any,kind,l,hkd,hl,hr=>by
    cases hH:rdHead l with
    | bad g =>
      obtain rfl:=rdHead_bad hH
      have e:rdG any (H+1) kind l=.bad false:=by unfold rdG;rw [hH];rfl
      rw [e]
      exact geom_none (H+1) V W rb any kind l.length l hr (fun hd l1 h=>by rw [hH] at h;cases h)
    | ok hd l2 =>
      have e:rdG any (H+1) kind l=if 0≤kind∧hd.k≠kind∧any=false then .bad false else rdB any (rdG any H) hd l2:=by unfold rdG;rw [hH];rfl
      rw [e]
      by_cases hb:0≤kind∧hd.k≠kind∧any=false
      · rw [if_pos hb]
        exact geom_none (H+1) V W rb any kind l.length l hr (fun hd' l1 h=>by rw [hH] at h;injection h with h1 h2;subst h1;exact hb)
      · rw [if_neg hb]
        have HW:=Lib.hid (And.intro hr.lt hr.g.size)
        have hrA:=hr.kept (World.grownBy_alloc W (.cells #[.int .i64 0,.int .i64 0,.slice none 0 0,.slice none 0 0] 33) none)
        have hlen:=(rdHead_len hH).1
        cases l with
        | nil=>simp at hlen
        | cons b l =>
          have hob:((b.toNat:Int)==0)=(b.toNat==0):=by rw [Bool.eq_iff_iff];simp
          have e1:numL false ((b::l).take 1)=b.toNat:=by simp [numL,Lib.leNat]
          have hU1:=u1_ok V _ rb any false false (b::l) (by simp) hrA
          rw [e1] at hU1
          have e2:(b::l).drop 1=l:=rfl
          rw [e2] at hU1
          simp only [List.length_cons] at hlen hl
          have h4:¬ l.length<4:=by omega
          have hlt:numL (b.toNat==0) (l.take 4)<4294967296:=by
            have:=numL_lt (b.toNat==0) (l.take 4) 4 (by rw [List.length_take];omega)
            have e:256 ^ 4=4294967296:=by decide
            omega
          have hN:rdN 4 (b.toNat==0) l=.ok (numL (b.toNat==0) (l.take 4)) (l.drop 4):=by unfold rdN;rw [if_neg h4]
          have hU4:=Lib.hid (fun w hw=>u4_ok V w rb any false (b.toNat==0) l (by omega) hw)
          generalize hcc:numL (b.toNat==0) (l.take 4)=c at hlt hN hU4
          rw [rdHead_cons,hN] at hH
          have hH:(if 1<b.toNat∨c % 1000<1∨7<c % 1000∨3<c / 1000 then Rd.bad false else .ok ⟨b.toNat==0,if c % 1000=7 then 0 else (c % 1000:Nat),c / 1000⟩ (l.drop 4))=.ok hd l2:=hH
          by_cases hbad:1<b.toNat∨c % 1000<1∨7<c % 1000∨3<c / 1000
          · rw [if_pos hbad] at hH;cases hH
          · rw [if_neg hbad] at hH
            injection hH with h1 h2
            subst h1 h2
            rw [List.length_cons]
            refine geom_good H (geom_any H) V W rb b.toNat c (c / 1000) any (b.toNat==0) kind (l.length+1) l (l.drop 4) HW hob hkd (c % 1000) hlt (by omega) rfl (by omega) (by omega) rfl (by omega) (by rw [List.length_drop];omega) hl (fun h0 hne=>?_) (Lib.hid hU1) hU4
            cases any
            · exact absurd ⟨h0,hne,rfl⟩ hb
            · rfl
end
section
open Go.RowKit
theorem Sm_of:∀ (h:Nat) (l:List UInt8),l.length<9*h→l.length≤8000→Sm h l
  | 0,l,h,_=>absurd h (by omega)
  | h+1,l,hl,h8=>by
    refine ⟨fun t l' e=>?_,fun hd l1 n l2 hH _ _ _ hC k lk ts hk hR=>?_⟩
    · have:=rdG_wt true (h+1) (-1) l t l' e
      omega
    · have h1:=(rdHead_len hH).1
      have h2:=(rdC_len hC).1
      have h3:=hR.le
      exact Sm_of h lk (by omega) (by omega)
end
section
open Go.RowKit
def WrtP (ps:List Pt) (xs:List Value):Prop:=∀ l t,ps[l]?=some t→∀ o u,t.cs[o]?=some u→xs[l*6+o]?=some u
theorem WrtP.next {ps:List Pt} {k:Nat} {xs:List Value} (h:WrtP ps xs) (hk:ps.length=k) (q:Pt) (hl:k*6+6≤xs.length):WrtP (ps++[q]) (set6 xs (k*6) (.float .f64 q.x) (.float .f64 q.y) (.float .f64 q.z) (.float .f64 q.m) (.int .u8 q.r) (.bool q.b)):=by
  intro l s hs o u hu
  have ho:o<6:=(List.getElem?_eq_some_iff.1 hu).1
  by_cases hl':l<k
  · rw [set6_lt _ _ _ _ _ _ _ _ _ (by omega)]
    rw [List.getElem?_append_left (by omega)] at hs
    exact h l s hs o u hu
  · have hlt:=(List.getElem?_eq_some_iff.1 hs).1
    simp at hlt
    obtain rfl:l=k:=by omega
    rw [List.getElem?_append_right (by omega),hk,Nat.sub_self] at hs
    injection hs with hs
    subst hs
    exact set6_at _ _ _ _ _ _ _ _ hl o u hu
theorem WrtP.row {ps:List Pt} {n g cap base:Nat} {e:TypeId} {xs:List Value} {w:World} (h:WrtP ps xs) (hn:ps.length=n) (ho:w.ownsRow base e 6 (.slice (some ⟨g,0,none⟩) n cap) n xs):PR w (some ⟨g,0,none⟩) ps:=by
  refine ⟨fun _=>⟨_,rfl⟩,fun a ha i s hs=>?_⟩
  injection ha with ha
  subst ha
  have hin:i<n:=by have:=(List.getElem?_eq_some_iff.1 hs).1;omega
  have key:∀ o u,s.cs[o]?=some u→w.cell? ⟨g,i*6+o,none⟩=some u:=fun o u hu=>by
    have ho6:o<6:=(List.getElem?_eq_some_iff.1 hu).1
    rw [ho.cellAt _ (by omega)]
    exact h i s hs o u hu
  rw [addr0]
  exact ⟨key 0 _ rfl,key 1 _ rfl,key 2 _ rfl,key 3 _ rfl,key 4 _ rfl,key 5 _ rfl⟩
theorem dims_pts:∀ L:List Raw,(∀ s ∈ L,PtT s)→dimsP (L.map ptR)=dimsOf L
  | [],_=>rfl
  | s::L,h=>by
    show (ptR s).r &&& dimsP (L.map ptR)=dimR s &&& dimsOf L
    rw [dims_pts L (fun t ht=>h t (List.mem_cons_of_mem _ ht)),(h s List.mem_cons_self).dim.2]
theorem mpt_node (r:Nat) (f:Nat→Nat) (L:List Raw) (hL:L≠[]) (hPT:∀ s ∈ L,PtT s) (w:World) (v:Value) (B:Nat→Prop) (hm:MPIs w v (dimsP (L.map ptR)) ((L.map ptR).map fun t=>t.force (dimsP (L.map ptR)))) (hb:∀ pp k cc x,v=.agg #[.slice pp k cc,x]→∀ a,pp=some a→a.block<w.heap.size→B a.block):DMpt B w v (nodeT 4 r f L):=by
  obtain ⟨f',e2⟩:=node_one 4 r f L
  rw [e2,if_neg hL,if_neg hL]
  rw [dims_pts L hPT] at hm
  have hD:=dimsOf_lt L
  generalize dimsOf L=D at hm hD ⊢
  have hmap:(L.map ptR).map (fun u=>u.force D)=(forceTs D L).map ptR:=by
    refine List.ext_getElem? fun i=>?_
    rw [List.getElem?_map,List.getElem?_map,List.getElem?_map,forceTs_get]
    cases h:L[i]? with
    | none=>rfl
    | some s=>simp only [Option.map_some];rw [((hPT s (List.mem_of_getElem? h)).force D hD).2]
  rw [hmap] at hm
  obtain ⟨hd4,hoks,pp,c,rfl,hpr⟩:=hm
  refine ⟨D,f',forceTs D L,pp,c,rfl,hD,fun s hs'=>?_,by rw [List.length_map],hpr,fun h0 a ha=>hb _ _ _ _ rfl a ha (hpr.lt (by rw [List.length_map];exact h0) a ha)⟩
  obtain ⟨i,hi⟩:=List.getElem?_of_mem hs'
  rw [forceTs_get] at hi
  obtain ⟨u,hu,rfl⟩:=Option.map_eq_some_iff.1 hi
  exact ((hPT u (List.mem_of_getElem? hu)).force D hD).1
end
section
open Go.RowKit
theorem DMpt.anyf {B:Nat→Prop} {W:World} {v:Value} {k:Int} {d:Int} {n:Nat} {f f':Nat→Nat} {kids:List Raw} (h:DMpt B W v (.mk k d n f kids)):DMpt B W v (.mk k d n f' kids):=by
  obtain ⟨r,f0,kids0,p,c,e,h2⟩:=h
  injection e with e1 e2 e3 e4 e5
  subst e1 e2 e3 e5
  exact ⟨r,f',_,p,c,rfl,h2⟩
def zMpt:Value:=.agg #[.slice none 0 0,.int .u8 0]
theorem IsPt (k:Int) (ty b:Nat) (W:World):Calls Tryz.prog 247 #[.agg #[.int .i64 k,.iface ty (.pointer (some ⟨b,0,none⟩))]] W fun e w'=>e=.returned (.bool (k==1))∧W.grownBy w' none:=by
  go_enter Tryz.func247,Tryz.ntmps247
  go_wp2_with fail
  go_returns
  exact ⟨rfl,by first | exact gt_refl _ _ | exact World.grownBy_alloc _ _ _⟩
theorem mustPt (h:Nat) (B:Nat→Prop) (W:World) (ty b:Nat) (t:Raw) (hd:DGeo h B W (.agg #[.int .i64 1,.iface ty (.pointer (some ⟨b,0,none⟩))]) t) (hB:∀ b,B b→b<W.heap.size):∃ fx fy fz fm er eb,PtT t∧ptR t=⟨fx,fy,fz,fm,er,eb⟩∧Calls Tryz.prog 75 #[.agg #[.int .i64 1,.iface ty (.pointer (some ⟨b,0,none⟩))]] W fun e w'=>e=.returned (.agg #[.float .f64 fx,.float .f64 fy,.float .f64 fz,.float .f64 fm,.int .u8 er,.bool eb])∧W.grownBy w' none:=by
  cases h with
  | zero=>exact hd.elim
  | succ h =>
    rcases hd with hd | hd | hd | hd | hd | hd | hd
    all_goals (obtain ⟨b',x,hk,hv,hb,hx,hd⟩:=hd;simp at hv)
    obtain ⟨rfl,rfl⟩:=hv
    obtain ⟨hp,rfl⟩:=hd
    exact ⟨(ptR t).x,(ptR t).y,(ptR t).z,(ptR t).m,(ptR t).r,(ptR t).b,hp,rfl,MustAsPoint _ _ _ _ _ _ _ W (hx 0 _ rfl) (hx 1 _ rfl) (hx 2 _ rfl) (hx 3 _ rfl) (hx 4 _ rfl) (hx 5 _ rfl) (hB _ hb)⟩
theorem parseMpt_some (h:Nat) (ih:InC h) (V W:World) (pb r n:Nat) (big:Bool) (l:List UInt8) (hr:r<4) (hl:4≤l.length) (hn:numL big (l.take 4)=n) (hn0:0<n) (hn2:n≤4096) (hG:rdL (rdG true h (-1)) n (l.drop 4)≠.bad true)
    (hS:∀ ts l',rdL (rdG true h (-1)) n (l.drop 4)=.ok ts l'→wt (.mk 4 (r:Nat) 0 (fun _=>0) ts)≤2000) (hSm:∀ k lk ts,k<n→Rest (rdG true h (-1)) n (l.drop 4) k lk ts→Sm h lk) (hw0:WP V W pb l (if big=true then 0 else 1) (!big)) :
    Calls Tryz.prog 202 #[.pointer (some ⟨pb,0,none⟩),.int .u8 r] W (PrPost DMpt zMpt V W pb big ((rdL (rdG true h (-1)) n (l.drop 4)).bind fun ts l3=>.ok (.mk 4 r 0 (fun _=>0) ts) l3)):=by
  have hpb:=hw0.lt
  have HU:=Lib.hid (parseU32_ok V _ pb big (!big) l hl (hw0.kept (World.grownBy_alloc W (.cells #[.slice none 0 0,.int .u8 0] 101) none)))
  rw [hn] at HU
  have HG:=Lib.hid (gt_some (World.grownBy_alloc W (.cells #[.slice none 0 0,.int .u8 0] 101) none) pb)
  have HC:Hid (∀ w,(W.alloc (.cells #[.slice none 0 0,.int .u8 0] 101)).grownBy w (some pb)→w.cell? ⟨W.heap.size,0,none⟩=some (.slice none 0 0)∧w.cell? ⟨W.heap.size,1,none⟩=some (.int .u8 0)∧∀ j,w.frozen? ⟨W.heap.size,j,none⟩=false):=fun w g=>by
    have hn:some W.heap.size≠some pb:=fun e=>by injection e with e;omega
    have hb:=g.block W.heap.size (by simp) hn
    exact ⟨g.cell (by simp) hn,g.cell (by simp) hn,fun j=>by rw [World.frozen?_of_block hb];simp⟩
  obtain ⟨i0,hi,hzz⟩:=Option.map_eq_some_iff.1 infoPt
  simp only [Prod.mk.injEq] at hzz
  have HI:=Lib.hid hzz
  have hnb:((n:Int)==0)=false:=by rw [beq_eq_false_iff_ne];omega
  have HSt:=Lib.hid (Rest.start (rdG true h (-1)) n (l.drop 4))
  have HIn:Hid (∀ w lk,rdG true h (-1) lk≠.bad true→Sm h lk→WP V w pb lk (if big=true then 0 else 1) (!big)→Calls Tryz.prog 246 #[.pointer (some ⟨pb,0,none⟩)] w (InPost (DGeo h) zGeo V w pb (if big=true then 0 else 1) (!big) (rdG true h (-1) lk))):=fun w lk hb hs hw=>ih V w pb lk _ _ hw hb hs
  have HGd:=Lib.hid hG
  have HSz:=Lib.hid hS
  have HSm:=Lib.hid hSm
  have HVW:Hid (V.heap.size≤W.heap.size):=hw0.g.size
  have HU0:Hid (∀ w1,(W.alloc (.cells #[.slice none 0 0,.int .u8 0] 101)).grownBy w1 (some pb)→pb<w1.heap.size∧W.heap.size<w1.heap.size):=fun w1 g=>by have h1:=g.size;simp at h1;omega
  have HCell:Hid (∀ (w:World) (base k:Nat) (xs:List Value),k<n→w.ownsRow base 87 6 (.slice (some ⟨base,0,none⟩) n n) n xs→(∃ v,w.cell? ⟨base,k*6,none⟩=some v)∧(∃ v,w.cell? ⟨base,k*6+1,none⟩=some v)∧(∃ v,w.cell? ⟨base,k*6+2,none⟩=some v)∧(∃ v,w.cell? ⟨base,k*6+3,none⟩=some v)∧(∃ v,w.cell? ⟨base,k*6+4,none⟩=some v)∧(∃ v,w.cell? ⟨base,k*6+5,none⟩=some v)∧∀ j,w.frozen? ⟨base,j,none⟩=false):=fun w base k xs hk ho=>by
    have hl:xs.length=n*6:=ho.1
    have key:∀ o,o<6→∃ v,w.cell? ⟨base,k*6+o,none⟩=some v:=fun o h6=>by
      rw [ho.cellAt _ (by omega)]
      exact ⟨_,List.getElem?_eq_getElem (by omega)⟩
    exact ⟨key 0 (by omega),key 1 (by omega),key 2 (by omega),key 3 (by omega),key 4 (by omega),key 5 (by omega),fun j=>ho.frozenAt j⟩
  have HYg:Hid (∀ (wr w2:World) (ek:Int) (ety eb:Nat),(W.alloc (.cells #[.slice none 0 0,.int .u8 0] 101)).grownBy wr (some pb)→wr.grownBy w2 (some pb)→∀ w3,(w2.alloc (.cells #[.int .i64 ek,.iface ety (.pointer (some ⟨eb,0,none⟩))] 57)).grownBy w3 none→w3.cell? ⟨w2.heap.size,0,none⟩=some (.int .i64 ek)∧w3.cell? ⟨w2.heap.size,1,none⟩=some (.iface ety (.pointer (some ⟨eb,0,none⟩)))∧(w3.cell? ⟨W.heap.size,0,none⟩=some (.slice none 0 0)∧w3.cell? ⟨W.heap.size,1,none⟩=some (.int .u8 0)∧∀ j,w3.frozen? ⟨W.heap.size,j,none⟩=false)∧(W.alloc (.cells #[.slice none 0 0,.int .u8 0] 101)).grownBy w3 (some pb)∧wr.grownBy w3 (some pb)∧w2.grownBy w3 none):=fun wr w2 ek ety eb g1 g2 w3 g3=>by
    have g23:=gt_trans (World.grownBy_alloc w2 (.cells #[.int .i64 ek,.iface ety (.pointer (some ⟨eb,0,none⟩))] 57) none) g3 (.inl rfl)
    have g13:=gt_trans g2 g23 (.inr (.inl rfl))
    have g03:=gt_trans g1 g13 (.inl rfl)
    exact ⟨g3.cell (by simp) (by simp),g3.cell (by simp) (by simp),HC.out _ g03,g03,g13,g23⟩
  generalize hl2:l.drop 4=l2 at HU HSt HGd HSz HSm ⊢
  clear hw0 hl hn hzz hG hS hSm hl2
  unfold zMpt
  go_enter Tryz.func202,Tryz.ntmps202
  go_wp2_with (first
    | (go_at_call 198;refine HU.out.mono ?_;rintro e w1 ⟨rfl,hw1,hg1⟩;have HW1:=Lib.hid hw1;clear hw1)
    | (at_make;(refine wpList_make_full _ rfl _ _ _ rfl w1.heap.size 87 i0 (.agg #[.float .f64 0,.float .f64 0,.float .f64 0,.float .f64 0,.int .u8 0,.bool false]) 6 Tryz.underlying99 hi HI.out.1 HI.out.2.1 .u32 .u32 _ _ n rfl rfl rfl rfl (by rw [HI.out.2.2];omega) (by unfold maxLen;omega) (by simp) ?_;intro w2 hown hg2)))
  obtain ⟨hpb1,hrb1⟩:=HU0.out w1 hg1
  obtain ⟨base,hbase⟩ : ∃ base,base=w1.heap.size:=⟨_,rfl⟩
  rw [←hbase] at hown hpb1 hrb1 ⊢
  obtain ⟨xs0,hxs0⟩ : ∃ xs0,xs0=(madeCells (Value.cells (.agg #[.float .f64 0,.float .f64 0,.float .f64 0,.float .f64 0,.int .u8 0,.bool false])) (n*6)).toList:=⟨_,rfl⟩
  rw [←hxs0] at hown
  have Hb:=Lib.hid hbase
  clear hxs0 hbase
  have G2:=gt_trans hg1 hg2 (.inr (.inl rfl))
  have HVb:Hid (V.heap.size≤base):=Lib.hid (by have:=HVW.out;omega)
  go_loopw [9] (fun i wr=>∃ (k:Nat) (cs:List Value) (lk:List UInt8) (ts:List Raw),k≤n∧i=.int .u32 k∧(W.alloc (.cells #[.slice none 0 0,.int .u8 0] 101)).grownBy wr (some pb)∧WP V wr pb lk (if big=true then 0 else 1) (!big)∧wr.ownsRow base 87 6 (.slice (some ⟨base,0,none⟩) n n) n cs∧WrtP ((newTs ts).map ptR) cs∧(∀ s ∈ newTs ts,PtT s)∧Rest (rdG true h (-1)) n l2 k lk ts∧okKs 4 ts=true) (fun i _=>n - (intOf i).toNat)
  case atStart=>exact ⟨0,xs0,l2,[],by omega,rfl,G2,HW1.out.kept hg2,hown,fun l t h=>absurd h (by simp [newTs]),fun s hs=>absurd hs (by simp [newTs]),HSt.out,rfl⟩
  case round =>
    clear hown
    obtain ⟨k,cs,lk,ts,hk,rfl,Gr,hw,hrow,hwp,hpt,hrest,hoks⟩:=hrel
    rename World=>wr
    by_cases hkL:k<n
    · have hlg:rdG true h (-1) lk≠.bad true:=fun e=>HGd.out (hrest.bad hkL e)
      have HLk:=Lib.hid (HIn.out wr lk hlg (HSm.out k lk ts hkL hrest) hw)
      have HKp:=Lib.hid (fun w2 (g:wr.grownBy w2 (some pb))=>World.ownsRow.kept hrow g (.inr fun e=>by injection e with e;have e2:base=pb:=e;omega))
      have hcl9:k*6+6≤cs.length:=by
        have h1:cs.length=n*6:=hrow.1
        rw [h1];omega
      have HWp:=Lib.hid (fun q=>hwp.next (k:=k) (by rw [List.length_map,news_len,hrest.1]) q hcl9)
      clear hcl9
      have HPt:=Lib.hid hpt
      have HNx:=Lib.hid (fun t l' (e:rdG true h (-1) lk=.ok t l')=>hrest.next hkL e)
      have HBd:=Lib.hid (fun g (e:rdG true h (-1) lk=.bad g)=>hrest.bad hkL e)
      have HOff:=Lib.hid (fun t l' (e:rdG true h (-1) lk=.ok t l') hb=>hrest.off (K:=4) hkL e hb r)
      have HOk:=Lib.hid hoks
      have hsf:=run_store_flt Tryz.prog
      clear hrow hwp hpt hrest hoks hlg hw
      go_wp2_with (first
        | (go_at_call 246;go_loud (refine HLk.out.mono ?_;unfold zGeo;rintro e w2 ⟨hg2,⟨hbad,ty,x,rfl⟩ | ⟨t,l',v,hRt,hok,rfl,hd,hw2⟩⟩ <;> (first
            | (have HBad:=Lib.hid hbad;clear hbad;have GG:=gt_trans Gr (gt_alloc_r hg2 (.cells #[.int .i64 0,.nilIface] 57)) (.inl rfl);obtain ⟨r0,r1,rf⟩:=HC.out _ GG;have rf0:=rf 0;have rf1:=rf 1)
            | (obtain ⟨ek,ety,eb,rfl⟩:=DGeo.form hd;have HD:=Lib.hid hd;have HW2:=Lib.hid hw2;have HY:=Lib.hid (HYg.out wr w2 ek ety eb Gr hg2);clear hd hw2;by_cases hk2:ek=1 <;> (first | (subst hk2;have hb2:((1:Int)==1)=true:=rfl;have HMu:=Lib.hid (fun w3 (g:w2.grownBy w3 none)=>mustPt h _ w3 ety eb _ ((DGeo.dk h).toDK0.mono g HD.out) (fun b hb=>Nat.lt_of_lt_of_le hb.2 g.size))) | (have hb2:(ek==1)=false:=beq_eq_false_iff_ne.2 hk2))))))
        | (go_at_call 247;go_loud (refine (IsPt _ _ _ _).mono ?_;rintro e w3 ⟨rfl,hg3⟩;obtain ⟨y0,y1,⟨r0,r1,rf⟩,G3,g3r,g23⟩:=HY.out _ hg3;have rf0:=rf 0;have rf1:=rf 1))
        | (go_at_call 75;go_loud (obtain ⟨fx,fy,fz,fm,er,eb,hpt1,hpr,hcall⟩:=HMu.out w3 g23;refine hcall.mono ?_;rintro e w4 ⟨rfl,hg4⟩;have g4:=gt_trans g3r hg4 (.inr (.inl rfl));have g24:=gt_trans g23 hg4 (.inl rfl);have HO4:=Lib.hid (HKp.out w4 g4);obtain ⟨⟨v0,x0⟩,⟨v1,x1⟩,⟨v2,x2⟩,⟨v3,x3⟩,⟨v4,x4⟩,⟨v5,x5⟩,xf⟩:=HCell.out w4 base k cs hkL HO4.out;have f0:=xf (k*6);have f1:=xf (k*6+1);have f2:=xf (k*6+2);have f3:=xf (k*6+3);have f4:=xf (k*6+4);have f5:=xf (k*6+5);have HT1:=Lib.hid hpt1;have HPr:=Lib.hid hpr;clear hcall hpt1 hpr)))
      · refine bodyPost_ret (by simp [results,Tryz.results202,go_sem,r0,r1];try rfl) rfl ?_
        refine PrPost.bad (gt_set_r (gt_set_r (gt_trans HG.out GG (.inl rfl)) _ _ (Nat.le_refl _)) _ _ (Nat.le_refl _)) (fun T l' e=>?_)
        cases hF:rdG true h (-1) lk with
        | bad g=>rw [HBd.out g hF] at e;cases e
        | ok t l1=>exact HOff.out t l1 hF (by rw [okKs_one,HBad.out t l1 hF,Bool.and_false]) T l' e
      · have hb0:(W.alloc (.cells #[.slice none 0 0,.int .u8 0] 101)).heap.size≤base:=by simp;omega
        have hk9:kindOf t=1:=kind_is (by decide) (by decide) (HD.out.kind)
        have HW4:=HW2.out.kept g24
        have hWP6:=(((((HW4.put ⟨base,k*6,none⟩ (.float .f64 fx) HVb.out).put ⟨base,k*6+1,none⟩ (.float .f64 fy) HVb.out).put ⟨base,k*6+2,none⟩ (.float .f64 fz) HVb.out).put ⟨base,k*6+3,none⟩ (.float .f64 fm) HVb.out).put ⟨base,k*6+4,none⟩ (.int .u8 er) HVb.out).put ⟨base,k*6+5,none⟩ (.bool eb) HVb.out
        have hGr6:=gt_set_r (gt_set_r (gt_set_r (gt_set_r (gt_set_r (gt_set_r (gt_trans Gr g4 (.inl rfl)) ⟨base,k*6,none⟩ (.float .f64 fx) hb0) ⟨base,k*6+1,none⟩ (.float .f64 fy) hb0) ⟨base,k*6+2,none⟩ (.float .f64 fz) hb0) ⟨base,k*6+3,none⟩ (.float .f64 fm) hb0) ⟨base,k*6+4,none⟩ (.int .u8 er) hb0) ⟨base,k*6+5,none⟩ (.bool eb) hb0
        refine ⟨⟨k+1,_,l',ts++[t],by omega,by go_num,hGr6,hWP6,((((((HO4.out.stored (k*6) (.float .f64 fx)).1.stored (k*6+1) (.float .f64 fy)).1.stored (k*6+2) (.float .f64 fz)).1.stored (k*6+3) (.float .f64 fm)).1.stored (k*6+4) (.int .u8 er)).1.stored (k*6+5) (.bool eb)).1,?_,?_,HNx.out _ _ hRt,?_⟩,by simp [intOf];omega⟩
        · rw [newTs_append,List.map_append]
          have e9:(newTs [t]).map ptR=[⟨fx,fy,fz,fm,er,eb⟩]:=by simp only [newTs,List.map_cons,List.map_nil];rw [HPr.out]
          rw [e9]
          exact HWp.out ⟨fx,fy,fz,fm,er,eb⟩
        · intro s hs
          rw [newTs_append,List.mem_append] at hs
          rcases hs with hs | hs
          · exact HPt.out s hs
          · simp only [newTs,List.mem_singleton] at hs
            rw [hs];exact HT1.out
        rw [okKs_app,okKs_one,HOk.out,hok,hk9];decide
      · refine bodyPost_ret (by simp [results,Tryz.results202,go_sem,r0,r1];try rfl) rfl ?_
        refine PrPost.bad (gt_set_r (gt_set_r (gt_trans HG.out G3 (.inl rfl)) _ _ (Nat.le_refl _)) _ _ (Nat.le_refl _)) (fun T l1 e=>HOff.out t l' hRt ?_ T l1 e)
        have hk9:kindOf t≠1:=fun e=>hk2 (by have:=HD.out.kind;rw [kindOf_new,e] at this;rw [←this];decide)
        have e1:decide (kidOf 4<0)=false:=by decide
        have e2:decide (kindOf t=kidOf 4)=false:=decide_eq_false (by rw [show kidOf 4=1 by decide];exact hk9)
        rw [okKs_one,e1,e2];rfl
    · have hkn:n=k:=by omega
      have hend:rdL (rdG true h (-1)) n l2=.ok ts lk:=by rw [←hkn] at hrest;exact hrest.end_
      have hw2000:=HSz.out ts lk hend
      have hlen:(newTs ts).length=n:=by rw [news_len,hrest.1,hkn]
      have hwk:wts ts≤2000:=by unfold wt at hw2000;omega
      have hn2000:n≤2000:=by have:=wts_len ts;rw [news_len] at hlen;omega
      have hlenP:((newTs ts).map ptR).length=n:=by rw [List.length_map,hlen]
      have hpr:=hwp.row hlenP hrow
      have hbr:base<wr.heap.size:=(hrow.lt base rfl).2
      have HNW:=Lib.hid (NewMultiPoint_any (some ⟨base,0,none⟩) ((newTs ts).map ptR) n n hlenP hn0 hn2000 (fun t ht=>by obtain ⟨s,hs,rfl⟩:=List.mem_map.1 ht;exact (hpt s hs).ok) wr hpr (fun a ha=>by injection ha with ha;subst ha;exact hbr))
      have hne:newTs ts≠[]:=fun e=>by rw [e] at hlen;simp at hlen;omega
      have hoks2:okK (.mk 4 (r:Nat) 0 (fun _=>0) ts)=true:=by unfold okK;simp;exact hoks
      have HFin:Hid (∀ w2 v',wr.grownBy w2 none→MPIs w2 v' (dimsP ((newTs ts).map ptR)) (((newTs ts).map ptR).map fun t=>t.force (dimsP ((newTs ts).map ptR)))→(∀ pp k cc x,v'=.agg #[.slice pp k cc,x]→∀ a,pp=some a→wr.heap.size≤a.block)→∃ px nx cx rx,v'=.agg #[.slice px nx cx,.int .u8 rx]∧PrPost DMpt zMpt V W pb big ((rdL (rdG true h (-1)) n l2).bind fun ts l3=>.ok (.mk 4 r 0 (fun _=>0) ts) l3) (.returned (.tuple #[.agg #[.slice px nx cx,.int .u8 rx],.nilIface])) ((w2.setCell ⟨W.heap.size,0,none⟩ (.slice px nx cx)).setCell ⟨W.heap.size,1,none⟩ (.int .u8 rx))):=fun w2 v' g hm hbk=>by
        have hd:=mpt_node r (fun _=>0) (newTs ts) hne hpt w2 v' (fun b=>wr.heap.size≤b∧b<w2.heap.size) hm (fun pp k cc x e a ha hl=>⟨hbk pp k cc x e a ha,hl⟩)
        obtain ⟨px,nx,cx,rx,rfl⟩:=DMpt.form hd
        have hsz:=HU0.out wr Gr
        have h1:=DMpt.dk.keep (.set (q:=⟨W.heap.size,1,none⟩) (fun hb=>by have:=hb.1;simp at this;omega) (.int .u8 rx)) (DMpt.dk.keep (.set (q:=⟨W.heap.size,0,none⟩) (fun hb=>by have:=hb.1;simp at this;omega) (.slice px nx cx)) hd)
        refine ⟨px,nx,cx,rx,rfl,PrPost.ok (gt_set_r (gt_set_r (gt_trans HG.out (gt_trans Gr g (.inr (.inl rfl))) (.inl rfl)) _ _ (Nat.le_refl _)) _ _ (Nat.le_refl _)) (by rw [hend];rfl) hoks2 ?_ (((hw.kept g).put _ _ HVW.out).put _ _ HVW.out)⟩
        rw [newT_part 4 (by decide) (by decide) (by decide) r hr ts hoks]
        exact DMpt.dk.weak (fun b hb=>⟨by have:=hb.1;omega,by have:=hb.2;simpa [World.setCell] using this⟩) h1
      subst hkn
      unfold zMpt at HFin
      clear hrow hrest hoks hw hend hw2000 hlen hwk hne hoks2 hwp hpt hpr hlenP
      go_wp2_with fail
      go_wp2_with (first
        | (go_at_call 111;refine HNW.out.mono ?_;rintro e w2 ⟨v',rfl,hm,hbk,hg2⟩;obtain ⟨px,nx,cx,rx,rfl,hmp⟩:=HFin.out _ _ hg2 hm hbk;have HMP:=Lib.hid hmp;clear hmp hm hbk;obtain ⟨x0,x1,xf⟩:=HC.out _ (gt_trans Gr hg2 (.inr (.inl rfl)));have f0:=xf 0;have f1:=xf 1))
      refine bodyPost_ret (by simp [results,Tryz.results202,go_sem,x0,x1];try rfl) rfl ?_
      exact HMP.out
theorem parseMpt_short (V W:World) (pb r o:Nat) (no:Bool) (l:List UInt8) (hl:l.length<4) (h:WP V W pb l o no):Calls Tryz.prog 202 #[.pointer (some ⟨pb,0,none⟩),.int .u8 r] W fun e w'=>(∃ ty x,e=.returned (.tuple #[zMpt,.iface ty x]))∧W.grownBy w' (some pb):=by
  have hpb:=h.lt
  have HU:=Lib.hid (parseU32_bad V _ pb o no l hl (h.kept (World.grownBy_alloc W (.cells #[.slice none 0 0,.int .u8 0] 101) none)))
  have HG:=Lib.hid (gt_some (World.grownBy_alloc W (.cells #[.slice none 0 0,.int .u8 0] 101) none) pb)
  have HC:Hid (∀ w,(W.alloc (.cells #[.slice none 0 0,.int .u8 0] 101)).grownBy w (some pb)→w.cell? ⟨W.heap.size,0,none⟩=some (.slice none 0 0)∧w.cell? ⟨W.heap.size,1,none⟩=some (.int .u8 0)∧∀ j,w.frozen? ⟨W.heap.size,j,none⟩=false):=fun w g=>by
    have hn:some W.heap.size≠some pb:=fun e=>by injection e with e;omega
    have hb:=g.block W.heap.size (by simp) hn
    exact ⟨g.cell (by simp) hn,g.cell (by simp) hn,fun j=>by rw [World.frozen?_of_block hb];simp⟩
  clear h
  unfold zMpt
  go_enter Tryz.func202,Tryz.ntmps202
  go_wp2_with (first
    | (go_at_call 198;refine HU.out.mono ?_;rintro e w1 ⟨⟨ty,x,rfl⟩,hg1⟩;obtain ⟨r0,r1,rf⟩:=HC.out _ hg1;have rf0:=rf 0;have rf1:=rf 1))
  refine bodyPost_ret (by simp [results,Tryz.results202,go_sem,r0,r1];try rfl) rfl ?_
  exact ⟨⟨_,_,rfl⟩,gt_set_r (gt_set_r (gt_trans HG.out hg1 (.inl rfl)) _ _ (Nat.le_refl _)) _ _ (Nat.le_refl _)⟩
theorem parseMpt_none (V W:World) (pb r:Nat) (big:Bool) (l:List UInt8) (hr:r<4) (hl:4≤l.length) (hn:numL big (l.take 4)=0) (h:WP V W pb l (if big=true then 0 else 1) (!big)) :
    Calls Tryz.prog 202 #[.pointer (some ⟨pb,0,none⟩),.int .u8 r] W (PrPost DMpt zMpt V W pb big (.ok (.mk 4 r 0 (fun _=>0) []) (l.drop 4))):=by
  have hpb:=h.lt
  have HU:=Lib.hid (parseU32_ok V _ pb big (!big) l hl (h.kept (World.grownBy_alloc W (.cells #[.slice none 0 0,.int .u8 0] 101) none)))
  rw [hn] at HU
  have HG:=Lib.hid (gt_some (World.grownBy_alloc W (.cells #[.slice none 0 0,.int .u8 0] 101) none) pb)
  have HC:Hid (∀ w,(W.alloc (.cells #[.slice none 0 0,.int .u8 0] 101)).grownBy w (some pb)→w.cell? ⟨W.heap.size,0,none⟩=some (.slice none 0 0)∧w.cell? ⟨W.heap.size,1,none⟩=some (.int .u8 0)∧∀ j,w.frozen? ⟨W.heap.size,j,none⟩=false):=fun w g=>by
    have hn:some W.heap.size≠some pb:=fun e=>by injection e with e;omega
    have hb:=g.block W.heap.size (by simp) hn
    exact ⟨g.cell (by simp) hn,g.cell (by simp) hn,fun j=>by rw [World.frozen?_of_block hb];simp⟩
  have HVW:Hid (V.heap.size≤W.heap.size):=h.g.size
  have HF0:=Lib.hid (fun w=>MptFC (fun _=>False) w zMpt (.mk 4 ((0:Nat):Int) 0 (fun _=>0) []) r ⟨0,(fun _=>0),[],none,0,rfl,by omega,(fun s hs=>by cases hs),rfl,⟨fun h=>by simp at h,fun a ha=>by cases ha⟩,fun h=>by simp at h⟩ (by unfold okT okTs;exact ⟨by omega,by simp,trivial⟩) hr (fun b hb=>hb.elim))
  have HFin:Hid (∀ w1 w2 v',(W.alloc (.cells #[.slice none 0 0,.int .u8 0] 101)).grownBy w1 (some pb)→WP V w1 pb (l.drop 4) (if big=true then 0 else 1) (!big)→w1.grownBy w2 none→DMpt (fun b=>False∨Fr w1 w2 b) w2 v' (forceT r (.mk 4 ((0:Nat):Int) 0 (fun _=>0) []))→∃ px nx cx rx,v'=.agg #[.slice px nx cx,.int .u8 rx]∧PrPost DMpt zMpt V W pb big (.ok (.mk 4 r 0 (fun _=>0) []) (l.drop 4)) (.returned (.tuple #[.agg #[.slice px nx cx,.int .u8 rx],.nilIface])) ((w2.setCell ⟨W.heap.size,0,none⟩ (.slice px nx cx)).setCell ⟨W.heap.size,1,none⟩ (.int .u8 rx))):=fun w1 w2 v' g1 hw g hd=>by
    obtain ⟨px,nx,cx,rx,rfl⟩:=DMpt.form hd
    have s2:=g.size
    have s1:W.heap.size<w1.heap.size:=by have:=g1.size;simp at this;omega
    have nB:∀ b,(False∨Fr w1 w2 b)→W.heap.size<b∧b<w2.heap.size:=fun b hb=>by
      rcases hb with hb | hb
      · exact hb.elim
      · have h1:=hb.1;have h2:=hb.2;omega
    rw [force_node] at hd
    have h1:=DMpt.dk.keep (.set (q:=⟨W.heap.size,1,none⟩) (fun hb=>by have:=(nB _ hb).1;simp at this) (.int .u8 rx)) (DMpt.dk.keep (.set (q:=⟨W.heap.size,0,none⟩) (fun hb=>by have:=(nB _ hb).1;simp at this) (.slice px nx cx)) (DMpt.anyf (f':=fun _=>0) hd))
    refine ⟨px,nx,cx,rx,rfl,PrPost.ok (gt_set_r (gt_set_r (gt_trans HG.out (gt_trans g1 g (.inr (.inl rfl))) (.inl rfl)) _ _ (Nat.le_refl _)) _ _ (Nat.le_refl _)) rfl (by unfold okK okKs;simp) ?_ (((hw.kept g).put _ _ HVW.out).put _ _ HVW.out)⟩
    rw [newT_part 4 (by decide) (by decide) (by decide) r hr [] rfl]
    exact DMpt.dk.weak (fun b hb=>⟨by have:=(nB _ hb).1;omega,by have:=(nB _ hb).2;simpa [World.setCell] using this⟩) h1
  generalize l.drop 4=l2 at HU HFin ⊢
  clear h hl hn
  unfold zMpt at *
  go_enter Tryz.func202,Tryz.ntmps202
  go_wp2_with (first
    | (go_at_call 198;refine HU.out.mono ?_;rintro e w1 ⟨rfl,hw1,hg1⟩;have HW1:=Lib.hid hw1;clear hw1;obtain ⟨r0,r1,rf⟩:=HC.out _ hg1;have rf0:=rf 0;have rf1:=rf 1)
    | (go_at_call 110;refine (HF0.out _).mono ?_;rintro e w2 ⟨v',rfl,hd,hg2⟩;obtain ⟨px,nx,cx,rx,rfl,hmp⟩:=HFin.out _ _ _ hg1 HW1.out hg2 hd;have HMP:=Lib.hid hmp;clear hmp hd;obtain ⟨x0,x1,xf⟩:=HC.out _ (gt_trans hg1 hg2 (.inr (.inl rfl)));have f0:=xf 0;have f1:=xf 1))
  refine bodyPost_ret (by simp [results,Tryz.results202,go_sem,x0,x1];try rfl) rfl ?_
  exact HMP.out
theorem parseMpt_any (h:Nat) (ih:InC h) (V W:World) (pb r:Nat) (big:Bool) (l:List UInt8) (hr:r<4) (hG:rdK 4 h r big l≠.bad true) (hS:∀ t l',rdK 4 h r big l=.ok t l'→wt t≤2000) (hSm:∀ n l2,rdC big l=.ok n l2→∀ k lk ts,k<n→Rest (rdG true h (-1)) n l2 k lk ts→Sm h lk) (hw:WP V W pb l (if big=true then 0 else 1) (!big)) :
    Calls Tryz.prog 202 #[.pointer (some ⟨pb,0,none⟩),.int .u8 r] W (PrPost DMpt zMpt V W pb big (rdK 4 h r big l)):=by
  by_cases h4:l.length<4
  · have hR:rdK 4 h r big l=.bad false:=by
      unfold rdK rdC rdN
      rw [if_pos h4];rfl
    refine (parseMpt_short V W pb r _ _ l h4 hw).mono fun e w' ⟨⟨ty,x,he⟩,hg⟩=>?_
    subst he
    exact PrPost.bad hg (fun t l' e=>by rw [hR] at e;cases e)
  have hC:rdC big l=if 4096<numL big (l.take 4) then .bad true else .ok (numL big (l.take 4)) (l.drop 4):=by
    unfold rdC rdN
    rw [if_neg h4];rfl
  by_cases h5:4096<numL big (l.take 4)
  · refine absurd ?_ hG
    unfold rdK
    rw [hC,if_pos h5];rfl
  rw [if_neg h5] at hC
  have hP:rdK 4 h r big l=(rdL (rdG true h (-1)) (numL big (l.take 4)) (l.drop 4)).bind fun ts l3=>.ok (.mk 4 r 0 (fun _=>0) ts) l3:=by
    unfold rdK
    rw [hC];rfl
  by_cases h0:numL big (l.take 4)=0
  · rw [hP,h0]
    exact parseMpt_none V W pb r big l hr (by omega) h0 hw
  have hSm2:=hSm _ _ hC
  rw [hP] at hG hS ⊢
  refine parseMpt_some h ih V W pb r _ big l hr (by omega) rfl (by omega) (by omega) (fun e=>hG (by rw [e];rfl)) (fun ts l' e=>hS _ l' (by rw [e];rfl)) hSm2 hw
end
end Go.Proofs.YtlpaecafpbbbkaaGreatDoor
