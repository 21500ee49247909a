/- The reference's reader of well known binary: a geometry whose head is none, each way. -/
import Derived.Test.YtlpaecafpbbbkaaGreatDoorBYT15
set_option linter.unusedVariables false
set_option linter.unusedSimpArgs false
set_option maxRecDepth 100000
set_option maxHeartbeats 24000000
namespace Go.Proofs.YtlpaecafpbbbkaaGreatDoor
section
open Go.RowKit
theorem gw_o0 (h:Nat) (V W:World) (rb o c km dm:Nat) (any:Bool) (bd bd2 big:Bool) (kind:Int) (len:Nat) (l1 l2:List UInt8) (HW:Hid (rb<W.heap.size∧V.heap.size≤W.heap.size)) (hob:((o:Int)==0)=big) (hcm:(c:Int) % 1000=(km:Int)) (hcd:(c:Int) / 1000=(dm:Int)) (hcm2:c % 1000=km) (hcd2:c / 1000=dm) (hwd:wrap64 (dm:Int)=(dm:Int)) (hwc:IntKind.i64.wrap (c:Int)=(c:Int)) (t1:(1:Int)<(o:Int)) (t5:((km:Int)==7)=false) (hkd:KdOk (km:Int) kind any)
    (H1:Hid (Calls Tryz.prog 84 #[.pointer (some ⟨rb,0,none⟩),.int .i64 1,.bool false] (W.alloc (.cells #[.int .i64 0,.int .i64 0,.slice none 0 0,.slice none 0 0] 33)) fun e w'=>e=.returned (.int .u64 o)∧RS V w' rb l1 any bd false∧(W.alloc (.cells #[.int .i64 0,.int .i64 0,.slice none 0 0,.slice none 0 0] 33)).grownBy w' (some rb)))
    (H2:Hid (∀ w,RS V w rb l1 any bd false→Calls Tryz.prog 84 #[.pointer (some ⟨rb,0,none⟩),.int .i64 4,.bool big] w fun e w'=>e=.returned (.int .u64 c)∧RS V w' rb l2 any bd2 false∧w.grownBy w' (some rb))) :
    Calls Tryz.prog 36 #[.pointer (some ⟨rb,0,none⟩),.int .i64 kind] W (GPost (h+1) V W rb any (.bad false) len):=by
  have t60:(0:Int)≤(km:Int):=by omega
  rcases hkd with t6 | rfl | ⟨t6,t7,t8,t9,hany⟩
  all_goals
    have HC:=Lib.hid (geom_box W rb HW.out.1)
    have HPo:Hid (∀ w l',RW V W w rb l' any true false→GPost (h+1) V W rb any (.bad false) len (.returned zG) w):=fun w l' g=>GPost.none g.g g.r
    unfold zG at HPo
    have hrW:=HW.out.1
    go_enter Tryz.func36,Tryz.ntmps36
    go_wp2_with (first
      | (go_at_call 84;(with_reducible refine H1.out.mono ?_);rintro e w1 ⟨rfl,hr1,hg1⟩;have HR1:=Lib.hid hr1;clear hr1))
    go_at_call 84
    with_reducible refine (H2.out _ HR1.out).mono ?_
    rintro e w2 ⟨rfl,hr2,hg2⟩
    have HR2:=Lib.hid hr2
    have g12:=gt_trans hg1 hg2 (.inl rfl)
    obtain ⟨⟨r0,r1,r2,r3⟩,rf,hz1,G2⟩:=HC.out _ g12
    have rf0:=rf 0
    have rf1:=rf 1
    have rf2:=rf 2
    have rf3:=rf 3
    have c2:=hr2.c2
    have c1:=hr2.c1
    have f2:=hr2.fz 2
    have hrl:=hr2.lt
    clear hr2
    simp only []
    go_at_K
    repeat (first | go_step | go_at_K)
    have hVW:=HW.out.2
    have hz6:W.heap.size<((((((w2.setCell ⟨rb,2,none⟩ (.bool true)).setCell ⟨W.heap.size,0,none⟩ (.int .i64 0)).setCell ⟨W.heap.size,1,none⟩ (.int .i64 0)).setCell ⟨W.heap.size,2,none⟩ (.slice none 0 0)).setCell ⟨W.heap.size,3,none⟩ (.slice none 0 0))).heap.size:=by simp [World.setCell];omega
    have hz7:W.heap.size<(((((((w2.setCell ⟨rb,2,none⟩ (.bool true)).setCell ⟨rb,2,none⟩ (.bool true)).setCell ⟨W.heap.size,0,none⟩ (.int .i64 0)).setCell ⟨W.heap.size,1,none⟩ (.int .i64 0)).setCell ⟨W.heap.size,2,none⟩ (.slice none 0 0)).setCell ⟨W.heap.size,3,none⟩ (.slice none 0 0))).heap.size:=by simp [World.setCell];omega
    refine bodyPost_ret (by simp [results,Tryz.results36,go_sem,r0,r1,r2,r3,hz6,hz7,hrW,hz1];try rfl) rfl ?_
    have hF0:RW V W w2 rb l2 any bd2 false:=⟨G2,HR2.out⟩
    have hF1:=hF0.fail
    have hF2:=(((hF1.put ⟨W.heap.size,0,none⟩ (.int .i64 0) hVW (Nat.le_refl _)).put ⟨W.heap.size,1,none⟩ (.int .i64 0) hVW (Nat.le_refl _)).put ⟨W.heap.size,2,none⟩ (.slice none 0 0) hVW (Nat.le_refl _)).put ⟨W.heap.size,3,none⟩ (.slice none 0 0) hVW (Nat.le_refl _)
    have hF3:=HPo.out _ l2 (hF2.kept (World.grownBy_alloc _ (.cells #[.int .i64 (km:Int),.int .i64 dm,.slice none 0 0,.slice none 0 0] 33) none))
    with_reducible exact hF3
theorem gw_o1 (h:Nat) (V W:World) (rb o c km dm:Nat) (any:Bool) (bd bd2 big:Bool) (kind:Int) (len:Nat) (l1 l2:List UInt8) (HW:Hid (rb<W.heap.size∧V.heap.size≤W.heap.size)) (hob:((o:Int)==0)=big) (hcm:(c:Int) % 1000=7) (hcd:(c:Int) / 1000=(dm:Int)) (hcm2:c % 1000=7) (hcd2:c / 1000=dm) (hwd:wrap64 (dm:Int)=(dm:Int)) (hwc:IntKind.i64.wrap (c:Int)=(c:Int)) (t1:(1:Int)<(o:Int)) (hkd:KdOk 0 kind any)
    (H1:Hid (Calls Tryz.prog 84 #[.pointer (some ⟨rb,0,none⟩),.int .i64 1,.bool false] (W.alloc (.cells #[.int .i64 0,.int .i64 0,.slice none 0 0,.slice none 0 0] 33)) fun e w'=>e=.returned (.int .u64 o)∧RS V w' rb l1 any bd false∧(W.alloc (.cells #[.int .i64 0,.int .i64 0,.slice none 0 0,.slice none 0 0] 33)).grownBy w' (some rb)))
    (H2:Hid (∀ w,RS V w rb l1 any bd false→Calls Tryz.prog 84 #[.pointer (some ⟨rb,0,none⟩),.int .i64 4,.bool big] w fun e w'=>e=.returned (.int .u64 c)∧RS V w' rb l2 any bd2 false∧w.grownBy w' (some rb))) :
    Calls Tryz.prog 36 #[.pointer (some ⟨rb,0,none⟩),.int .i64 kind] W (GPost (h+1) V W rb any (.bad false) len):=by
  rcases hkd with t6 | rfl | ⟨t6,t7,t8,t9,hany⟩
  all_goals
    have HC:=Lib.hid (geom_box W rb HW.out.1)
    have HPo:Hid (∀ w l',RW V W w rb l' any true false→GPost (h+1) V W rb any (.bad false) len (.returned zG) w):=fun w l' g=>GPost.none g.g g.r
    unfold zG at HPo
    have hrW:=HW.out.1
    go_enter Tryz.func36,Tryz.ntmps36
    go_wp2_with (first
      | (go_at_call 84;(with_reducible refine H1.out.mono ?_);rintro e w1 ⟨rfl,hr1,hg1⟩;have HR1:=Lib.hid hr1;clear hr1))
    go_at_call 84
    with_reducible refine (H2.out _ HR1.out).mono ?_
    rintro e w2 ⟨rfl,hr2,hg2⟩
    have HR2:=Lib.hid hr2
    have g12:=gt_trans hg1 hg2 (.inl rfl)
    obtain ⟨⟨r0,r1,r2,r3⟩,rf,hz1,G2⟩:=HC.out _ g12
    have rf0:=rf 0
    have rf1:=rf 1
    have rf2:=rf 2
    have rf3:=rf 3
    have c2:=hr2.c2
    have c1:=hr2.c1
    have f2:=hr2.fz 2
    have hrl:=hr2.lt
    clear hr2
    simp only []
    go_at_K
    repeat (first | go_step | go_at_K)
    have hVW:=HW.out.2
    have hz6:W.heap.size<((((((w2.setCell ⟨rb,2,none⟩ (.bool true)).setCell ⟨W.heap.size,0,none⟩ (.int .i64 0)).setCell ⟨W.heap.size,1,none⟩ (.int .i64 0)).setCell ⟨W.heap.size,2,none⟩ (.slice none 0 0)).setCell ⟨W.heap.size,3,none⟩ (.slice none 0 0))).heap.size:=by simp [World.setCell];omega
    have hz7:W.heap.size<(((((((w2.setCell ⟨rb,2,none⟩ (.bool true)).setCell ⟨rb,2,none⟩ (.bool true)).setCell ⟨W.heap.size,0,none⟩ (.int .i64 0)).setCell ⟨W.heap.size,1,none⟩ (.int .i64 0)).setCell ⟨W.heap.size,2,none⟩ (.slice none 0 0)).setCell ⟨W.heap.size,3,none⟩ (.slice none 0 0))).heap.size:=by simp [World.setCell];omega
    refine bodyPost_ret (by simp [results,Tryz.results36,go_sem,r0,r1,r2,r3,hz6,hz7,hrW,hz1];try rfl) rfl ?_
    have hF0:RW V W w2 rb l2 any bd2 false:=⟨G2,HR2.out⟩
    have hF1:=hF0.fail
    have hF2:=(((hF1.put ⟨W.heap.size,0,none⟩ (.int .i64 0) hVW (Nat.le_refl _)).put ⟨W.heap.size,1,none⟩ (.int .i64 0) hVW (Nat.le_refl _)).put ⟨W.heap.size,2,none⟩ (.slice none 0 0) hVW (Nat.le_refl _)).put ⟨W.heap.size,3,none⟩ (.slice none 0 0) hVW (Nat.le_refl _)
    have hF3:=HPo.out _ l2 (hF2.kept (World.grownBy_alloc _ (.cells #[.int .i64 0,.int .i64 dm,.slice none 0 0,.slice none 0 0] 33) none))
    with_reducible exact hF3
theorem gw_k00 (h:Nat) (V W:World) (rb o c km dm:Nat) (any:Bool) (bd bd2 big:Bool) (kind:Int) (len:Nat) (l1 l2:List UInt8) (HW:Hid (rb<W.heap.size∧V.heap.size≤W.heap.size)) (hob:((o:Int)==0)=big) (hcm:(c:Int) % 1000=(km:Int)) (hcd:(c:Int) / 1000=(dm:Int)) (hcm2:c % 1000=km) (hcd2:c / 1000=dm) (hwd:wrap64 (dm:Int)=(dm:Int)) (hwc:IntKind.i64.wrap (c:Int)=(c:Int)) (t1:¬ (1:Int)<(o:Int)) (t2:(km:Int)<1) (t5:((km:Int)==7)=false) (hkd:KdOk (km:Int) kind any)
    (H1:Hid (Calls Tryz.prog 84 #[.pointer (some ⟨rb,0,none⟩),.int .i64 1,.bool false] (W.alloc (.cells #[.int .i64 0,.int .i64 0,.slice none 0 0,.slice none 0 0] 33)) fun e w'=>e=.returned (.int .u64 o)∧RS V w' rb l1 any bd false∧(W.alloc (.cells #[.int .i64 0,.int .i64 0,.slice none 0 0,.slice none 0 0] 33)).grownBy w' (some rb)))
    (H2:Hid (∀ w,RS V w rb l1 any bd false→Calls Tryz.prog 84 #[.pointer (some ⟨rb,0,none⟩),.int .i64 4,.bool big] w fun e w'=>e=.returned (.int .u64 c)∧RS V w' rb l2 any bd2 false∧w.grownBy w' (some rb))) :
    Calls Tryz.prog 36 #[.pointer (some ⟨rb,0,none⟩),.int .i64 kind] W (GPost (h+1) V W rb any (.bad false) len):=by
  have t60:(0:Int)≤(km:Int):=by omega
  rcases hkd with t6 | rfl | ⟨t6,t7,t8,t9,hany⟩
  all_goals
    have HC:=Lib.hid (geom_box W rb HW.out.1)
    have HPo:Hid (∀ w l',RW V W w rb l' any true false→GPost (h+1) V W rb any (.bad false) len (.returned zG) w):=fun w l' g=>GPost.none g.g g.r
    unfold zG at HPo
    have hrW:=HW.out.1
    go_enter Tryz.func36,Tryz.ntmps36
    go_wp2_with (first
      | (go_at_call 84;(with_reducible refine H1.out.mono ?_);rintro e w1 ⟨rfl,hr1,hg1⟩;have HR1:=Lib.hid hr1;clear hr1))
    go_at_call 84
    with_reducible refine (H2.out _ HR1.out).mono ?_
    rintro e w2 ⟨rfl,hr2,hg2⟩
    have HR2:=Lib.hid hr2
    have g12:=gt_trans hg1 hg2 (.inl rfl)
    obtain ⟨⟨r0,r1,r2,r3⟩,rf,hz1,G2⟩:=HC.out _ g12
    have rf0:=rf 0
    have rf1:=rf 1
    have rf2:=rf 2
    have rf3:=rf 3
    have c2:=hr2.c2
    have c1:=hr2.c1
    have f2:=hr2.fz 2
    have hrl:=hr2.lt
    clear hr2
    simp only []
    go_at_K
    repeat (first | go_step | go_at_K)
    have hVW:=HW.out.2
    have hz6:W.heap.size<((((((w2.setCell ⟨rb,2,none⟩ (.bool true)).setCell ⟨W.heap.size,0,none⟩ (.int .i64 0)).setCell ⟨W.heap.size,1,none⟩ (.int .i64 0)).setCell ⟨W.heap.size,2,none⟩ (.slice none 0 0)).setCell ⟨W.heap.size,3,none⟩ (.slice none 0 0))).heap.size:=by simp [World.setCell];omega
    have hz7:W.heap.size<(((((((w2.setCell ⟨rb,2,none⟩ (.bool true)).setCell ⟨rb,2,none⟩ (.bool true)).setCell ⟨W.heap.size,0,none⟩ (.int .i64 0)).setCell ⟨W.heap.size,1,none⟩ (.int .i64 0)).setCell ⟨W.heap.size,2,none⟩ (.slice none 0 0)).setCell ⟨W.heap.size,3,none⟩ (.slice none 0 0))).heap.size:=by simp [World.setCell];omega
    refine bodyPost_ret (by simp [results,Tryz.results36,go_sem,r0,r1,r2,r3,hz6,hz7,hrW,hz1];try rfl) rfl ?_
    have hF0:RW V W w2 rb l2 any bd2 false:=⟨G2,HR2.out⟩
    have hF1:=hF0.fail
    have hF2:=(((hF1.put ⟨W.heap.size,0,none⟩ (.int .i64 0) hVW (Nat.le_refl _)).put ⟨W.heap.size,1,none⟩ (.int .i64 0) hVW (Nat.le_refl _)).put ⟨W.heap.size,2,none⟩ (.slice none 0 0) hVW (Nat.le_refl _)).put ⟨W.heap.size,3,none⟩ (.slice none 0 0) hVW (Nat.le_refl _)
    have hF3:=HPo.out _ l2 (hF2.kept (World.grownBy_alloc _ (.cells #[.int .i64 (km:Int),.int .i64 dm,.slice none 0 0,.slice none 0 0] 33) none))
    with_reducible exact hF3
theorem gw_k80 (h:Nat) (V W:World) (rb o c km dm:Nat) (any:Bool) (bd bd2 big:Bool) (kind:Int) (len:Nat) (l1 l2:List UInt8) (HW:Hid (rb<W.heap.size∧V.heap.size≤W.heap.size)) (hob:((o:Int)==0)=big) (hcm:(c:Int) % 1000=(km:Int)) (hcd:(c:Int) / 1000=(dm:Int)) (hcm2:c % 1000=km) (hcd2:c / 1000=dm) (hwd:wrap64 (dm:Int)=(dm:Int)) (hwc:IntKind.i64.wrap (c:Int)=(c:Int)) (t1:¬ (1:Int)<(o:Int)) (t2:¬ (km:Int)<1) (t3:(7:Int)<(km:Int)) (t5:((km:Int)==7)=false) (hkd:KdOk (km:Int) kind any)
    (H1:Hid (Calls Tryz.prog 84 #[.pointer (some ⟨rb,0,none⟩),.int .i64 1,.bool false] (W.alloc (.cells #[.int .i64 0,.int .i64 0,.slice none 0 0,.slice none 0 0] 33)) fun e w'=>e=.returned (.int .u64 o)∧RS V w' rb l1 any bd false∧(W.alloc (.cells #[.int .i64 0,.int .i64 0,.slice none 0 0,.slice none 0 0] 33)).grownBy w' (some rb)))
    (H2:Hid (∀ w,RS V w rb l1 any bd false→Calls Tryz.prog 84 #[.pointer (some ⟨rb,0,none⟩),.int .i64 4,.bool big] w fun e w'=>e=.returned (.int .u64 c)∧RS V w' rb l2 any bd2 false∧w.grownBy w' (some rb))) :
    Calls Tryz.prog 36 #[.pointer (some ⟨rb,0,none⟩),.int .i64 kind] W (GPost (h+1) V W rb any (.bad false) len):=by
  have t60:(0:Int)≤(km:Int):=by omega
  rcases hkd with t6 | rfl | ⟨t6,t7,t8,t9,hany⟩
  all_goals
    have HC:=Lib.hid (geom_box W rb HW.out.1)
    have HPo:Hid (∀ w l',RW V W w rb l' any true false→GPost (h+1) V W rb any (.bad false) len (.returned zG) w):=fun w l' g=>GPost.none g.g g.r
    unfold zG at HPo
    have hrW:=HW.out.1
    go_enter Tryz.func36,Tryz.ntmps36
    go_wp2_with (first
      | (go_at_call 84;(with_reducible refine H1.out.mono ?_);rintro e w1 ⟨rfl,hr1,hg1⟩;have HR1:=Lib.hid hr1;clear hr1))
    go_at_call 84
    with_reducible refine (H2.out _ HR1.out).mono ?_
    rintro e w2 ⟨rfl,hr2,hg2⟩
    have HR2:=Lib.hid hr2
    have g12:=gt_trans hg1 hg2 (.inl rfl)
    obtain ⟨⟨r0,r1,r2,r3⟩,rf,hz1,G2⟩:=HC.out _ g12
    have rf0:=rf 0
    have rf1:=rf 1
    have rf2:=rf 2
    have rf3:=rf 3
    have c2:=hr2.c2
    have c1:=hr2.c1
    have f2:=hr2.fz 2
    have hrl:=hr2.lt
    clear hr2
    simp only []
    go_at_K
    repeat (first | go_step | go_at_K)
    have hVW:=HW.out.2
    have hz6:W.heap.size<((((((w2.setCell ⟨rb,2,none⟩ (.bool true)).setCell ⟨W.heap.size,0,none⟩ (.int .i64 0)).setCell ⟨W.heap.size,1,none⟩ (.int .i64 0)).setCell ⟨W.heap.size,2,none⟩ (.slice none 0 0)).setCell ⟨W.heap.size,3,none⟩ (.slice none 0 0))).heap.size:=by simp [World.setCell];omega
    have hz7:W.heap.size<(((((((w2.setCell ⟨rb,2,none⟩ (.bool true)).setCell ⟨rb,2,none⟩ (.bool true)).setCell ⟨W.heap.size,0,none⟩ (.int .i64 0)).setCell ⟨W.heap.size,1,none⟩ (.int .i64 0)).setCell ⟨W.heap.size,2,none⟩ (.slice none 0 0)).setCell ⟨W.heap.size,3,none⟩ (.slice none 0 0))).heap.size:=by simp [World.setCell];omega
    refine bodyPost_ret (by simp [results,Tryz.results36,go_sem,r0,r1,r2,r3,hz6,hz7,hrW,hz1];try rfl) rfl ?_
    have hF0:RW V W w2 rb l2 any bd2 false:=⟨G2,HR2.out⟩
    have hF1:=hF0.fail
    have hF2:=(((hF1.put ⟨W.heap.size,0,none⟩ (.int .i64 0) hVW (Nat.le_refl _)).put ⟨W.heap.size,1,none⟩ (.int .i64 0) hVW (Nat.le_refl _)).put ⟨W.heap.size,2,none⟩ (.slice none 0 0) hVW (Nat.le_refl _)).put ⟨W.heap.size,3,none⟩ (.slice none 0 0) hVW (Nat.le_refl _)
    have hF3:=HPo.out _ l2 (hF2.kept (World.grownBy_alloc _ (.cells #[.int .i64 (km:Int),.int .i64 dm,.slice none 0 0,.slice none 0 0] 33) none))
    with_reducible exact hF3
end
end Go.Proofs.YtlpaecafpbbbkaaGreatDoor
