/- The reference's reader of well known binary: counts that are bad. -/
import Derived.RegionTactic
import Derived.Deep.RegionLaw
import Derived.Test.YtlpaecafpbbbkaaGreatDoorBYT33
set_option linter.unusedVariables false
set_option linter.unusedSimpArgs false
set_option maxRecDepth 100000
set_option maxHeartbeats 24000000
namespace Go.Proofs.YtlpaecafpbbbkaaGreatDoor
section
open Go.RowKit
theorem gq_L (h:Nat) (V W:World) (rb o c dm:Nat) (any:Bool) (big:Bool) (kind:Int) (len:Nat) (l1 l2:List UInt8) (HW:Hid (rb<W.heap.size∧V.heap.size≤W.heap.size)) (hob:((o:Int)==0)=big) (km:Nat) (t2:¬ (km:Int)<1) (t3:¬ (7:Int)<(km:Int)) (t5:((km:Int)==7)=false) (q1:((km:Int)==1)=false) (q2:((km:Int)==2)=false) (hcm:(c:Int) % 1000=(km:Int)) (hcd:(c:Int) / 1000=(dm:Int)) (hcm2:c % 1000=km) (hcd2:c / 1000=dm) (hwd:wrap64 (dm:Int)=(dm:Int)) (hwc:IntKind.i64.wrap (c:Int)=(c:Int)) (t1:¬ (1:Int)<(o:Int)) (t4:¬ (3:Int)<(dm:Int)) (hkd:KdOk (km:Int) kind any) (gr:Bool) (hcnt:rdC big l2=.bad gr) (hlen:l2.length+5≤len)
    (H1:Hid (Calls Tryz.prog 84 #[.pointer (some ⟨rb,0,none⟩),.int .i64 1,.bool false] (W.alloc (.cells #[.int .i64 0,.int .i64 0,.slice none 0 0,.slice none 0 0] 33)) fun e w'=>e=.returned (.int .u64 o)∧RS V w' rb l1 any false false∧(W.alloc (.cells #[.int .i64 0,.int .i64 0,.slice none 0 0,.slice none 0 0] 33)).grownBy w' (some rb)))
    (H2:Hid (∀ w,RS V w rb l1 any false false→Calls Tryz.prog 84 #[.pointer (some ⟨rb,0,none⟩),.int .i64 4,.bool big] w fun e w'=>e=.returned (.int .u64 c)∧RS V w' rb l2 any false false∧w.grownBy w' (some rb))) :
    Calls Tryz.prog 36 #[.pointer (some ⟨rb,0,none⟩),.int .i64 kind] W (GPost (h+1) V W rb any (.bad gr) len):=by
  rcases hkd with t6 | rfl | ⟨t6,t7,t8,t9,hany⟩
  all_goals
    have HC:=Lib.hid (geom_box W rb HW.out.1)
    have hrW:=HW.out.1
    have HCn:=Lib.hid (fun w (hr:RS V w rb l2 any false false)=>(by have h:=count_any V w rb any big l2 hr;rw [hcnt] at h;exact h.mono fun e w' ⟨hg,he,hl⟩=>⟨he,hl,hg⟩ : Calls Tryz.prog 86 #[.pointer (some ⟨rb,0,none⟩),.bool big] w fun e w'=>e=.returned (.int .i64 0)∧(∃ l,RS V w' rb l any true gr)∧w.grownBy w' (some rb)))
    clear hcnt
    go_enter Tryz.func36,Tryz.ntmps36
    go_wp2_with (first
      | (go_at_call 84;(with_reducible refine H1.out.mono ?_);rintro e w1 ⟨rfl,hr1,hg1⟩;have HR1:=Lib.hid hr1;clear hr1))
    go_at_call 84
    with_reducible refine (H2.out _ HR1.out).mono ?_
    rintro e w2 ⟨rfl,hr2,hg2⟩
    have HR2:=Lib.hid hr2
    have g12:=gt_trans hg1 hg2 (.inl rfl)
    have hc1:=hr2.c1
    have hc2:=hr2.c2
    have hrl:=hr2.lt
    clear hr2
    simp only []
    go_at_K
    have HBx:Hid (∀ w3,(w2.alloc (.cells #[.int .i64 (km:Int),.int .i64 dm,.slice none 0 0,.slice none 0 0] 33)).grownBy w3 (some rb)→(w3.cell? ⟨w2.heap.size,0,none⟩=some (.int .i64 (km:Int))∧w3.cell? ⟨w2.heap.size,1,none⟩=some (.int .i64 dm)∧w3.cell? ⟨w2.heap.size,2,none⟩=some (.slice none 0 0)∧w3.cell? ⟨w2.heap.size,3,none⟩=some (.slice none 0 0))∧(∀ j,w3.frozen? ⟨w2.heap.size,j,none⟩=false)∧w2.heap.size<w3.heap.size∧(W.alloc (.cells #[.int .i64 0,.int .i64 0,.slice none 0 0,.slice none 0 0] 33)).grownBy w3 (some rb)):=fun w3 g=>by
      have hn:some w2.heap.size≠some rb:=fun e=>by injection e with e;omega
      have hb:=g.block w2.heap.size (by simp) hn
      have hs:=g.size
      simp at hs
      exact ⟨⟨g.cell (by simp) hn,g.cell (by simp) hn,g.cell (by simp) hn,g.cell (by simp) hn⟩,fun j=>by rw [World.frozen?_of_block hb];simp,by omega,gt_trans (gt_trans g12 (World.grownBy_alloc w2 (.cells #[.int .i64 (km:Int),.int .i64 dm,.slice none 0 0,.slice none 0 0] 33) none) (.inr (.inl rfl))) g (.inl rfl)⟩
    have hz2:W.heap.size<w2.heap.size:=by have:=g12.size;simp at this;omega
    have hz9:¬ w2.heap.size=W.heap.size:=by omega
    have hgd:=World.grownBy_alloc w2 (.cells #[.int .i64 (km:Int),.int .i64 dm,.slice none 0 0,.slice none 0 0] 33) none
    have hgd2:(w2.alloc (.cells #[.int .i64 (km:Int),.int .i64 dm,.slice none 0 0,.slice none 0 0] 33)).grownBy (w2.alloc (.cells #[.int .i64 (km:Int),.int .i64 dm,.slice none 0 0,.slice none 0 0] 33)) (some rb):=gt_refl _ _
    go_wp2_with fail
    go_at_call 86
    (with_reducible refine (HCn.out _ (HR2.out.kept hgd)).mono ?_)
    rintro e w3 ⟨rfl,⟨l',hr3⟩,hg3⟩
    have HR3:=Lib.hid hr3
    have d2:=hr3.c2
    clear hr3
    obtain ⟨⟨b0,b1,b2,b3⟩,bf,bz,G03⟩:=HBx.out _ hg3
    obtain ⟨⟨r0,r1,r2,r3⟩,rf,hz1,G3⟩:=HC.out _ G03
    have rf0:=rf 0;have rf1:=rf 1;have rf2:=rf 2;have rf3:=rf 3
    go_wp2_with fail
    go_loopw [12] (fun i wr=>i=.int .i64 0∧wr=w3) (fun _ _=>1)
    case atStart=>exact ⟨rfl,rfl⟩
    case round =>
      obtain ⟨rfl,rfl⟩:=hrel
      go_wp2_with fail
      go_wp2_with fail
      refine bodyPost_ret (by simp [results,Tryz.results36,go_sem,r0,r1,r2,r3,hz1,hz2,hz9];try rfl) rfl ?_
      have hV:=HW.out.2
      have hL0:LF V W wr rb l' any true gr none 0 (fun _=>0):=⟨⟨G3,HR3.out⟩,⟨fun h=>absurd h (by omega),(fun a ha=>by cases ha),fun _=>Nat.zero_lt_succ _⟩⟩
      have hL1:=((((hL0.put ⟨W.heap.size,0,none⟩ (.int .i64 (km:Int)) hV (Nat.le_refl _) (fun a' e=>by cases e)).put ⟨W.heap.size,1,none⟩ (.int .i64 dm) hV (Nat.le_refl _) (fun a' e=>by cases e)).put ⟨W.heap.size,2,none⟩ (.slice none 0 0) hV (Nat.le_refl _) (fun a' e=>by cases e)).put ⟨W.heap.size,3,none⟩ (.slice none 0 0) hV (Nat.le_refl _) (fun a' e=>by cases e))
      exact hL1.no h (km:Int) dm 0 len (Nat.le_refl _) (by decide) (fun _=>rfl) (fun a ha=>by cases ha) (Nat.zero_le _)
theorem gq_7 (h:Nat) (V W:World) (rb o c dm:Nat) (any:Bool) (big:Bool) (kind:Int) (len:Nat) (l1 l2:List UInt8) (HW:Hid (rb<W.heap.size∧V.heap.size≤W.heap.size)) (hob:((o:Int)==0)=big) (hcm:(c:Int) % 1000=7) (hcd:(c:Int) / 1000=(dm:Int)) (hcm2:c % 1000=7) (hcd2:c / 1000=dm) (hwd:wrap64 (dm:Int)=(dm:Int)) (hwc:IntKind.i64.wrap (c:Int)=(c:Int)) (t1:¬ (1:Int)<(o:Int)) (t4:¬ (3:Int)<(dm:Int)) (hkd:KdOk 0 kind any) (gr:Bool) (hcnt:rdC big l2=.bad gr) (hlen:l2.length+5≤len)
    (H1:Hid (Calls Tryz.prog 84 #[.pointer (some ⟨rb,0,none⟩),.int .i64 1,.bool false] (W.alloc (.cells #[.int .i64 0,.int .i64 0,.slice none 0 0,.slice none 0 0] 33)) fun e w'=>e=.returned (.int .u64 o)∧RS V w' rb l1 any false false∧(W.alloc (.cells #[.int .i64 0,.int .i64 0,.slice none 0 0,.slice none 0 0] 33)).grownBy w' (some rb)))
    (H2:Hid (∀ w,RS V w rb l1 any false false→Calls Tryz.prog 84 #[.pointer (some ⟨rb,0,none⟩),.int .i64 4,.bool big] w fun e w'=>e=.returned (.int .u64 c)∧RS V w' rb l2 any false false∧w.grownBy w' (some rb))) :
    Calls Tryz.prog 36 #[.pointer (some ⟨rb,0,none⟩),.int .i64 kind] W (GPost (h+1) V W rb any (.bad gr) len):=by
  rcases hkd with t6 | rfl | ⟨t6,t7,t8,t9,hany⟩
  all_goals
    have HC:=Lib.hid (geom_box W rb HW.out.1)
    have hrW:=HW.out.1
    have HCn:=Lib.hid (fun w (hr:RS V w rb l2 any false false)=>(by have h:=count_any V w rb any big l2 hr;rw [hcnt] at h;exact h.mono fun e w' ⟨hg,he,hl⟩=>⟨he,hl,hg⟩ : Calls Tryz.prog 86 #[.pointer (some ⟨rb,0,none⟩),.bool big] w fun e w'=>e=.returned (.int .i64 0)∧(∃ l,RS V w' rb l any true gr)∧w.grownBy w' (some rb)))
    clear hcnt
    go_enter Tryz.func36,Tryz.ntmps36
    go_wp2_with (first
      | (go_at_call 84;(with_reducible refine H1.out.mono ?_);rintro e w1 ⟨rfl,hr1,hg1⟩;have HR1:=Lib.hid hr1;clear hr1))
    go_at_call 84
    with_reducible refine (H2.out _ HR1.out).mono ?_
    rintro e w2 ⟨rfl,hr2,hg2⟩
    have HR2:=Lib.hid hr2
    have g12:=gt_trans hg1 hg2 (.inl rfl)
    have hc1:=hr2.c1
    have hc2:=hr2.c2
    have hrl:=hr2.lt
    clear hr2
    simp only []
    go_at_K
    have HBx:Hid (∀ w3,(w2.alloc (.cells #[.int .i64 0,.int .i64 dm,.slice none 0 0,.slice none 0 0] 33)).grownBy w3 (some rb)→(w3.cell? ⟨w2.heap.size,0,none⟩=some (.int .i64 0)∧w3.cell? ⟨w2.heap.size,1,none⟩=some (.int .i64 dm)∧w3.cell? ⟨w2.heap.size,2,none⟩=some (.slice none 0 0)∧w3.cell? ⟨w2.heap.size,3,none⟩=some (.slice none 0 0))∧(∀ j,w3.frozen? ⟨w2.heap.size,j,none⟩=false)∧w2.heap.size<w3.heap.size∧(W.alloc (.cells #[.int .i64 0,.int .i64 0,.slice none 0 0,.slice none 0 0] 33)).grownBy w3 (some rb)):=fun w3 g=>by
      have hn:some w2.heap.size≠some rb:=fun e=>by injection e with e;omega
      have hb:=g.block w2.heap.size (by simp) hn
      have hs:=g.size
      simp at hs
      exact ⟨⟨g.cell (by simp) hn,g.cell (by simp) hn,g.cell (by simp) hn,g.cell (by simp) hn⟩,fun j=>by rw [World.frozen?_of_block hb];simp,by omega,gt_trans (gt_trans g12 (World.grownBy_alloc w2 (.cells #[.int .i64 0,.int .i64 dm,.slice none 0 0,.slice none 0 0] 33) none) (.inr (.inl rfl))) g (.inl rfl)⟩
    have hz2:W.heap.size<w2.heap.size:=by have:=g12.size;simp at this;omega
    have hz9:¬ w2.heap.size=W.heap.size:=by omega
    have hgd:=World.grownBy_alloc w2 (.cells #[.int .i64 0,.int .i64 dm,.slice none 0 0,.slice none 0 0] 33) none
    have hgd2:(w2.alloc (.cells #[.int .i64 0,.int .i64 dm,.slice none 0 0,.slice none 0 0] 33)).grownBy (w2.alloc (.cells #[.int .i64 0,.int .i64 dm,.slice none 0 0,.slice none 0 0] 33)) (some rb):=gt_refl _ _
    go_wp2_with fail
    go_at_call 86
    (with_reducible refine (HCn.out _ (HR2.out.kept hgd)).mono ?_)
    rintro e w3 ⟨rfl,⟨l',hr3⟩,hg3⟩
    have HR3:=Lib.hid hr3
    have d2:=hr3.c2
    clear hr3
    obtain ⟨⟨b0,b1,b2,b3⟩,bf,bz,G03⟩:=HBx.out _ hg3
    obtain ⟨⟨r0,r1,r2,r3⟩,rf,hz1,G3⟩:=HC.out _ G03
    have rf0:=rf 0;have rf1:=rf 1;have rf2:=rf 2;have rf3:=rf 3
    go_wp2_with fail
    go_loopw [12] (fun i wr=>i=.int .i64 0∧wr=w3) (fun _ _=>1)
    case atStart=>exact ⟨rfl,rfl⟩
    case round =>
      obtain ⟨rfl,rfl⟩:=hrel
      go_wp2_with fail
      go_wp2_with fail
      refine bodyPost_ret (by simp [results,Tryz.results36,go_sem,r0,r1,r2,r3,hz1,hz2,hz9];try rfl) rfl ?_
      have hV:=HW.out.2
      have hL0:LF V W wr rb l' any true gr none 0 (fun _=>0):=⟨⟨G3,HR3.out⟩,⟨fun h=>absurd h (by omega),(fun a ha=>by cases ha),fun _=>Nat.zero_lt_succ _⟩⟩
      have hL1:=((((hL0.put ⟨W.heap.size,0,none⟩ (.int .i64 0) hV (Nat.le_refl _) (fun a' e=>by cases e)).put ⟨W.heap.size,1,none⟩ (.int .i64 dm) hV (Nat.le_refl _) (fun a' e=>by cases e)).put ⟨W.heap.size,2,none⟩ (.slice none 0 0) hV (Nat.le_refl _) (fun a' e=>by cases e)).put ⟨W.heap.size,3,none⟩ (.slice none 0 0) hV (Nat.le_refl _) (fun a' e=>by cases e))
      exact hL1.no h 0 dm 0 len (Nat.le_refl _) (by decide) (fun _=>rfl) (fun a ha=>by cases ha) (Nat.zero_le _)
end
end Go.Proofs.YtlpaecafpbbbkaaGreatDoor
