/- The reference's reader of well known binary: points. -/
import Derived.RegionTactic
import Derived.BigQuiet
import Derived.Test.YtlpaecafpbbbkaaGreatDoorBYT30
set_option linter.unusedVariables false
set_option linter.unusedSimpArgs false
set_option maxRecDepth 100000
set_option maxHeartbeats 24000000
namespace Go.Proofs.YtlpaecafpbbbkaaGreatDoor
section
open Go.RowKit
theorem gp_short (h:Nat) (V W:World) (rb o c dm:Nat) (any:Bool) (big:Bool) (kind:Int) (len:Nat) (l1 l2:List UInt8) (HW:Hid (rb<W.heap.size∧V.heap.size≤W.heap.size)) (hob:((o:Int)==0)=big) (hcm:(c:Int) % 1000=1) (hcd:(c:Int) / 1000=(dm:Int)) (hcm2:c % 1000=1) (hcd2:c / 1000=dm) (hwd:wrap64 (dm:Int)=(dm:Int)) (hwc:IntKind.i64.wrap (c:Int)=(c:Int)) (t1:¬ (1:Int)<(o:Int)) (t4:¬ (3:Int)<(dm:Int)) (hkd:KdOk 1 kind any) (hsh:l2.length<8*widN dm)
    (H1:Hid (Calls Tryz.prog 84 #[.pointer (some ⟨rb,0,none⟩),.int .i64 1,.bool false] (W.alloc (.cells #[.int .i64 0,.int .i64 0,.slice none 0 0,.slice none 0 0] 33)) fun e w'=>e=.returned (.int .u64 o)∧RS V w' rb l1 any false false∧(W.alloc (.cells #[.int .i64 0,.int .i64 0,.slice none 0 0,.slice none 0 0] 33)).grownBy w' (some rb)))
    (H2:Hid (∀ w,RS V w rb l1 any false false→Calls Tryz.prog 84 #[.pointer (some ⟨rb,0,none⟩),.int .i64 4,.bool big] w fun e w'=>e=.returned (.int .u64 c)∧RS V w' rb l2 any false false∧w.grownBy w' (some rb))) :
    Calls Tryz.prog 36 #[.pointer (some ⟨rb,0,none⟩),.int .i64 kind] W (GPost (h+1) V W rb any ((rdF (widN dm) big l2).bind fun ns l3=>rdPt any dm ns l3) len):=by
  rcases hkd with t6 | rfl | ⟨t6,t7,t8,t9,hany⟩
  all_goals
    have HC:=Lib.hid (geom_box W rb HW.out.1)
    have hrW:=HW.out.1
    have hd4:dm<4:=by omega
    have hw2:=widN_le dm hd4
    have HWi:=Lib.hid (fun w=>Width_any dm hd4 w)
    have HNu:=Lib.hid (fun w (hr:RS V w rb l2 any false false)=>nums_any V w rb (widN dm) any big l2 (by omega) hr)
    obtain ⟨wd,hwdd⟩ : ∃ wd,wd=widN dm:=⟨_,rfl⟩
    rw [←hwdd] at HWi HNu hw2 ⊢
    have HSh:=Lib.hid hsh
    rw [←hwdd] at HSh
    have HWD:=Lib.hid hwdd
    clear hwdd
    go_enter Tryz.func36,Tryz.ntmps36
    go_wp2_with (first
      | (go_at_call 84;(with_reducible refine H1.out.mono ?_);rintro e w1 ⟨rfl,hr1,hg1⟩;have HR1:=Lib.hid hr1;clear hr1))
    go_at_call 84
    with_reducible refine (H2.out _ HR1.out).mono ?_
    rintro e w2 ⟨rfl,hr2,hg2⟩
    have HR2:=Lib.hid hr2
    have g12:=gt_trans hg1 hg2 (.inl rfl)
    have hc1:=hr2.c1
    have hc2:=hr2.c2
    have hrl:=hr2.lt
    clear hr2
    simp only []
    go_at_K
    have HBx:Hid (∀ w3,(w2.alloc (.cells #[.int .i64 1,.int .i64 dm,.slice none 0 0,.slice none 0 0] 33)).grownBy w3 (some rb)→(w3.cell? ⟨w2.heap.size,0,none⟩=some (.int .i64 1)∧w3.cell? ⟨w2.heap.size,1,none⟩=some (.int .i64 dm)∧w3.cell? ⟨w2.heap.size,2,none⟩=some (.slice none 0 0)∧w3.cell? ⟨w2.heap.size,3,none⟩=some (.slice none 0 0))∧(∀ j,w3.frozen? ⟨w2.heap.size,j,none⟩=false)∧w2.heap.size<w3.heap.size∧(W.alloc (.cells #[.int .i64 0,.int .i64 0,.slice none 0 0,.slice none 0 0] 33)).grownBy w3 (some rb)):=fun w3 g=>by
      have hn:some w2.heap.size≠some rb:=fun e=>by injection e with e;omega
      have hb:=g.block w2.heap.size (by simp) hn
      have hs:=g.size
      simp at hs
      exact ⟨⟨g.cell (by simp) hn,g.cell (by simp) hn,g.cell (by simp) hn,g.cell (by simp) hn⟩,fun j=>by rw [World.frozen?_of_block hb];simp,by omega,gt_trans (gt_trans g12 (World.grownBy_alloc w2 (.cells #[.int .i64 1,.int .i64 dm,.slice none 0 0,.slice none 0 0] 33) none) (.inr (.inl rfl))) g (.inl rfl)⟩
    have hz2:W.heap.size<w2.heap.size:=by have:=g12.size;simp at this;omega
    go_wp2_with (first
      | (go_at_call 42;go_loud (refine (HWi.out _).mono ?_;rintro e w3 ⟨rfl,rfl⟩))
      | (go_at_call 85;go_loud ((with_reducible refine (HNu.out _ (HR2.out.kept (World.grownBy_alloc _ _ none))).mono ?_);unfold NumPost;rintro e w3 ⟨hg3,p,m,c',rfl,hmc,hmc2,hpc,hfv,hfr,hcase⟩;obtain ⟨⟨b0,b1,b2,b3⟩,bf,bz,G03⟩:=HBx.out _ hg3;obtain ⟨⟨r0,r1,r2,r3⟩,rf,hz1,G3⟩:=HC.out _ G03;have rf0:=rf 0;have rf1:=rf 1;have rf2:=rf 2;have rf3:=rf 3;have bf2:=bf 2;obtain ⟨hl3,_,hr3⟩ | ⟨hl3,hm8,l',hr3⟩:=hcase;exact absurd hl3 (by have:=HSh.out;omega);have c2:=hr3.c2;have HR3:=Lib.hid hr3;have HFV:=Lib.hid hfv;clear hfv hr3)))
    have hz9:¬ w2.heap.size=W.heap.size:=by omega
    have hV:=HW.out.2
    refine bodyPost_ret (by simp [results,Tryz.results36,go_sem,r0,r1,r2,r3,hz1,hz2,hz9];try rfl) rfl ?_
    have hrd:(rdF wd big l2).bind (fun ns l3=>rdPt any dm ns l3)=.bad false:=by unfold rdF;rw [if_pos HSh.out];rfl
    rw [hrd]
    have hF0:RW V W w3 rb l' any true false:=⟨G3,HR3.out⟩
    have hF1:=(((((hF0.put ⟨w2.heap.size,2,none⟩ (.slice p m c') hV (Nat.le_of_lt hz2)).put ⟨W.heap.size,0,none⟩ (.int .i64 0) hV (Nat.le_refl _)).put ⟨W.heap.size,1,none⟩ (.int .i64 0) hV (Nat.le_refl _)).put ⟨W.heap.size,2,none⟩ (.slice none 0 0) hV (Nat.le_refl _)).put ⟨W.heap.size,3,none⟩ (.slice none 0 0) hV (Nat.le_refl _))
    exact GPost.none hF1.g hF1.r
theorem gp_none (h:Nat) (V W:World) (rb o c dm:Nat) (any:Bool) (big:Bool) (kind:Int) (len:Nat) (l1 l2:List UInt8) (HW:Hid (rb<W.heap.size∧V.heap.size≤W.heap.size)) (hob:((o:Int)==0)=big) (hcm:(c:Int) % 1000=1) (hcd:(c:Int) / 1000=(dm:Int)) (hcm2:c % 1000=1) (hcd2:c / 1000=dm) (hwd:wrap64 (dm:Int)=(dm:Int)) (hwc:IntKind.i64.wrap (c:Int)=(c:Int)) (t1:¬ (1:Int)<(o:Int)) (t4:¬ (3:Int)<(dm:Int)) (hkd:KdOk 1 kind any) (hsh:8*widN dm≤l2.length) (hlen:l2.length+5≤len) (hn0:nanB (fIn big l2 0)=false) (hn1:nanB (fIn big l2 1)=false)
    (H1:Hid (Calls Tryz.prog 84 #[.pointer (some ⟨rb,0,none⟩),.int .i64 1,.bool false] (W.alloc (.cells #[.int .i64 0,.int .i64 0,.slice none 0 0,.slice none 0 0] 33)) fun e w'=>e=.returned (.int .u64 o)∧RS V w' rb l1 any false false∧(W.alloc (.cells #[.int .i64 0,.int .i64 0,.slice none 0 0,.slice none 0 0] 33)).grownBy w' (some rb)))
    (H2:Hid (∀ w,RS V w rb l1 any false false→Calls Tryz.prog 84 #[.pointer (some ⟨rb,0,none⟩),.int .i64 4,.bool big] w fun e w'=>e=.returned (.int .u64 c)∧RS V w' rb l2 any false false∧w.grownBy w' (some rb))) :
    Calls Tryz.prog 36 #[.pointer (some ⟨rb,0,none⟩),.int .i64 kind] W (GPost (h+1) V W rb any ((rdF (widN dm) big l2).bind fun ns l3=>rdPt any dm ns l3) len):=by
  rcases hkd with t6 | rfl | ⟨t6,t7,t8,t9,hany⟩
  all_goals
    have HC:=Lib.hid (geom_box W rb HW.out.1)
    have hrW:=HW.out.1
    have hd4:dm<4:=by omega
    have hw2:=widN_le dm hd4
    have HWi:=Lib.hid (fun w=>Width_any dm hd4 w)
    have HNu:=Lib.hid (fun w (hr:RS V w rb l2 any false false)=>nums_any V w rb (widN dm) any big l2 (by omega) hr)
    obtain ⟨wd,hwdd⟩ : ∃ wd,wd=widN dm:=⟨_,rfl⟩
    rw [←hwdd] at HWi HNu hw2 ⊢
    have HSh:=Lib.hid hsh
    rw [←hwdd] at HSh
    have HWD:=Lib.hid hwdd
    clear hwdd
    go_enter Tryz.func36,Tryz.ntmps36
    go_wp2_with (first
      | (go_at_call 84;(with_reducible refine H1.out.mono ?_);rintro e w1 ⟨rfl,hr1,hg1⟩;have HR1:=Lib.hid hr1;clear hr1))
    go_at_call 84
    with_reducible refine (H2.out _ HR1.out).mono ?_
    rintro e w2 ⟨rfl,hr2,hg2⟩
    have HR2:=Lib.hid hr2
    have g12:=gt_trans hg1 hg2 (.inl rfl)
    have hc1:=hr2.c1
    have hc2:=hr2.c2
    have hrl:=hr2.lt
    clear hr2
    simp only []
    go_at_K
    have HBx:Hid (∀ w3,(w2.alloc (.cells #[.int .i64 1,.int .i64 dm,.slice none 0 0,.slice none 0 0] 33)).grownBy w3 (some rb)→(w3.cell? ⟨w2.heap.size,0,none⟩=some (.int .i64 1)∧w3.cell? ⟨w2.heap.size,1,none⟩=some (.int .i64 dm)∧w3.cell? ⟨w2.heap.size,2,none⟩=some (.slice none 0 0)∧w3.cell? ⟨w2.heap.size,3,none⟩=some (.slice none 0 0))∧(∀ j,w3.frozen? ⟨w2.heap.size,j,none⟩=false)∧w2.heap.size<w3.heap.size∧(W.alloc (.cells #[.int .i64 0,.int .i64 0,.slice none 0 0,.slice none 0 0] 33)).grownBy w3 (some rb)):=fun w3 g=>by
      have hn:some w2.heap.size≠some rb:=fun e=>by injection e with e;omega
      have hb:=g.block w2.heap.size (by simp) hn
      have hs:=g.size
      simp at hs
      exact ⟨⟨g.cell (by simp) hn,g.cell (by simp) hn,g.cell (by simp) hn,g.cell (by simp) hn⟩,fun j=>by rw [World.frozen?_of_block hb];simp,by omega,gt_trans (gt_trans g12 (World.grownBy_alloc w2 (.cells #[.int .i64 1,.int .i64 dm,.slice none 0 0,.slice none 0 0] 33) none) (.inr (.inl rfl))) g (.inl rfl)⟩
    have hz2:W.heap.size<w2.heap.size:=by have:=g12.size;simp at this;omega
    go_wp2_with (first
      | (go_at_call 42;go_loud (refine (HWi.out _).mono ?_;rintro e w3 ⟨rfl,rfl⟩))
      | (go_at_call 85;go_loud ((with_reducible refine (HNu.out _ (HR2.out.kept (World.grownBy_alloc _ _ none))).mono ?_);unfold NumPost;rintro e w3 ⟨hg3,p,m,c',rfl,hmc,hmc2,hpc,hfv,hfr,hcase⟩;obtain ⟨⟨b0,b1,b2,b3⟩,bf,bz,G03⟩:=HBx.out _ hg3;obtain ⟨⟨r0,r1,r2,r3⟩,rf,hz1,G3⟩:=HC.out _ G03;have rf0:=rf 0;have rf1:=rf 1;have rf2:=rf 2;have rf3:=rf 3;have bf2:=bf 2;obtain ⟨hl3,rfl,hr3⟩ | ⟨hl3,_,hr3⟩:=hcase;rotate_left;exact absurd hl3 (by have:=HSh.out;omega);have c2:=hr3.c2;have c1:=hr3.c1;have f2:=hr3.fz 2;have HR3:=Lib.hid hr3;have HFV:=Lib.hid hfv;obtain ⟨a,rfl⟩:=hfv.some_ (by omega);have x0:=hfv.at_ a rfl 0 (by omega);have x1:=hfv.at_ a rfl 1 (by omega);clear hfv hr3)))
    have hi0:(0:Int)<(m:Int):=by omega
    have hi1:(1:Int)<(m:Int):=by omega
    have hi2:0<m:=by omega
    have hi3:1<m:=by omega
    have hab:w2.heap.size<a.block:=by have:=(hfr a rfl).1;simp at this;omega
    have e0:a.add 0=a:=by simp [Addr.add]
    have e1:a.add 1=⟨a.block,a.off+1,none⟩:=by simp [Addr.add]
    rw [e0] at x0
    rw [e1] at x1
    have y0:(w3.setCell ⟨w2.heap.size,2,none⟩ (.slice (some a) m c')).drew.cell? a=some (.float .f64 (fIn big l2 0)):=by rw [World.cell?_drew,World.cell?_setCell_other (h:=fun e=>by have e9:=congrArg Addr.block e;simp at e9;omega)];exact x0
    have y1:(w3.setCell ⟨w2.heap.size,2,none⟩ (.slice (some a) m c')).drew.cell? ⟨a.block,a.off+1,none⟩=some (.float .f64 (fIn big l2 1)):=by rw [World.cell?_drew,World.cell?_setCell_other (h:=fun e=>by injection e with e;omega)];exact x1
    clear x0 x1 e0 e1
    obtain ⟨nx,hnx⟩ : ∃ nx,nx=fIn big l2 0:=⟨_,rfl⟩
    obtain ⟨ny,hny⟩ : ∃ ny,ny=fIn big l2 1:=⟨_,rfl⟩
    rw [←hnx] at y0 hn0
    rw [←hny] at y1 hn1
    have HNx:=Lib.hid hnx
    have HNy:=Lib.hid hny
    clear hnx hny
    have haW:W.heap.size<a.block:=by omega
    have harb:a.block≠rb:=by omega
    have hab3:=(hfr a rfl).2
    have hz9:¬ w2.heap.size=W.heap.size:=by omega
    have honx:FloatKind.f64.format.order nx nx=some Ordering.eq:=by unfold nanB at hn0;simpa using hn0
    have hpnx:(FloatKind.f64.format.order nx nx != some Ordering.eq)=false:=hn0
    have hony:FloatKind.f64.format.order ny ny=some Ordering.eq:=by unfold nanB at hn1;simpa using hn1
    have hpny:(FloatKind.f64.format.order ny ny != some Ordering.eq)=false:=hn1
    go_region
    all_goals
      go_wp2_with fail
      refine bodyPost_ret (by simp [results,Tryz.results36,go_sem,r0,r1,r2,r3,hz1,hz2,hz9];try rfl) rfl ?_
      have hV:=HW.out.2
      have hL0:LF V W w3 rb (l2.drop (8*m)) any false false (some a) m (fIn big l2):=⟨⟨G3,HR3.out⟩,HFV.out⟩
      have hL1:=(((((hL0.put ⟨w2.heap.size,2,none⟩ (.slice (some a) m c') hV (Nat.le_of_lt hz2) (fun a' e=>by injection e with e;subst e;simp;omega)).put ⟨W.heap.size,0,none⟩ (.int .i64 1) hV (Nat.le_refl _) (fun a' e=>by injection e with e;subst e;simp;omega)).put ⟨W.heap.size,1,none⟩ (.int .i64 dm) hV (Nat.le_refl _) (fun a' e=>by injection e with e;subst e;simp;omega)).put ⟨W.heap.size,2,none⟩ (.slice (some a) m c') hV (Nat.le_refl _) (fun a' e=>by injection e with e;subst e;simp;omega)).put ⟨W.heap.size,3,none⟩ (.slice none 0 0) hV (Nat.le_refl _) (fun a' e=>by injection e with e;subst e;simp;omega)).drew
      have hrd:(rdF m big l2).bind (fun ns l3=>rdPt any dm ns l3)=rdPt any dm (numsOf big m l2) (l2.drop (8*m)):=by unfold rdF;rw [if_neg (by have:=HSh.out;omega)];rfl
      have e0:fOf (numsOf big m l2) 0=nx:=by rw [HNx.out,←fIn_eq big m l2 (HSh.out) 0 (by omega)]
      have e1:fOf (numsOf big m l2) 1=ny:=by rw [HNy.out,←fIn_eq big m l2 (HSh.out) 1 (by omega)]
      rw [hrd]
      unfold rdPt
      rw [e0,e1,hn0,hn1,←HWD.out]
      have hL2:LF V W _ rb (l2.drop (8*m)) any false false (some a) m (fOf (numsOf big m l2)):=⟨hL1.s,hL1.f.anyf (fun i hi=>fIn_eq big m l2 HSh.out i hi) (fOf_lt big m l2)⟩
      exact hL2.ok h 1 dm c' len _ hmc hmc2 hpc (fun a' e=>by injection e with e;subst e;simp [World.setCell];omega) rfl
theorem gp_both (h:Nat) (V W:World) (rb o c dm:Nat) (any:Bool) (big:Bool) (kind:Int) (len:Nat) (l1 l2:List UInt8) (HW:Hid (rb<W.heap.size∧V.heap.size≤W.heap.size)) (hob:((o:Int)==0)=big) (hcm:(c:Int) % 1000=1) (hcd:(c:Int) / 1000=(dm:Int)) (hcm2:c % 1000=1) (hcd2:c / 1000=dm) (hwd:wrap64 (dm:Int)=(dm:Int)) (hwc:IntKind.i64.wrap (c:Int)=(c:Int)) (t1:¬ (1:Int)<(o:Int)) (t4:¬ (3:Int)<(dm:Int)) (hkd:KdOk 1 kind any) (hsh:8*widN dm≤l2.length) (hlen:l2.length+5≤len) (hn0:nanB (fIn big l2 0)=true) (hn1:nanB (fIn big l2 1)=true)
    (H1:Hid (Calls Tryz.prog 84 #[.pointer (some ⟨rb,0,none⟩),.int .i64 1,.bool false] (W.alloc (.cells #[.int .i64 0,.int .i64 0,.slice none 0 0,.slice none 0 0] 33)) fun e w'=>e=.returned (.int .u64 o)∧RS V w' rb l1 any false false∧(W.alloc (.cells #[.int .i64 0,.int .i64 0,.slice none 0 0,.slice none 0 0] 33)).grownBy w' (some rb)))
    (H2:Hid (∀ w,RS V w rb l1 any false false→Calls Tryz.prog 84 #[.pointer (some ⟨rb,0,none⟩),.int .i64 4,.bool big] w fun e w'=>e=.returned (.int .u64 c)∧RS V w' rb l2 any false false∧w.grownBy w' (some rb))) :
    Calls Tryz.prog 36 #[.pointer (some ⟨rb,0,none⟩),.int .i64 kind] W (GPost (h+1) V W rb any ((rdF (widN dm) big l2).bind fun ns l3=>rdPt any dm ns l3) len):=by
  rcases hkd with t6 | rfl | ⟨t6,t7,t8,t9,hany⟩
  all_goals
    have HC:=Lib.hid (geom_box W rb HW.out.1)
    have hrW:=HW.out.1
    have hd4:dm<4:=by omega
    have hw2:=widN_le dm hd4
    have HWi:=Lib.hid (fun w=>Width_any dm hd4 w)
    have HNu:=Lib.hid (fun w (hr:RS V w rb l2 any false false)=>nums_any V w rb (widN dm) any big l2 (by omega) hr)
    obtain ⟨wd,hwdd⟩ : ∃ wd,wd=widN dm:=⟨_,rfl⟩
    rw [←hwdd] at HWi HNu hw2 ⊢
    have HSh:=Lib.hid hsh
    rw [←hwdd] at HSh
    have HWD:=Lib.hid hwdd
    clear hwdd
    go_enter Tryz.func36,Tryz.ntmps36
    go_wp2_with (first
      | (go_at_call 84;(with_reducible refine H1.out.mono ?_);rintro e w1 ⟨rfl,hr1,hg1⟩;have HR1:=Lib.hid hr1;clear hr1))
    go_at_call 84
    with_reducible refine (H2.out _ HR1.out).mono ?_
    rintro e w2 ⟨rfl,hr2,hg2⟩
    have HR2:=Lib.hid hr2
    have g12:=gt_trans hg1 hg2 (.inl rfl)
    have hc1:=hr2.c1
    have hc2:=hr2.c2
    have hrl:=hr2.lt
    clear hr2
    simp only []
    go_at_K
    have HBx:Hid (∀ w3,(w2.alloc (.cells #[.int .i64 1,.int .i64 dm,.slice none 0 0,.slice none 0 0] 33)).grownBy w3 (some rb)→(w3.cell? ⟨w2.heap.size,0,none⟩=some (.int .i64 1)∧w3.cell? ⟨w2.heap.size,1,none⟩=some (.int .i64 dm)∧w3.cell? ⟨w2.heap.size,2,none⟩=some (.slice none 0 0)∧w3.cell? ⟨w2.heap.size,3,none⟩=some (.slice none 0 0))∧(∀ j,w3.frozen? ⟨w2.heap.size,j,none⟩=false)∧w2.heap.size<w3.heap.size∧(W.alloc (.cells #[.int .i64 0,.int .i64 0,.slice none 0 0,.slice none 0 0] 33)).grownBy w3 (some rb)):=fun w3 g=>by
      have hn:some w2.heap.size≠some rb:=fun e=>by injection e with e;omega
      have hb:=g.block w2.heap.size (by simp) hn
      have hs:=g.size
      simp at hs
      exact ⟨⟨g.cell (by simp) hn,g.cell (by simp) hn,g.cell (by simp) hn,g.cell (by simp) hn⟩,fun j=>by rw [World.frozen?_of_block hb];simp,by omega,gt_trans (gt_trans g12 (World.grownBy_alloc w2 (.cells #[.int .i64 1,.int .i64 dm,.slice none 0 0,.slice none 0 0] 33) none) (.inr (.inl rfl))) g (.inl rfl)⟩
    have hz2:W.heap.size<w2.heap.size:=by have:=g12.size;simp at this;omega
    go_wp2_with (first
      | (go_at_call 42;go_loud (refine (HWi.out _).mono ?_;rintro e w3 ⟨rfl,rfl⟩))
      | (go_at_call 85;go_loud ((with_reducible refine (HNu.out _ (HR2.out.kept (World.grownBy_alloc _ _ none))).mono ?_);unfold NumPost;rintro e w3 ⟨hg3,p,m,c',rfl,hmc,hmc2,hpc,hfv,hfr,hcase⟩;obtain ⟨⟨b0,b1,b2,b3⟩,bf,bz,G03⟩:=HBx.out _ hg3;obtain ⟨⟨r0,r1,r2,r3⟩,rf,hz1,G3⟩:=HC.out _ G03;have rf0:=rf 0;have rf1:=rf 1;have rf2:=rf 2;have rf3:=rf 3;have bf2:=bf 2;obtain ⟨hl3,rfl,hr3⟩ | ⟨hl3,_,hr3⟩:=hcase;rotate_left;exact absurd hl3 (by have:=HSh.out;omega);have c2:=hr3.c2;have c1:=hr3.c1;have f2:=hr3.fz 2;have HR3:=Lib.hid hr3;have HFV:=Lib.hid hfv;obtain ⟨a,rfl⟩:=hfv.some_ (by omega);have x0:=hfv.at_ a rfl 0 (by omega);have x1:=hfv.at_ a rfl 1 (by omega);clear hfv hr3)))
    have hi0:(0:Int)<(m:Int):=by omega
    have hi1:(1:Int)<(m:Int):=by omega
    have hi2:0<m:=by omega
    have hi3:1<m:=by omega
    have hab:w2.heap.size<a.block:=by have:=(hfr a rfl).1;simp at this;omega
    have e0:a.add 0=a:=by simp [Addr.add]
    have e1:a.add 1=⟨a.block,a.off+1,none⟩:=by simp [Addr.add]
    rw [e0] at x0
    rw [e1] at x1
    have y0:(w3.setCell ⟨w2.heap.size,2,none⟩ (.slice (some a) m c')).drew.cell? a=some (.float .f64 (fIn big l2 0)):=by rw [World.cell?_drew,World.cell?_setCell_other (h:=fun e=>by have e9:=congrArg Addr.block e;simp at e9;omega)];exact x0
    have y1:(w3.setCell ⟨w2.heap.size,2,none⟩ (.slice (some a) m c')).drew.cell? ⟨a.block,a.off+1,none⟩=some (.float .f64 (fIn big l2 1)):=by rw [World.cell?_drew,World.cell?_setCell_other (h:=fun e=>by injection e with e;omega)];exact x1
    clear x0 x1 e0 e1
    obtain ⟨nx,hnx⟩ : ∃ nx,nx=fIn big l2 0:=⟨_,rfl⟩
    obtain ⟨ny,hny⟩ : ∃ ny,ny=fIn big l2 1:=⟨_,rfl⟩
    rw [←hnx] at y0 hn0
    rw [←hny] at y1 hn1
    have HNx:=Lib.hid hnx
    have HNy:=Lib.hid hny
    clear hnx hny
    have haW:W.heap.size<a.block:=by omega
    have harb:a.block≠rb:=by omega
    have hab3:=(hfr a rfl).2
    have hz9:¬ w2.heap.size=W.heap.size:=by omega
    have honx:¬ FloatKind.f64.format.order nx nx=some Ordering.eq:=by unfold nanB at hn0;simpa using hn0
    have hpnx:(FloatKind.f64.format.order nx nx != some Ordering.eq)=true:=hn0
    have hony:¬ FloatKind.f64.format.order ny ny=some Ordering.eq:=by unfold nanB at hn1;simpa using hn1
    have hpny:(FloatKind.f64.format.order ny ny != some Ordering.eq)=true:=hn1
    go_region
    all_goals
      go_wp2_with fail
      refine bodyPost_ret (by simp [results,Tryz.results36,go_sem,r0,r1,r2,r3,hz1,hz2,hz9];try rfl) rfl ?_
      have hV:=HW.out.2
      have hL0:LF V W w3 rb (l2.drop (8*m)) any false false (some a) m (fIn big l2):=⟨⟨G3,HR3.out⟩,HFV.out⟩
      have hL1:=((((((hL0.put ⟨w2.heap.size,2,none⟩ (.slice (some a) m c') hV (Nat.le_of_lt hz2) (fun a' e=>by injection e with e;subst e;simp;omega)).put ⟨w2.heap.size,2,none⟩ (.slice none 0 0) hV (Nat.le_of_lt hz2) (fun a' e=>by injection e with e;subst e;simp;omega)).put ⟨W.heap.size,0,none⟩ (.int .i64 1) hV (Nat.le_refl _) (fun a' e=>by injection e with e;subst e;simp;omega)).put ⟨W.heap.size,1,none⟩ (.int .i64 dm) hV (Nat.le_refl _) (fun a' e=>by injection e with e;subst e;simp;omega)).put ⟨W.heap.size,2,none⟩ (.slice none 0 0) hV (Nat.le_refl _) (fun a' e=>by injection e with e;subst e;simp;omega)).put ⟨W.heap.size,3,none⟩ (.slice none 0 0) hV (Nat.le_refl _) (fun a' e=>by injection e with e;subst e;simp;omega)).drew
      have hrd:(rdF m big l2).bind (fun ns l3=>rdPt any dm ns l3)=rdPt any dm (numsOf big m l2) (l2.drop (8*m)):=by unfold rdF;rw [if_neg (by have:=HSh.out;omega)];rfl
      have e0:fOf (numsOf big m l2) 0=nx:=by rw [HNx.out,←fIn_eq big m l2 (HSh.out) 0 (by omega)]
      have e1:fOf (numsOf big m l2) 1=ny:=by rw [HNy.out,←fIn_eq big m l2 (HSh.out) 1 (by omega)]
      rw [hrd]
      unfold rdPt
      rw [e0,e1,hn0,hn1,←HWD.out]
      have hL2:LF V W _ rb (l2.drop (8*m)) any false false none 0 (fOf (numsOf big m l2)):=⟨hL1.s,⟨fun h=>absurd h (by omega),(fun a ha=>by cases ha),fun i=>fOf_lt big m l2 i⟩⟩
      exact hL2.ok h 1 dm 0 len _ (Nat.le_refl _) (by decide) (fun _=>rfl) (fun a ha=>by cases ha) rfl
theorem gp_xyT (h:Nat) (V W:World) (rb o c dm:Nat) (big:Bool) (kind:Int) (len:Nat) (l1 l2:List UInt8) (HW:Hid (rb<W.heap.size∧V.heap.size≤W.heap.size)) (hob:((o:Int)==0)=big) (hcm:(c:Int) % 1000=1) (hcd:(c:Int) / 1000=(dm:Int)) (hcm2:c % 1000=1) (hcd2:c / 1000=dm) (hwd:wrap64 (dm:Int)=(dm:Int)) (hwc:IntKind.i64.wrap (c:Int)=(c:Int)) (t1:¬ (1:Int)<(o:Int)) (t4:¬ (3:Int)<(dm:Int)) (hkd:KdOk 1 kind true) (hsh:8*widN dm≤l2.length) (hlen:l2.length+5≤len) (hn0:nanB (fIn big l2 0)=true) (hn1:nanB (fIn big l2 1)=false)
    (H1:Hid (Calls Tryz.prog 84 #[.pointer (some ⟨rb,0,none⟩),.int .i64 1,.bool false] (W.alloc (.cells #[.int .i64 0,.int .i64 0,.slice none 0 0,.slice none 0 0] 33)) fun e w'=>e=.returned (.int .u64 o)∧RS V w' rb l1 true false false∧(W.alloc (.cells #[.int .i64 0,.int .i64 0,.slice none 0 0,.slice none 0 0] 33)).grownBy w' (some rb)))
    (H2:Hid (∀ w,RS V w rb l1 true false false→Calls Tryz.prog 84 #[.pointer (some ⟨rb,0,none⟩),.int .i64 4,.bool big] w fun e w'=>e=.returned (.int .u64 c)∧RS V w' rb l2 true false false∧w.grownBy w' (some rb))) :
    Calls Tryz.prog 36 #[.pointer (some ⟨rb,0,none⟩),.int .i64 kind] W (GPost (h+1) V W rb true ((rdF (widN dm) big l2).bind fun ns l3=>rdPt true dm ns l3) len):=by
  rcases hkd with t6 | rfl | ⟨t6,t7,t8,t9,_⟩
  all_goals
    have HC:=Lib.hid (geom_box W rb HW.out.1)
    have hrW:=HW.out.1
    have hd4:dm<4:=by omega
    have hw2:=widN_le dm hd4
    have HWi:=Lib.hid (fun w=>Width_any dm hd4 w)
    have HNu:=Lib.hid (fun w (hr:RS V w rb l2 true false false)=>nums_any V w rb (widN dm) true big l2 (by omega) hr)
    obtain ⟨wd,hwdd⟩ : ∃ wd,wd=widN dm:=⟨_,rfl⟩
    rw [←hwdd] at HWi HNu hw2 ⊢
    have HSh:=Lib.hid hsh
    rw [←hwdd] at HSh
    have HWD:=Lib.hid hwdd
    clear hwdd
    go_enter Tryz.func36,Tryz.ntmps36
    go_wp2_with (first
      | (go_at_call 84;(with_reducible refine H1.out.mono ?_);rintro e w1 ⟨rfl,hr1,hg1⟩;have HR1:=Lib.hid hr1;clear hr1))
    go_at_call 84
    with_reducible refine (H2.out _ HR1.out).mono ?_
    rintro e w2 ⟨rfl,hr2,hg2⟩
    have HR2:=Lib.hid hr2
    have g12:=gt_trans hg1 hg2 (.inl rfl)
    have hc1:=hr2.c1
    have hc2:=hr2.c2
    have hrl:=hr2.lt
    clear hr2
    simp only []
    go_at_K
    have HBx:Hid (∀ w3,(w2.alloc (.cells #[.int .i64 1,.int .i64 dm,.slice none 0 0,.slice none 0 0] 33)).grownBy w3 (some rb)→(w3.cell? ⟨w2.heap.size,0,none⟩=some (.int .i64 1)∧w3.cell? ⟨w2.heap.size,1,none⟩=some (.int .i64 dm)∧w3.cell? ⟨w2.heap.size,2,none⟩=some (.slice none 0 0)∧w3.cell? ⟨w2.heap.size,3,none⟩=some (.slice none 0 0))∧(∀ j,w3.frozen? ⟨w2.heap.size,j,none⟩=false)∧w2.heap.size<w3.heap.size∧(W.alloc (.cells #[.int .i64 0,.int .i64 0,.slice none 0 0,.slice none 0 0] 33)).grownBy w3 (some rb)):=fun w3 g=>by
      have hn:some w2.heap.size≠some rb:=fun e=>by injection e with e;omega
      have hb:=g.block w2.heap.size (by simp) hn
      have hs:=g.size
      simp at hs
      exact ⟨⟨g.cell (by simp) hn,g.cell (by simp) hn,g.cell (by simp) hn,g.cell (by simp) hn⟩,fun j=>by rw [World.frozen?_of_block hb];simp,by omega,gt_trans (gt_trans g12 (World.grownBy_alloc w2 (.cells #[.int .i64 1,.int .i64 dm,.slice none 0 0,.slice none 0 0] 33) none) (.inr (.inl rfl))) g (.inl rfl)⟩
    have hz2:W.heap.size<w2.heap.size:=by have:=g12.size;simp at this;omega
    go_wp2_with (first
      | (go_at_call 42;go_loud (refine (HWi.out _).mono ?_;rintro e w3 ⟨rfl,rfl⟩))
      | (go_at_call 85;go_loud ((with_reducible refine (HNu.out _ (HR2.out.kept (World.grownBy_alloc _ _ none))).mono ?_);unfold NumPost;rintro e w3 ⟨hg3,p,m,c',rfl,hmc,hmc2,hpc,hfv,hfr,hcase⟩;obtain ⟨⟨b0,b1,b2,b3⟩,bf,bz,G03⟩:=HBx.out _ hg3;obtain ⟨⟨r0,r1,r2,r3⟩,rf,hz1,G3⟩:=HC.out _ G03;have rf0:=rf 0;have rf1:=rf 1;have rf2:=rf 2;have rf3:=rf 3;have bf2:=bf 2;obtain ⟨hl3,rfl,hr3⟩ | ⟨hl3,_,hr3⟩:=hcase;rotate_left;exact absurd hl3 (by have:=HSh.out;omega);have c2:=hr3.c2;have c1:=hr3.c1;have f2:=hr3.fz 2;have HR3:=Lib.hid hr3;have HFV:=Lib.hid hfv;obtain ⟨a,rfl⟩:=hfv.some_ (by omega);have x0:=hfv.at_ a rfl 0 (by omega);have x1:=hfv.at_ a rfl 1 (by omega);clear hfv hr3)))
    have hi0:(0:Int)<(m:Int):=by omega
    have hi1:(1:Int)<(m:Int):=by omega
    have hi2:0<m:=by omega
    have hi3:1<m:=by omega
    have hab:w2.heap.size<a.block:=by have:=(hfr a rfl).1;simp at this;omega
    have e0:a.add 0=a:=by simp [Addr.add]
    have e1:a.add 1=⟨a.block,a.off+1,none⟩:=by simp [Addr.add]
    rw [e0] at x0
    rw [e1] at x1
    have y0:(w3.setCell ⟨w2.heap.size,2,none⟩ (.slice (some a) m c')).drew.cell? a=some (.float .f64 (fIn big l2 0)):=by rw [World.cell?_drew,World.cell?_setCell_other (h:=fun e=>by have e9:=congrArg Addr.block e;simp at e9;omega)];exact x0
    have y1:(w3.setCell ⟨w2.heap.size,2,none⟩ (.slice (some a) m c')).drew.cell? ⟨a.block,a.off+1,none⟩=some (.float .f64 (fIn big l2 1)):=by rw [World.cell?_drew,World.cell?_setCell_other (h:=fun e=>by injection e with e;omega)];exact x1
    clear x0 x1 e0 e1
    obtain ⟨nx,hnx⟩ : ∃ nx,nx=fIn big l2 0:=⟨_,rfl⟩
    obtain ⟨ny,hny⟩ : ∃ ny,ny=fIn big l2 1:=⟨_,rfl⟩
    rw [←hnx] at y0 hn0
    rw [←hny] at y1 hn1
    have HNx:=Lib.hid hnx
    have HNy:=Lib.hid hny
    clear hnx hny
    have haW:W.heap.size<a.block:=by omega
    have harb:a.block≠rb:=by omega
    have hab3:=(hfr a rfl).2
    have hz9:¬ w2.heap.size=W.heap.size:=by omega
    have honx:¬ FloatKind.f64.format.order nx nx=some Ordering.eq:=by unfold nanB at hn0;simpa using hn0
    have hpnx:(FloatKind.f64.format.order nx nx != some Ordering.eq)=true:=hn0
    have hony:FloatKind.f64.format.order ny ny=some Ordering.eq:=by unfold nanB at hn1;simpa using hn1
    have hpny:(FloatKind.f64.format.order ny ny != some Ordering.eq)=false:=hn1
    go_region
    all_goals
      go_wp2_with fail
      refine bodyPost_ret (by simp [results,Tryz.results36,go_sem,r0,r1,r2,r3,hz1,hz2,hz9];try rfl) rfl ?_
      have hV:=HW.out.2
      have hL0:LF V W w3 rb (l2.drop (8*m)) true false false (some a) m (fIn big l2):=⟨⟨G3,HR3.out⟩,HFV.out⟩
      have hL1:=(((((hL0.put ⟨w2.heap.size,2,none⟩ (.slice (some a) m c') hV (Nat.le_of_lt hz2) (fun a' e=>by injection e with e;subst e;simp;omega)).put ⟨W.heap.size,0,none⟩ (.int .i64 1) hV (Nat.le_refl _) (fun a' e=>by injection e with e;subst e;simp;omega)).put ⟨W.heap.size,1,none⟩ (.int .i64 dm) hV (Nat.le_refl _) (fun a' e=>by injection e with e;subst e;simp;omega)).put ⟨W.heap.size,2,none⟩ (.slice (some a) m c') hV (Nat.le_refl _) (fun a' e=>by injection e with e;subst e;simp;omega)).put ⟨W.heap.size,3,none⟩ (.slice none 0 0) hV (Nat.le_refl _) (fun a' e=>by injection e with e;subst e;simp;omega)).drew
      have hrd:(rdF m big l2).bind (fun ns l3=>rdPt true dm ns l3)=rdPt true dm (numsOf big m l2) (l2.drop (8*m)):=by unfold rdF;rw [if_neg (by have:=HSh.out;omega)];rfl
      have e0:fOf (numsOf big m l2) 0=nx:=by rw [HNx.out,←fIn_eq big m l2 (HSh.out) 0 (by omega)]
      have e1:fOf (numsOf big m l2) 1=ny:=by rw [HNy.out,←fIn_eq big m l2 (HSh.out) 1 (by omega)]
      rw [hrd]
      unfold rdPt
      rw [e0,e1,hn0,hn1,←HWD.out]
      have hL2:LF V W _ rb (l2.drop (8*m)) true false false (some a) m (fOf (numsOf big m l2)):=⟨hL1.s,hL1.f.anyf (fun i hi=>fIn_eq big m l2 HSh.out i hi) (fOf_lt big m l2)⟩
      exact hL2.ok h 1 dm c' len _ hmc hmc2 hpc (fun a' e=>by injection e with e;subst e;simp [World.setCell];omega) rfl
end
end Go.Proofs.YtlpaecafpbbbkaaGreatDoor
