/- The reference's reader of well known binary: lines. -/
import Derived.RegionTactic
import Derived.Deep.RegionLaw
import Derived.Test.YtlpaecafpbbbkaaGreatDoorBYT33
set_option linter.unusedVariables false
set_option linter.unusedSimpArgs false
set_option maxRecDepth 100000
set_option maxHeartbeats 24000000
namespace Go.Proofs.YtlpaecafpbbbkaaGreatDoor
section
open Go.RowKit
theorem gl_bad (h:Nat) (V W:World) (rb o c dm:Nat) (any:Bool) (big:Bool) (kind:Int) (len:Nat) (l1 l2:List UInt8) (HW:Hid (rb<W.heap.size∧V.heap.size≤W.heap.size)) (hob:((o:Int)==0)=big) (hcm:(c:Int) % 1000=2) (hcd:(c:Int) / 1000=(dm:Int)) (hcm2:c % 1000=2) (hcd2:c / 1000=dm) (hwd:wrap64 (dm:Int)=(dm:Int)) (hwc:IntKind.i64.wrap (c:Int)=(c:Int)) (t1:¬ (1:Int)<(o:Int)) (t4:¬ (3:Int)<(dm:Int)) (hkd:KdOk 2 kind any) (gr:Bool) (hcnt:rdC big l2=.bad gr) (hlen:l2.length+5≤len)
    (H1:Hid (Calls Tryz.prog 84 #[.pointer (some ⟨rb,0,none⟩),.int .i64 1,.bool false] (W.alloc (.cells #[.int .i64 0,.int .i64 0,.slice none 0 0,.slice none 0 0] 33)) fun e w'=>e=.returned (.int .u64 o)∧RS V w' rb l1 any false false∧(W.alloc (.cells #[.int .i64 0,.int .i64 0,.slice none 0 0,.slice none 0 0] 33)).grownBy w' (some rb)))
    (H2:Hid (∀ w,RS V w rb l1 any false false→Calls Tryz.prog 84 #[.pointer (some ⟨rb,0,none⟩),.int .i64 4,.bool big] w fun e w'=>e=.returned (.int .u64 c)∧RS V w' rb l2 any false false∧w.grownBy w' (some rb))) :
    Calls Tryz.prog 36 #[.pointer (some ⟨rb,0,none⟩),.int .i64 kind] W (GPost (h+1) V W rb any (rdLine dm big l2) len):=by
  rcases hkd with t6 | rfl | ⟨t6,t7,t8,t9,hany⟩
  all_goals
    have HC:=Lib.hid (geom_box W rb HW.out.1)
    have hrW:=HW.out.1
    have hd4:dm<4:=by omega
    have hw2:=widN_le dm hd4
    have HWi:=Lib.hid (fun w=>Width_any dm hd4 w)
    have HCn:=Lib.hid (fun w (hr:RS V w rb l2 any false false)=>(by have h:=count_any V w rb any big l2 hr;rw [hcnt] at h;exact h.mono fun e w' ⟨hg,he,hl⟩=>⟨he,hl,hg⟩ : Calls Tryz.prog 86 #[.pointer (some ⟨rb,0,none⟩),.bool big] w fun e w'=>e=.returned (.int .i64 0)∧(∃ l,RS V w' rb l any true gr)∧w.grownBy w' (some rb)))
    have HCnt:=Lib.hid hcnt
    clear hcnt
    obtain ⟨wd,hwdd⟩ : ∃ wd,wd=widN dm:=⟨_,rfl⟩
    have HWD:=Lib.hid hwdd
    have hw0:IntKind.i64.wrap 0=0:=by decide
    have HNu:=Lib.hid (fun w l' (hr:RS V w rb l' any true gr)=>nums_badz V w rb any big gr l' hr)
    rw [←hwdd] at HWi hw2
    clear hwdd
    go_enter Tryz.func36,Tryz.ntmps36
    go_wp2_with (first
      | (go_at_call 84;(with_reducible refine H1.out.mono ?_);rintro e w1 ⟨rfl,hr1,hg1⟩;have HR1:=Lib.hid hr1;clear hr1))
    go_at_call 84
    with_reducible refine (H2.out _ HR1.out).mono ?_
    rintro e w2 ⟨rfl,hr2,hg2⟩
    have HR2:=Lib.hid hr2
    have g12:=gt_trans hg1 hg2 (.inl rfl)
    have hc1:=hr2.c1
    have hc2:=hr2.c2
    have hrl:=hr2.lt
    clear hr2
    simp only []
    go_at_K
    have HBx:Hid (∀ w3,(w2.alloc (.cells #[.int .i64 2,.int .i64 dm,.slice none 0 0,.slice none 0 0] 33)).grownBy w3 (some rb)→(w3.cell? ⟨w2.heap.size,0,none⟩=some (.int .i64 2)∧w3.cell? ⟨w2.heap.size,1,none⟩=some (.int .i64 dm)∧w3.cell? ⟨w2.heap.size,2,none⟩=some (.slice none 0 0)∧w3.cell? ⟨w2.heap.size,3,none⟩=some (.slice none 0 0))∧(∀ j,w3.frozen? ⟨w2.heap.size,j,none⟩=false)∧w2.heap.size<w3.heap.size∧(W.alloc (.cells #[.int .i64 0,.int .i64 0,.slice none 0 0,.slice none 0 0] 33)).grownBy w3 (some rb)):=fun w3 g=>by
      have hn:some w2.heap.size≠some rb:=fun e=>by injection e with e;omega
      have hb:=g.block w2.heap.size (by simp) hn
      have hs:=g.size
      simp at hs
      exact ⟨⟨g.cell (by simp) hn,g.cell (by simp) hn,g.cell (by simp) hn,g.cell (by simp) hn⟩,fun j=>by rw [World.frozen?_of_block hb];simp,by omega,gt_trans (gt_trans g12 (World.grownBy_alloc w2 (.cells #[.int .i64 2,.int .i64 dm,.slice none 0 0,.slice none 0 0] 33) none) (.inr (.inl rfl))) g (.inl rfl)⟩
    have hz2:W.heap.size<w2.heap.size:=by have:=g12.size;simp at this;omega
    have hz9:¬ w2.heap.size=W.heap.size:=by omega
    go_wp2_with fail
    have hgd:w2.grownBy (w2.alloc (.cells #[.int .i64 2,.int .i64 dm,.slice none 0 0,.slice none 0 0] 33)).drew none:=gt_drew_r (World.grownBy_alloc w2 _ none)
    have hgd2:(w2.alloc (.cells #[.int .i64 2,.int .i64 dm,.slice none 0 0,.slice none 0 0] 33)).grownBy (w2.alloc (.cells #[.int .i64 2,.int .i64 dm,.slice none 0 0,.slice none 0 0] 33)).drew (some rb):=gt_drew_r (gt_refl _ _)
    go_region_law (first
      | (rw [if_pos (by simp [Region.wanted])];go_simp;go_at_call 86;go_loud ((with_reducible refine (HCn.out _ (HR2.out.kept hgd)).mono ?_);rintro e w3 ⟨rfl,⟨l',hr3⟩,hg3⟩;have HR3:=Lib.hid hr3;clear hr3;obtain ⟨⟨b0,b1,b2,b3⟩,bf,bz,G03⟩:=HBx.out _ (gt_trans hgd2 hg3 (.inl rfl));obtain ⟨⟨r0,r1,r2,r3⟩,rf,hz1,G3⟩:=HC.out _ G03;have rf0:=rf 0;have rf1:=rf 1;have rf2:=rf 2;have rf3:=rf 3;have bf2:=bf 2))
      | (rw [if_pos (by simp [Region.wanted])];go_simp;go_at_call 42;go_loud (refine (HWi.out _).mono ?_;rintro e wx ⟨rfl,rfl⟩))
      | (rw [if_pos (by simp [Region.wanted])];go_simp;go_at_call 85;go_loud ((with_reducible refine (HNu.out _ _ HR3.out).mono ?_);rintro e w4 ⟨rfl,rfl⟩)))
    all_goals
      go_wp2_with fail
      refine bodyPost_ret (by simp [results,Tryz.results36,go_sem,r0,r1,r2,r3,hz1,hz2,hz9];try rfl) rfl ?_
      have hV:=HW.out.2
      have hL0:LF V W w4 rb l' any true gr none 0 (fun _=>0):=⟨⟨G3,HR3.out⟩,⟨fun h=>absurd h (by omega),(fun a ha=>by cases ha),fun _=>Nat.zero_lt_succ _⟩⟩
      have hL1:=(((((hL0.put ⟨w2.heap.size,2,none⟩ (.slice none 0 0) hV (Nat.le_of_lt hz2) (fun a' e=>by cases e)).put ⟨W.heap.size,0,none⟩ (.int .i64 2) hV (Nat.le_refl _) (fun a' e=>by cases e)).put ⟨W.heap.size,1,none⟩ (.int .i64 dm) hV (Nat.le_refl _) (fun a' e=>by cases e)).put ⟨W.heap.size,2,none⟩ (.slice none 0 0) hV (Nat.le_refl _) (fun a' e=>by cases e)).put ⟨W.heap.size,3,none⟩ (.slice none 0 0) hV (Nat.le_refl _) (fun a' e=>by cases e))
      have hrd:rdLine dm big l2=.bad gr:=by unfold rdLine;rw [HCnt.out];rfl
      rw [hrd]
      exact hL1.no h 2 dm 0 len (Nat.le_refl _) (by decide) (fun _=>rfl) (fun a ha=>by cases ha) (Nat.zero_le _)
theorem gl_ok (h:Nat) (V W:World) (rb o c dm:Nat) (any:Bool) (big:Bool) (kind:Int) (len:Nat) (l1 l2:List UInt8) (HW:Hid (rb<W.heap.size∧V.heap.size≤W.heap.size)) (hob:((o:Int)==0)=big) (hcm:(c:Int) % 1000=2) (hcd:(c:Int) / 1000=(dm:Int)) (hcm2:c % 1000=2) (hcd2:c / 1000=dm) (hwd:wrap64 (dm:Int)=(dm:Int)) (hwc:IntKind.i64.wrap (c:Int)=(c:Int)) (t1:¬ (1:Int)<(o:Int)) (t4:¬ (3:Int)<(dm:Int)) (hkd:KdOk 2 kind any) (cn:Nat) (l3:List UInt8) (hcnt:rdC big l2=.ok cn l3) (hcn:cn≤4096) (hsh:8*(cn*widN dm)≤l3.length) (hlen:l2.length+5≤len)
    (H1:Hid (Calls Tryz.prog 84 #[.pointer (some ⟨rb,0,none⟩),.int .i64 1,.bool false] (W.alloc (.cells #[.int .i64 0,.int .i64 0,.slice none 0 0,.slice none 0 0] 33)) fun e w'=>e=.returned (.int .u64 o)∧RS V w' rb l1 any false false∧(W.alloc (.cells #[.int .i64 0,.int .i64 0,.slice none 0 0,.slice none 0 0] 33)).grownBy w' (some rb)))
    (H2:Hid (∀ w,RS V w rb l1 any false false→Calls Tryz.prog 84 #[.pointer (some ⟨rb,0,none⟩),.int .i64 4,.bool big] w fun e w'=>e=.returned (.int .u64 c)∧RS V w' rb l2 any false false∧w.grownBy w' (some rb))) :
    Calls Tryz.prog 36 #[.pointer (some ⟨rb,0,none⟩),.int .i64 kind] W (GPost (h+1) V W rb any (rdLine dm big l2) len):=by
  rcases hkd with t6 | rfl | ⟨t6,t7,t8,t9,hany⟩
  all_goals
    have HC:=Lib.hid (geom_box W rb HW.out.1)
    have hrW:=HW.out.1
    have hd4:dm<4:=by omega
    have hw2:=widN_le dm hd4
    have HWi:=Lib.hid (fun w=>Width_any dm hd4 w)
    have HCn:=Lib.hid (fun w (hr:RS V w rb l2 any false false)=>(by have h:=count_any V w rb any big l2 hr;rw [hcnt] at h;exact h.mono fun e w' ⟨hg,he,hl⟩=>⟨he,hl,hg⟩ : Calls Tryz.prog 86 #[.pointer (some ⟨rb,0,none⟩),.bool big] w fun e w'=>e=.returned (.int .i64 cn)∧RS V w' rb l3 any false false∧w.grownBy w' (some rb)))
    have HCnt:=Lib.hid hcnt
    clear hcnt
    obtain ⟨wd,hwdd⟩ : ∃ wd,wd=widN dm:=⟨_,rfl⟩
    have HWD:=Lib.hid hwdd
    rw [←hwdd] at hsh
    obtain ⟨N,hN⟩ : ∃ N,N=cn*wd:=⟨_,rfl⟩
    have hN2:N≤20000:=by
      rw [hN]
      have:=Nat.mul_le_mul hcn (by omega:wd≤4)
      omega
    have hmul:IntKind.i64.wrap ((cn:Int)*(wd:Int))=(N:Int):=by rw [IntKind.wrap_i64,←Int.natCast_mul,←hN];omega
    have hmul3:(cn:Int)*(wd:Int)=(N:Int):=by rw [←Int.natCast_mul,←hN]
    have hmul4:IntKind.i64.wrap (N:Int)=(N:Int):=by rw [IntKind.wrap_i64];omega
    rw [←hN] at hsh
    have HSh:=Lib.hid hsh
    have HN:=Lib.hid hN
    clear hsh hN
    have HNu:=Lib.hid (fun w (hr:RS V w rb l3 any false false)=>nums_any V w rb N any big l3 hN2 hr)
    rw [←hwdd] at HWi hw2
    clear hwdd
    go_enter Tryz.func36,Tryz.ntmps36
    go_wp2_with (first
      | (go_at_call 84;(with_reducible refine H1.out.mono ?_);rintro e w1 ⟨rfl,hr1,hg1⟩;have HR1:=Lib.hid hr1;clear hr1))
    go_at_call 84
    with_reducible refine (H2.out _ HR1.out).mono ?_
    rintro e w2 ⟨rfl,hr2,hg2⟩
    have HR2:=Lib.hid hr2
    have g12:=gt_trans hg1 hg2 (.inl rfl)
    have hc1:=hr2.c1
    have hc2:=hr2.c2
    have hrl:=hr2.lt
    clear hr2
    simp only []
    go_at_K
    have HBx:Hid (∀ w3,(w2.alloc (.cells #[.int .i64 2,.int .i64 dm,.slice none 0 0,.slice none 0 0] 33)).grownBy w3 (some rb)→(w3.cell? ⟨w2.heap.size,0,none⟩=some (.int .i64 2)∧w3.cell? ⟨w2.heap.size,1,none⟩=some (.int .i64 dm)∧w3.cell? ⟨w2.heap.size,2,none⟩=some (.slice none 0 0)∧w3.cell? ⟨w2.heap.size,3,none⟩=some (.slice none 0 0))∧(∀ j,w3.frozen? ⟨w2.heap.size,j,none⟩=false)∧w2.heap.size<w3.heap.size∧(W.alloc (.cells #[.int .i64 0,.int .i64 0,.slice none 0 0,.slice none 0 0] 33)).grownBy w3 (some rb)):=fun w3 g=>by
      have hn:some w2.heap.size≠some rb:=fun e=>by injection e with e;omega
      have hb:=g.block w2.heap.size (by simp) hn
      have hs:=g.size
      simp at hs
      exact ⟨⟨g.cell (by simp) hn,g.cell (by simp) hn,g.cell (by simp) hn,g.cell (by simp) hn⟩,fun j=>by rw [World.frozen?_of_block hb];simp,by omega,gt_trans (gt_trans g12 (World.grownBy_alloc w2 (.cells #[.int .i64 2,.int .i64 dm,.slice none 0 0,.slice none 0 0] 33) none) (.inr (.inl rfl))) g (.inl rfl)⟩
    have hz2:W.heap.size<w2.heap.size:=by have:=g12.size;simp at this;omega
    have hz9:¬ w2.heap.size=W.heap.size:=by omega
    go_wp2_with fail
    have hgd:w2.grownBy (w2.alloc (.cells #[.int .i64 2,.int .i64 dm,.slice none 0 0,.slice none 0 0] 33)).drew none:=gt_drew_r (World.grownBy_alloc w2 _ none)
    have hgd2:(w2.alloc (.cells #[.int .i64 2,.int .i64 dm,.slice none 0 0,.slice none 0 0] 33)).grownBy (w2.alloc (.cells #[.int .i64 2,.int .i64 dm,.slice none 0 0,.slice none 0 0] 33)).drew (some rb):=gt_drew_r (gt_refl _ _)
    go_region_law (first
      | (rw [if_pos (by simp [Region.wanted])];go_simp;go_at_call 86;go_loud ((with_reducible refine (HCn.out _ (HR2.out.kept hgd)).mono ?_);rintro e w3 ⟨rfl,hr3,hg3⟩;have HR3:=Lib.hid hr3;clear hr3;obtain ⟨⟨q0,q1,q2,q3⟩,qf,qz,_⟩:=HBx.out _ (gt_trans hgd2 hg3 (.inl rfl));have g3:=gt_trans hgd2 hg3 (.inl rfl)))
      | (rw [if_pos (by simp [Region.wanted])];go_simp;go_at_call 42;go_loud (refine (HWi.out _).mono ?_;rintro e wx ⟨rfl,rfl⟩))
      | (rw [if_pos (by simp [Region.wanted])];go_simp;go_at_call 85;go_loud ((with_reducible refine (HNu.out _ HR3.out).mono ?_);unfold NumPost;rintro e w4 ⟨hg4,p,m,c',rfl,hmc,hmc2,hpc,hfv,hfr,hcase⟩;obtain ⟨⟨b0,b1,b2,b3⟩,bf,bz,G03⟩:=HBx.out _ (gt_trans g3 hg4 (.inl rfl));obtain ⟨⟨r0,r1,r2,r3⟩,rf,hz1,G3⟩:=HC.out _ G03;have rf0:=rf 0;have rf1:=rf 1;have rf2:=rf 2;have rf3:=rf 3;have bf2:=bf 2;have HL4:=Lib.hid (And.intro hfv hcase);have hs3:=(gt_trans hgd2 hg3 (.inl rfl)).size;clear hfv hcase)))
    all_goals
      go_wp2_with fail
      refine bodyPost_ret (by simp [results,Tryz.results36,go_sem,r0,r1,r2,r3,hz1,hz2,hz9];try rfl) rfl ?_
      have hV:=HW.out.2
      simp at hs3
      have hl3:=(rdC_len HCnt.out).1
      obtain ⟨hfv,hcase⟩:=HL4.out
      have hrd:rdLine dm big l2=(rdF N big l3).bind fun ns l4=>.ok (.mk 2 dm N (fOf ns) []) l4:=by unfold rdLine;rw [HCnt.out];show (rdF (cn*widN dm) big l3).bind _=_;rw [←HWD.out,←HN.out]
      rw [hrd]
      obtain ⟨_,hmN,hr4⟩ | ⟨h9,_⟩:=hcase
      rotate_left
      · exact absurd h9 (by have:=HSh.out;omega)
      subst hmN
      have hL0:LF V W w4 rb (l3.drop (8*m)) any false false p m (fIn big l3):=⟨⟨G3,hr4⟩,hfv⟩
      have hL1:=(((((hL0.put ⟨w2.heap.size,2,none⟩ (.slice p m c') hV (Nat.le_of_lt hz2) (fun a' e=>by have h9:=hfr a' e;simp;omega)).put ⟨W.heap.size,0,none⟩ (.int .i64 2) hV (Nat.le_refl _) (fun a' e=>by have h9:=hfr a' e;simp;omega)).put ⟨W.heap.size,1,none⟩ (.int .i64 dm) hV (Nat.le_refl _) (fun a' e=>by have h9:=hfr a' e;simp;omega)).put ⟨W.heap.size,2,none⟩ (.slice p m c') hV (Nat.le_refl _) (fun a' e=>by have h9:=hfr a' e;simp;omega)).put ⟨W.heap.size,3,none⟩ (.slice none 0 0) hV (Nat.le_refl _) (fun a' e=>by have h9:=hfr a' e;simp;omega))
      have hL2:LF V W _ rb (l3.drop (8*m)) any false false p m (fOf (numsOf big m l3)):=⟨hL1.s,hL1.f.anyf (fun i hi=>fIn_eq big m l3 HSh.out i hi) (fOf_lt big m l3)⟩
      have hrd2:rdF m big l3=.ok (numsOf big m l3) (l3.drop (8*m)):=by unfold rdF;rw [if_neg (by have:=HSh.out;omega)]
      rw [hrd2]
      exact hL2.ok h 2 dm c' len _ hmc hmc2 hpc (fun a' e=>by have h9:=hfr a' e;simp [World.setCell];omega) rfl
theorem gl_short (h:Nat) (V W:World) (rb o c dm:Nat) (any:Bool) (big:Bool) (kind:Int) (len:Nat) (l1 l2:List UInt8) (HW:Hid (rb<W.heap.size∧V.heap.size≤W.heap.size)) (hob:((o:Int)==0)=big) (hcm:(c:Int) % 1000=2) (hcd:(c:Int) / 1000=(dm:Int)) (hcm2:c % 1000=2) (hcd2:c / 1000=dm) (hwd:wrap64 (dm:Int)=(dm:Int)) (hwc:IntKind.i64.wrap (c:Int)=(c:Int)) (t1:¬ (1:Int)<(o:Int)) (t4:¬ (3:Int)<(dm:Int)) (hkd:KdOk 2 kind any) (cn:Nat) (l3:List UInt8) (hcnt:rdC big l2=.ok cn l3) (hcn:cn≤4096) (hsh:l3.length<8*(cn*widN dm)) (hlen:l2.length+5≤len)
    (H1:Hid (Calls Tryz.prog 84 #[.pointer (some ⟨rb,0,none⟩),.int .i64 1,.bool false] (W.alloc (.cells #[.int .i64 0,.int .i64 0,.slice none 0 0,.slice none 0 0] 33)) fun e w'=>e=.returned (.int .u64 o)∧RS V w' rb l1 any false false∧(W.alloc (.cells #[.int .i64 0,.int .i64 0,.slice none 0 0,.slice none 0 0] 33)).grownBy w' (some rb)))
    (H2:Hid (∀ w,RS V w rb l1 any false false→Calls Tryz.prog 84 #[.pointer (some ⟨rb,0,none⟩),.int .i64 4,.bool big] w fun e w'=>e=.returned (.int .u64 c)∧RS V w' rb l2 any false false∧w.grownBy w' (some rb))) :
    Calls Tryz.prog 36 #[.pointer (some ⟨rb,0,none⟩),.int .i64 kind] W (GPost (h+1) V W rb any (rdLine dm big l2) len):=by
  rcases hkd with t6 | rfl | ⟨t6,t7,t8,t9,hany⟩
  all_goals
    have HC:=Lib.hid (geom_box W rb HW.out.1)
    have hrW:=HW.out.1
    have hd4:dm<4:=by omega
    have hw2:=widN_le dm hd4
    have HWi:=Lib.hid (fun w=>Width_any dm hd4 w)
    have HCn:=Lib.hid (fun w (hr:RS V w rb l2 any false false)=>(by have h:=count_any V w rb any big l2 hr;rw [hcnt] at h;exact h.mono fun e w' ⟨hg,he,hl⟩=>⟨he,hl,hg⟩ : Calls Tryz.prog 86 #[.pointer (some ⟨rb,0,none⟩),.bool big] w fun e w'=>e=.returned (.int .i64 cn)∧RS V w' rb l3 any false false∧w.grownBy w' (some rb)))
    have HCnt:=Lib.hid hcnt
    clear hcnt
    obtain ⟨wd,hwdd⟩ : ∃ wd,wd=widN dm:=⟨_,rfl⟩
    have HWD:=Lib.hid hwdd
    rw [←hwdd] at hsh
    obtain ⟨N,hN⟩ : ∃ N,N=cn*wd:=⟨_,rfl⟩
    have hN2:N≤20000:=by
      rw [hN]
      have:=Nat.mul_le_mul hcn (by omega:wd≤4)
      omega
    have hmul:IntKind.i64.wrap ((cn:Int)*(wd:Int))=(N:Int):=by rw [IntKind.wrap_i64,←Int.natCast_mul,←hN];omega
    have hmul3:(cn:Int)*(wd:Int)=(N:Int):=by rw [←Int.natCast_mul,←hN]
    have hmul4:IntKind.i64.wrap (N:Int)=(N:Int):=by rw [IntKind.wrap_i64];omega
    rw [←hN] at hsh
    have HSh:=Lib.hid hsh
    have HN:=Lib.hid hN
    clear hsh hN
    have HNu:=Lib.hid (fun w (hr:RS V w rb l3 any false false)=>nums_any V w rb N any big l3 hN2 hr)
    rw [←hwdd] at HWi hw2
    clear hwdd
    go_enter Tryz.func36,Tryz.ntmps36
    go_wp2_with (first
      | (go_at_call 84;(with_reducible refine H1.out.mono ?_);rintro e w1 ⟨rfl,hr1,hg1⟩;have HR1:=Lib.hid hr1;clear hr1))
    go_at_call 84
    with_reducible refine (H2.out _ HR1.out).mono ?_
    rintro e w2 ⟨rfl,hr2,hg2⟩
    have HR2:=Lib.hid hr2
    have g12:=gt_trans hg1 hg2 (.inl rfl)
    have hc1:=hr2.c1
    have hc2:=hr2.c2
    have hrl:=hr2.lt
    clear hr2
    simp only []
    go_at_K
    have HBx:Hid (∀ w3,(w2.alloc (.cells #[.int .i64 2,.int .i64 dm,.slice none 0 0,.slice none 0 0] 33)).grownBy w3 (some rb)→(w3.cell? ⟨w2.heap.size,0,none⟩=some (.int .i64 2)∧w3.cell? ⟨w2.heap.size,1,none⟩=some (.int .i64 dm)∧w3.cell? ⟨w2.heap.size,2,none⟩=some (.slice none 0 0)∧w3.cell? ⟨w2.heap.size,3,none⟩=some (.slice none 0 0))∧(∀ j,w3.frozen? ⟨w2.heap.size,j,none⟩=false)∧w2.heap.size<w3.heap.size∧(W.alloc (.cells #[.int .i64 0,.int .i64 0,.slice none 0 0,.slice none 0 0] 33)).grownBy w3 (some rb)):=fun w3 g=>by
      have hn:some w2.heap.size≠some rb:=fun e=>by injection e with e;omega
      have hb:=g.block w2.heap.size (by simp) hn
      have hs:=g.size
      simp at hs
      exact ⟨⟨g.cell (by simp) hn,g.cell (by simp) hn,g.cell (by simp) hn,g.cell (by simp) hn⟩,fun j=>by rw [World.frozen?_of_block hb];simp,by omega,gt_trans (gt_trans g12 (World.grownBy_alloc w2 (.cells #[.int .i64 2,.int .i64 dm,.slice none 0 0,.slice none 0 0] 33) none) (.inr (.inl rfl))) g (.inl rfl)⟩
    have hz2:W.heap.size<w2.heap.size:=by have:=g12.size;simp at this;omega
    have hz9:¬ w2.heap.size=W.heap.size:=by omega
    go_wp2_with fail
    have hgd:w2.grownBy (w2.alloc (.cells #[.int .i64 2,.int .i64 dm,.slice none 0 0,.slice none 0 0] 33)).drew none:=gt_drew_r (World.grownBy_alloc w2 _ none)
    have hgd2:(w2.alloc (.cells #[.int .i64 2,.int .i64 dm,.slice none 0 0,.slice none 0 0] 33)).grownBy (w2.alloc (.cells #[.int .i64 2,.int .i64 dm,.slice none 0 0,.slice none 0 0] 33)).drew (some rb):=gt_drew_r (gt_refl _ _)
    go_region_law (first
      | (rw [if_pos (by simp [Region.wanted])];go_simp;go_at_call 86;go_loud ((with_reducible refine (HCn.out _ (HR2.out.kept hgd)).mono ?_);rintro e w3 ⟨rfl,hr3,hg3⟩;have HR3:=Lib.hid hr3;clear hr3;obtain ⟨⟨q0,q1,q2,q3⟩,qf,qz,_⟩:=HBx.out _ (gt_trans hgd2 hg3 (.inl rfl));have g3:=gt_trans hgd2 hg3 (.inl rfl)))
      | (rw [if_pos (by simp [Region.wanted])];go_simp;go_at_call 42;go_loud (refine (HWi.out _).mono ?_;rintro e wx ⟨rfl,rfl⟩))
      | (rw [if_pos (by simp [Region.wanted])];go_simp;go_at_call 85;go_loud ((with_reducible refine (HNu.out _ HR3.out).mono ?_);unfold NumPost;rintro e w4 ⟨hg4,p,m,c',rfl,hmc,hmc2,hpc,hfv,hfr,hcase⟩;obtain ⟨⟨b0,b1,b2,b3⟩,bf,bz,G03⟩:=HBx.out _ (gt_trans g3 hg4 (.inl rfl));obtain ⟨⟨r0,r1,r2,r3⟩,rf,hz1,G3⟩:=HC.out _ G03;have rf0:=rf 0;have rf1:=rf 1;have rf2:=rf 2;have rf3:=rf 3;have bf2:=bf 2;have HL4:=Lib.hid (And.intro hfv hcase);have hs3:=(gt_trans hgd2 hg3 (.inl rfl)).size;clear hfv hcase)))
    all_goals
      go_wp2_with fail
      refine bodyPost_ret (by simp [results,Tryz.results36,go_sem,r0,r1,r2,r3,hz1,hz2,hz9];try rfl) rfl ?_
      have hV:=HW.out.2
      simp at hs3
      have hl3:=(rdC_len HCnt.out).1
      obtain ⟨hfv,hcase⟩:=HL4.out
      have hrd:rdLine dm big l2=(rdF N big l3).bind fun ns l4=>.ok (.mk 2 dm N (fOf ns) []) l4:=by unfold rdLine;rw [HCnt.out];show (rdF (cn*widN dm) big l3).bind _=_;rw [←HWD.out,←HN.out]
      rw [hrd]
      obtain ⟨h9,_⟩ | ⟨_,hm8,l',hr4⟩:=hcase
      · exact absurd h9 (by have:=HSh.out;omega)
      have hL0:LF V W w4 rb l' any true false p m (fIn big l3):=⟨⟨G3,hr4⟩,hfv⟩
      have hL1:=(((((hL0.put ⟨w2.heap.size,2,none⟩ (.slice p m c') hV (Nat.le_of_lt hz2) (fun a' e=>by have h9:=hfr a' e;simp;omega)).put ⟨W.heap.size,0,none⟩ (.int .i64 2) hV (Nat.le_refl _) (fun a' e=>by have h9:=hfr a' e;simp;omega)).put ⟨W.heap.size,1,none⟩ (.int .i64 dm) hV (Nat.le_refl _) (fun a' e=>by have h9:=hfr a' e;simp;omega)).put ⟨W.heap.size,2,none⟩ (.slice p m c') hV (Nat.le_refl _) (fun a' e=>by have h9:=hfr a' e;simp;omega)).put ⟨W.heap.size,3,none⟩ (.slice none 0 0) hV (Nat.le_refl _) (fun a' e=>by have h9:=hfr a' e;simp;omega))
      have hrd2:rdF N big l3=.bad false:=by unfold rdF;rw [if_pos HSh.out]
      rw [hrd2]
      exact hL1.no h 2 dm c' len hmc hmc2 hpc (fun a' e=>by have h9:=hfr a' e;simp [World.setCell];omega) (by omega)
end
end Go.Proofs.YtlpaecafpbbbkaaGreatDoor
