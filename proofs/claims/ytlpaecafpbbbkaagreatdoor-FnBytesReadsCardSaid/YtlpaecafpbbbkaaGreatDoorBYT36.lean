/- The reference's reader of well known binary: polygons, ring by ring. -/
import Derived.RegionTactic
import Derived.Deep.RegionLaw
import Derived.Deep.RegionHeld3
import Derived.Test.YtlpaecafpbbbkaaGreatDoorBYT33
set_option linter.unusedVariables false
set_option linter.unusedSimpArgs false
set_option maxRecDepth 100000
set_option maxHeartbeats 24000000
namespace Go.Proofs.YtlpaecafpbbbkaaGreatDoor
section
open Go.RowKit
theorem gr_3 (h:Nat) (V W:World) (rb o c dm:Nat) (any:Bool) (big:Bool) (kind:Int) (len:Nat) (l1 l2:List UInt8) (HW:Hid (rb<W.heap.size∧V.heap.size≤W.heap.size)) (hob:((o:Int)==0)=big) (hcm:(c:Int) % 1000=3) (hcd:(c:Int) / 1000=(dm:Int)) (hcm2:c % 1000=3) (hcd2:c / 1000=dm) (hwd:wrap64 (dm:Int)=(dm:Int)) (hwc:IntKind.i64.wrap (c:Int)=(c:Int)) (t1:¬ (1:Int)<(o:Int)) (t4:¬ (3:Int)<(dm:Int)) (hkd:KdOk 3 kind any) (cn:Nat) (l3:List UInt8) (hcnt:rdC big l2=.ok cn l3) (hcn:cn≤4096) (hlen:l2.length+5≤len)
    (H1:Hid (Calls Tryz.prog 84 #[.pointer (some ⟨rb,0,none⟩),.int .i64 1,.bool false] (W.alloc (.cells #[.int .i64 0,.int .i64 0,.slice none 0 0,.slice none 0 0] 33)) fun e w'=>e=.returned (.int .u64 o)∧RS V w' rb l1 any false false∧(W.alloc (.cells #[.int .i64 0,.int .i64 0,.slice none 0 0,.slice none 0 0] 33)).grownBy w' (some rb)))
    (H2:Hid (∀ w,RS V w rb l1 any false false→Calls Tryz.prog 84 #[.pointer (some ⟨rb,0,none⟩),.int .i64 4,.bool big] w fun e w'=>e=.returned (.int .u64 c)∧RS V w' rb l2 any false false∧w.grownBy w' (some rb))) :
    Calls Tryz.prog 36 #[.pointer (some ⟨rb,0,none⟩),.int .i64 kind] W (GPost (h+2) V W rb any ((rdL (rdLine dm big) cn l3).bind fun ts l4=>.ok (.mk 3 dm 0 (fun _=>0) ts) l4) len):=by
  rcases hkd with t6 | rfl | ⟨t6,t7,t8,t9,hany⟩
  all_goals
    have HC:=Lib.hid (geom_box W rb HW.out.1)
    have hrW:=HW.out.1
    have hVW:=HW.out.2
    have hd4:dm<4:=by omega
    have HLen:Hid (l3.length+9≤len):=by show l3.length+9≤len;have:=(rdC_len hcnt).1;omega
    have HCn:=Lib.hid (fun w (hr:RS V w rb l2 any false false)=>(by have h:=count_any V w rb any big l2 hr;rw [hcnt] at h;exact h.mono fun e w' ⟨hg,he,hl⟩=>⟨he,hl,hg⟩ : Calls Tryz.prog 86 #[.pointer (some ⟨rb,0,none⟩),.bool big] w fun e w'=>e=.returned (.int .i64 cn)∧RS V w' rb l3 any false false∧w.grownBy w' (some rb)))
    clear hcnt
    have hw2:=widN_le dm hd4
    have HWi:=Lib.hid (fun w=>Width_any dm hd4 w)
    have HNu:=Lib.hid (fun N bd g w l (hN:N≤20000) (hg0:bd=false→g=false) (hr:RS V w rb l any bd g)=>num_rel V w rb N any big bd g l hN hg0 hr)
    obtain ⟨wd,hwdd⟩ : ∃ wd,wd=widN dm:=⟨_,rfl⟩
    have HWD:=Lib.hid hwdd
    rw [←hwdd] at HWi hw2
    clear hwdd
    have hw0:IntKind.i64.wrap 0=0:=by decide
    obtain ⟨F,hF⟩ : ∃ F:List UInt8→Rd Raw,F=(rdLine dm big):=⟨_,rfl⟩
    have HFe:=Lib.hid hF
    rw [←hF]
    have HWt:Hid (∀ k ts lk,rdL F k l3=.ok ts lk→4*wts ts+lk.length≤l3.length∧ts.length=k):=fun k ts lk e=>by
      rw [hF] at e
      exact rdL_wt k l3 lk ts (fun l t l1 e=>rdLine_wt e) e
    have HLe:Hid (∀ l t l1,F l=.ok t l1→l1.length≤l.length):=fun l t l1 e=>by rw [hF] at e;exact rdLine_le e
    clear hF
    go_enter Tryz.func36,Tryz.ntmps36
    go_wp2_with (first
      | (go_at_call 84;(with_reducible refine H1.out.mono ?_);rintro e w1 ⟨rfl,hr1,hg1⟩;have HR1:=Lib.hid hr1;clear hr1))
    go_at_call 84
    with_reducible refine (H2.out _ HR1.out).mono ?_
    rintro e w2 ⟨rfl,hr2,hg2⟩
    have HR2:=Lib.hid hr2
    have g12:=gt_trans hg1 hg2 (.inl rfl)
    have hc1:=hr2.c1
    have hc2:=hr2.c2
    have hrl:=hr2.lt
    clear hr2
    simp only []
    go_at_K
    have hz2:W.heap.size<w2.heap.size:=by have:=g12.size;simp at this;omega
    have hz9:¬ w2.heap.size=W.heap.size:=by omega
    have hgd:=World.grownBy_alloc w2 (.cells #[.int .i64 3,.int .i64 dm,.slice none 0 0,.slice none 0 0] 33) none
    have HBx:Hid (∀ wr y ts cs,KidR W (w2.alloc (.cells #[.int .i64 3,.int .i64 dm,.slice none 0 0,.slice none 0 0] 33)) rb (w2.heap.size+1) w2.heap.size wr (h+1) 3 dm none 0 0 (fun _=>0) y ts cs→(wr.cell? ⟨W.heap.size,0,none⟩=some (.int .i64 0)∧wr.cell? ⟨W.heap.size,1,none⟩=some (.int .i64 0)∧wr.cell? ⟨W.heap.size,2,none⟩=some (.slice none 0 0)∧wr.cell? ⟨W.heap.size,3,none⟩=some (.slice none 0 0))∧(∀ j,wr.frozen? ⟨W.heap.size,j,none⟩=false)∧W.heap.size<wr.heap.size∧w2.heap.size<wr.heap.size):=fun wr y ts cs I=>by
      obtain ⟨⟨p0,p1,p2,p3⟩,pf,_,_⟩:=HC.out _ (gt_alloc_r g12 (.cells #[.int .i64 3,.int .i64 dm,.slice none 0 0,.slice none 0 0] 33))
      obtain ⟨s1,s2,s3⟩:=I.size
      have bx:∀ j x,(w2.alloc (.cells #[.int .i64 3,.int .i64 dm,.slice none 0 0,.slice none 0 0] 33)).cell? ⟨W.heap.size,j,none⟩=some x→wr.cell? ⟨W.heap.size,j,none⟩=some x:=fun j x hx=>I.box (by omega) (by omega) (by omega) hx
      exact ⟨⟨bx _ _ p0,bx _ _ p1,bx _ _ p2,bx _ _ p3⟩,fun j=>I.boxF (by omega) (by omega) (by omega) (pf j),by omega,by omega⟩
    have HI2:=Lib.hid (KidR.new (gt_trans (gt_trans (gt_refl W (some rb)) (World.grownBy_alloc W (.cells #[.int .i64 0,.int .i64 0,.slice none 0 0,.slice none 0 0] 33) none) (.inr (.inl rfl))) g12 (.inl rfl)) hrW (h+1) 3 dm)
    go_wp2_with fail
    go_at_call 86
    (with_reducible refine (HCn.out _ (HR2.out.kept hgd)).mono ?_)
    rintro e w3 ⟨rfl,hr3,hg3⟩
    have HR3:=Lib.hid hr3
    have HI3:=Lib.hid (HI2.out.call hg3)
    clear hr3
    go_wp2_with fail
    go_loopw [12] (fun i wr=>∃ (k:Nat) (y:Value) (ts:List Raw) (cs:List Value),k≤cn∧i=.int .i64 k∧ts.length=k∧KidR W (w2.alloc (.cells #[.int .i64 3,.int .i64 dm,.slice none 0 0,.slice none 0 0] 33)) rb (w2.heap.size+1) w2.heap.size wr (h+1) 3 dm none 0 0 (fun _=>0) y ts cs∧((∃ lk,RS V wr rb lk any false false∧Rest F cn l3 k lk ts)∨∃ l' g,RS V wr rb l' any true g∧rdL F cn l3=.bad g∧4*wts ts≤l3.length+8)) (fun i _=>cn - (intOf i).toNat)
    case atStart=>exact ⟨0,_,[],[],by omega,rfl,rfl,HI3.out,.inl ⟨l3,HR3.out,Rest.start _ _ _⟩⟩
    case round =>
      obtain ⟨k,y,ts,cs,hk,rfl,hll,I,hst⟩:=hrel
      rename World=>wr
      obtain ⟨⟨r0,r1,r2,r3⟩,rf,hz1,hzo⟩:=HBx.out _ _ _ _ I
      have rf0:=rf 0;have rf1:=rf 1;have rf2:=rf 2;have rf3:=rf 3
      obtain ⟨py,cy,rfl,_⟩:=own_form I.own
      rw [hll] at I
      obtain ⟨b0,b1,b2,b3,bf⟩:=I.o
      rcases hst with ⟨lk,hr,hrest⟩ | ⟨l',g,hr,hbad,hwt⟩
      · have c2:=hr.c2
        by_cases hkn:k<cn
        · have hlk:=hrest.le
          have hrd:=hrest.rd
          have HWk:=Lib.hid (HWt.out k ts lk hrd)
          have HLk:Hid (lk.length≤l3.length):=hlk
          have HLL:Hid (ts.length=k):=hll
          have HRe:=Lib.hid hrest
          have HR:=Lib.hid hr
          have HI:=Lib.hid I
          have HLt:=Lib.hid I.own.lt
          have HOw:Hid (∀ w,wr.grownBy w (some rb)→w.ownsRow (w2.heap.size+1) 33 4 (.slice py k cy) k cs):=fun w g=>by
            have hh:=(HI.out.call g).own
            rw [HLL.out] at hh
            exact hh
          have HS:Hid (∀ w,wr.grownBy w (some rb)→(w.cell? ⟨w2.heap.size,0,none⟩=some (.int .i64 3)∧w.cell? ⟨w2.heap.size,1,none⟩=some (.int .i64 dm)∧w.cell? ⟨w2.heap.size,2,none⟩=some (.slice none 0 0)∧w.cell? ⟨w2.heap.size,3,none⟩=some (.slice py k cy))∧(∀ j,w.frozen? ⟨w2.heap.size,j,none⟩=false)∧w2.heap.size<w.heap.size):=fun w g=>by
            obtain ⟨o0,o1,o2,o3,of⟩:=(HI.out.call g).o
            have:=g.size
            exact ⟨⟨o0,o1,o2,o3⟩,of,by omega⟩
          have HX7:Hid (∀ w6 w7,wr.grownBy w6 (some rb)→w6.grownBy w7 (Value.slice py k cy).ownBlock→w7.cell? ⟨w2.heap.size,3,none⟩=some (.slice py k cy)∧w7.frozen? ⟨w2.heap.size,3,none⟩=false∧w2.heap.size<w7.heap.size∧w7.cell? ⟨w2.heap.size,1,none⟩=some (.int .i64 dm)):=fun w6 w7 g g'=>by
            obtain ⟨⟨o0,o1,o2,o3⟩,of,hz⟩:=HS.out _ g
            have hne:some w2.heap.size≠(Value.slice py k cy).ownBlock:=fun e=>by have:=(HLt.out _ e.symm).1;omega
            have:=g'.size
            exact ⟨g'.cell o3 hne,by rw [World.frozen?_of_block (g'.block w2.heap.size hz hne)];exact of 3,by omega,g'.cell o1 hne⟩
          have HSn:Hid (∀ (wa wb wc wd:World) (d0 d1 d2 d3:Value) (t:Raw) (gg cap:Nat),wr.grownBy wa none→wa.grownBy wb (some rb)→wb.grownBy wc none→KD (Fr wa wb) (h+1) wb (.agg #[d0,d1,d2,d3]) t→wd.ownsRow (w2.heap.size+1) 33 4 (.slice (some ⟨gg,0,none⟩) (k+1) cap) (k+1) (cs++[d0,d1,d2,d3])→wc.grownBy wd (Value.slice py k cy).ownBlock→((Value.slice py k cy).ownBlock=some gg∨gg=wc.heap.size) →
              KidR W (w2.alloc (.cells #[.int .i64 3,.int .i64 dm,.slice none 0 0,.slice none 0 0] 33)) rb (w2.heap.size+1) w2.heap.size (wd.setCell ⟨w2.heap.size,3,none⟩ (.slice (some ⟨gg,0,none⟩) (k+1) cap)) (h+1) 3 dm none 0 0 (fun _=>0) (.slice (some ⟨gg,0,none⟩) (k+1) cap) (ts++[t]) (cs++[d0,d1,d2,d3])):=fun wa wb wc wd d0 d1 d2 d3 t gg cap g1 g2 g3 hk hown g4 hg=>by
            have hh:=HI.out.snoc g1 g2 g3 hk (gg:=gg) (cap:=cap) (by rw [HLL.out];exact hown) g4 hg
            rw [HLL.out] at hh
            exact hh
          have HRA:Hid (∀ (w6 w7:World) (O:Obj) l bd g x,RS V w6 rb l any bd g→(w6.alloc O).grownBy w7 (Value.slice py k cy).ownBlock→RS V (w7.setCell ⟨w2.heap.size,3,none⟩ x) rb l any bd g):=fun w6 w7 O l bd g x hr g=>hr.app O g (fun b e=>by have:=(HLt.out b e).1;omega) _ (by show V.heap.size≤w2.heap.size;omega) x
          clear I hr hrest hlk hrd hll rf bf hob hcm hcd hcm2 hcd2 hwd hwc t1 t4 H1 H2 hc1 hc2 hg3 hgd hg1 hg2
          have Gd:wr.grownBy wr.drew none:=gt_drew_r (gt_refl wr none)
          have HCk:=Lib.hid (fun w (hr:RS V w rb lk any false false)=>cnt_rel V w rb any big lk hr)
          have HWe:Hid (∀ t l6,rdLine dm big lk=.ok t l6→F lk=.ok t l6):=fun t l6 e=>by rw [HFe.out];exact e
          have HWb:Hid (∀ g,rdLine dm big lk=.bad g→F lk=.bad g):=fun g e=>by rw [HFe.out];exact e
          go_wp2_with fail
          refine wp_region_held_drew (S:=fun w'=>w'.cell? ⟨w2.heap.size,1,none⟩=some (.int .i64 dm)) (by kernel_rfl) ?_ (fun hHeld=>?_)
          · exact (HS.out _ (gt_drew_r (gt_refl _ _))).1.2.1
          refine wpAnyH_take (i:=0) (oi:=_) (v:=?_) rfl (by kernel_rfl) (by kernel_rfl) (by kernel_rfl) (fun _ _ _ h=>h) (Or.inl ⟨by rfl,?_⟩) (by assumption) ?_
          rotate_left
          · (intro w hSw;(try dsimp only at hSw);go_simp;(try (with_reducible rfl)))
          simp only [Act.put,List.setIfInBounds_toArray,List.set_cons_zero,List.set_cons_succ]
          refine wpAnyH_take (i:=2) (oi:=_) (v:=?_) rfl (by kernel_rfl) (by kernel_rfl) (by kernel_rfl) (fun _ _ _ h=>h) (Or.inl ⟨by rfl,?_⟩) (by assumption) ?_
          rotate_left
          · (intro w hSw;(try dsimp only at hSw);go_simp;(try (with_reducible rfl)))
          simp only [Act.put,List.setIfInBounds_toArray,List.set_cons_zero,List.set_cons_succ]
          refine wpAnyH_take (i:=3) (oi:=_) (v:=?_) rfl (by kernel_rfl) (by kernel_rfl) (by kernel_rfl) (fun _ _ _ h=>h) (Or.inl ⟨by rfl,?_⟩) (by assumption) ?_
          rotate_left
          · (intro w hSw;(try dsimp only at hSw);go_simp;(try (with_reducible rfl)))
          simp only [Act.put,List.setIfInBounds_toArray,List.set_cons_zero,List.set_cons_succ]
          refine wpAnyH_take (i:=4) (oi:=_) (v:=?_) rfl (by kernel_rfl) (by kernel_rfl) (by kernel_rfl) (fun _ _ _ h=>h) (Or.inl ⟨by rfl,?_⟩) (by assumption) ?_
          rotate_left
          · (intro w hSw;(try dsimp only at hSw);go_simp;(try (with_reducible rfl)))
          simp only [Act.put,List.setIfInBounds_toArray,List.set_cons_zero,List.set_cons_succ]
          refine wpAnyH_take (i:=5) (oi:=_) (v:=?_) rfl (by kernel_rfl) (by kernel_rfl) (by kernel_rfl) (fun _ _ _ h=>h) (Or.inl ⟨by rfl,?_⟩) (by assumption) ?_
          rotate_left
          · (intro w hSw;(try dsimp only at hSw);go_simp;(try (with_reducible rfl)))
          simp only [Act.put,List.setIfInBounds_toArray,List.set_cons_zero,List.set_cons_succ]
          refine wpAnyH_take (i:=6) (oi:=_) (v:=?_) rfl (by kernel_rfl) (by kernel_rfl) (by kernel_rfl) (fun _ _ _ h=>h) (Or.inl ⟨by rfl,?_⟩) (by assumption) ?_
          rotate_left
          · (intro w hSw;(try dsimp only at hSw);go_simp;(try (with_reducible rfl)))
          simp only [Act.put,List.setIfInBounds_toArray,List.set_cons_zero,List.set_cons_succ]
          refine wpAnyH_take (i:=8) (oi:=_) (v:=?_) rfl (by kernel_rfl) (by kernel_rfl) (by kernel_rfl) (fun _ _ _ h=>h) (Or.inl ⟨by rfl,?_⟩) (by assumption) ?_
          rotate_left
          · (intro w hSw;(try dsimp only at hSw);go_simp;(try (with_reducible rfl)))
          simp only [Act.put,List.setIfInBounds_toArray,List.set_cons_zero,List.set_cons_succ]
          refine wpAnyH_take (i:=9) (oi:=_) (v:=?_) rfl (by kernel_rfl) (by kernel_rfl) (by kernel_rfl) (fun _ _ _ h=>h) (Or.inl ⟨by rfl,?_⟩) (by assumption) ?_
          rotate_left
          · (intro w hSw;(try dsimp only at hSw);go_simp;(try (with_reducible rfl)))
          simp only [Act.put,List.setIfInBounds_toArray,List.set_cons_zero,List.set_cons_succ]
          refine wpAnyH_take (i:=12) (oi:=_) (v:=?_) rfl (by kernel_rfl) (by kernel_rfl) (by kernel_rfl) (fun _ _ _ h=>h) (Or.inl ⟨by rfl,?_⟩) (by assumption) ?_
          rotate_left
          · (intro w hSw;(try dsimp only at hSw);go_simp;(try (with_reducible rfl)))
          simp only [Act.put,List.setIfInBounds_toArray,List.set_cons_zero,List.set_cons_succ]
          refine wpAnyH_ready (rs:=[1,7]) (by kernel_rfl) (by simp) ?_
          refine AllReadyH.cons (o:=_) rfl (fun K hK=>?_) ?_
          · (go_simp)
            refine hK.out _ _ ?_ (fun hHeld=>?_)
            · (first | assumption | exact (HS.out _ (gt_alloc_r G6 _)).1.2.1 | ((try dsimp only);first | assumption | (rw [World.cell?_setCell_other (h:=by simp)];assumption)))
            clear hK K
            try simp only [Act.put,List.setIfInBounds_toArray,List.set_cons_zero,List.set_cons_succ]
            refine wpAnyH_ready (rs:=[7]) (by kernel_rfl) (by simp) ?_
            refine AllReadyH.cons (o:=_) rfl (fun K hK=>?_) ?_
            · (rw [if_pos (by simp [Region.wanted])];go_simp;go_at_call 86;(with_reducible refine (HCk.out _ (HR.out.kept Gd)).mono ?_);rintro e w4 ⟨c4,l4,bd,gg4,rfl,hc4,hr4,hcr,hg4⟩;have HCr:=Lib.hid hcr;have HR4:=Lib.hid hr4;clear hcr hr4;obtain ⟨N,hN⟩ : ∃ N,N=c4*wd:=⟨_,rfl⟩;have hN2:N≤20000:=hN ▸ ring_le hc4 hw2.2;have hmul:=ring_mul1 hN hN2;have hmul3:=ring_mul3 hN;have hmul4:=ring_mul4 hN2;have HN:=Lib.hid hN;clear hN;have G4:=gt_trans (gt_trans (gt_refl wr (some rb)) Gd (.inr (.inl rfl))) hg4 (.inl rfl);obtain ⟨⟨e0,e1,e2,e3⟩,ef,ez⟩:=HS.out _ G4;(try simp only []))
              refine hK.out _ _ ?_ (fun hHeld=>?_)
              · (first | assumption | exact (HS.out _ (gt_alloc_r G6 _)).1.2.1 | ((try dsimp only);first | assumption | (rw [World.cell?_setCell_other (h:=by simp)];assumption)))
              clear hK K
              try simp only [Act.put,List.setIfInBounds_toArray,List.set_cons_zero,List.set_cons_succ]
              refine wpAnyH_ready (rs:=[10]) (by kernel_rfl) (by simp) ?_
              refine AllReadyH.cons (o:=_) rfl (fun K hK=>?_) ?_
              · (rw [if_pos (by simp [Region.wanted])];go_simp;go_at_call 42;refine (HWi.out _).mono ?_;rintro e wx ⟨rfl,rfl⟩;(try simp only []))
                refine hK.out _ _ ?_ (fun hHeld=>?_)
                · (first | assumption | exact (HS.out _ (gt_alloc_r G6 _)).1.2.1 | ((try dsimp only);first | assumption | (rw [World.cell?_setCell_other (h:=by simp)];assumption)))
                clear hK K
                try simp only [Act.put,List.setIfInBounds_toArray,List.set_cons_zero,List.set_cons_succ]
                refine wpAnyH_take (i:=11) (oi:=_) (v:=?_) rfl (by kernel_rfl) (by kernel_rfl) (by kernel_rfl) (fun _ _ _ h=>h) (Or.inl ⟨by rfl,?_⟩) (by assumption) ?_
                rotate_left
                · (intro w hSw;(try dsimp only at hSw);go_simp;(try (with_reducible rfl)))
                simp only [Act.put,List.setIfInBounds_toArray,List.set_cons_zero,List.set_cons_succ]
                refine wpAnyH_ready (rs:=[13]) (by kernel_rfl) (by simp) ?_
                refine AllReadyH.cons (o:=_) rfl (fun K hK=>?_) ?_
                · (rw [if_pos (by simp [Region.wanted])];go_simp;go_at_call 85;(with_reducible refine (HNu.out _ _ _ _ _ hN2 (crel_g HCr.out) HR4.out).mono ?_);rintro e w5 ⟨p5,m5,c5,f5,l6,bd6,g6,rfl,hmc,hmc2,hpc,hfv,hfr,hr6,hnr,hg5⟩;have G6:=gt_trans G4 hg5 (.inl rfl);have Gd6:=gt_trans hg4 hg5 (.inl rfl);obtain ⟨⟨f0,f1,f2,f3⟩,ff,fz⟩:=HS.out _ G6;have HR6:=Lib.hid hr6;have Hk5:=Lib.hid (KD.line (W:=wr.drew) (h:=h) dm hfv hmc hmc2 hpc (fun a ha=>⟨by have:=(hfr a ha).1;have:=hg4.size;omega,(hfr a ha).2⟩));have HRel:=Lib.hid (ring_rel HCr.out (by rw [←HWD.out,←HN.out];exact hnr));clear hr6 hfv hnr;(try simp only []))
                  refine hK.out _ _ ?_ (fun hHeld=>?_)
                  · (first | assumption | exact (HS.out _ (gt_alloc_r G6 _)).1.2.1 | ((try dsimp only);first | assumption | (rw [World.cell?_setCell_other (h:=by simp)];assumption)))
                  clear hK K
                  try simp only [Act.put,List.setIfInBounds_toArray,List.set_cons_zero,List.set_cons_succ]
                  refine wpAnyH_take (i:=14) (oi:=_) (v:=?_) rfl (by kernel_rfl) (by kernel_rfl) (by kernel_rfl) (fun _ _ _ h=>h) (Or.inl ⟨by rfl,?_⟩) (by assumption) ?_
                  rotate_left
                  · (intro w hSw;(try dsimp only at hSw);go_simp;(try (with_reducible rfl)))
                  simp only [Act.put,List.setIfInBounds_toArray,List.set_cons_zero,List.set_cons_succ]
                  refine wpAnyH_ready (rs:=[15]) (by kernel_rfl) (by simp) ?_
                  refine AllReadyH.cons (o:=_) rfl (fun K hK=>?_) ?_
                  · (go_simp)
                    refine hK.out _ _ ?_ (fun hHeld=>?_)
                    · (first | assumption | exact (HS.out _ (gt_alloc_r G6 _)).1.2.1 | ((try dsimp only);first | assumption | (rw [World.cell?_setCell_other (h:=by simp)];assumption)))
                    clear hK K
                    try simp only [Act.put,List.setIfInBounds_toArray,List.set_cons_zero,List.set_cons_succ]
                    refine wpAnyH_ready (rs:=[16]) (by kernel_rfl) (by simp) ?_
                    refine AllReadyH.cons (o:=_) rfl (fun K hK=>?_) ?_
                    · (refine app_cells2_step (size:=4) (n:=k) (xs:=cs) (base:=w2.heap.size+1) rfl _ _ _ rfl Tryz.underlying31 (.agg #[.int .i64 0,.int .i64 0,.slice none 0 0,.slice none 0 0]) 64 infoG rfl (Nat.succ_pos 3) rfl rfl rfl _ (HOw.out _ (gt_alloc_r G6 _)) rfl (one4 _ _ _ _ _ _ _ _) (Nat.succ_pos 0) (by have:=G6.size;simp;omega) (by omega) (by omega) ?_;intro gg cap7 w7 hown7 hg7 hat7;obtain ⟨u3,uf,uz,u1⟩:=HX7.out _ _ (gt_alloc_r G6 _) hg7;have HFin:=Lib.hid (HSn.out _ _ _ _ _ _ _ _ _ _ _ Gd Gd6 (World.grownBy_alloc _ _ _) Hk5.out hown7 hg7 hat7);have HRF:=Lib.hid (fun x=>HRA.out _ _ _ _ _ _ x HR6.out hg7);clear hown7 hg7 hat7)
                      refine hK.out _ _ ?_ (fun hHeld=>?_)
                      · (first | assumption | exact (HS.out _ (gt_alloc_r G6 _)).1.2.1 | ((try dsimp only);first | assumption | (rw [World.cell?_setCell_other (h:=by simp)];assumption)))
                      clear hK K
                      try simp only [Act.put,List.setIfInBounds_toArray,List.set_cons_zero,List.set_cons_succ]
                      refine wpAnyH_take (i:=17) (oi:=_) (v:=?_) rfl (by kernel_rfl) (by kernel_rfl) (by kernel_rfl) (fun _ _ _ h=>h) (Or.inl ⟨by rfl,?_⟩) (by assumption) ?_
                      rotate_left
                      · (intro w hSw;(try dsimp only at hSw);go_simp;(try (with_reducible rfl)))
                      simp only [Act.put,List.setIfInBounds_toArray,List.set_cons_zero,List.set_cons_succ]
                      refine wpAnyH_ready (rs:=[18]) (by kernel_rfl) (by simp) ?_
                      refine AllReadyH.cons (o:=_) rfl (fun K hK=>?_) ?_
                      · (go_simp)
                        refine hK.out _ _ ?_ (fun hHeld=>?_)
                        · (first | assumption | exact (HS.out _ (gt_alloc_r G6 _)).1.2.1 | ((try dsimp only);first | assumption | (rw [World.cell?_setCell_other (h:=by simp)];assumption)))
                        clear hK K
                        try simp only [Act.put,List.setIfInBounds_toArray,List.set_cons_zero,List.set_cons_succ]
                        refine wpAnyH_done (by kernel_rfl) ?_ _
                        go_wp2_with fail
                        refine ⟨⟨k+1,_,ts++[_],_,by omega,by go_num,by simp [HLL.out],HFin.out,?_⟩,by simp [intOf];omega⟩
                        rcases HRel.out with ⟨rfl,rfl,hfk⟩ | ⟨rfl,hfk,hwk⟩
                        · exact .inl ⟨_,HRF.out _,HRe.out.next hkn (HWe.out _ _ hfk) (HLe.out _ _ _ (HWe.out _ _ hfk))⟩
                        · exact .inr ⟨_,_,HRF.out _,HRe.out.bad hkn (HWb.out _ hfk),by have:=HWk.out.1;rw [wts_append];simp only [wts,wt];omega⟩
                      exact AllReadyH.nil
                    exact AllReadyH.nil
                  exact AllReadyH.nil
                exact AllReadyH.nil
              exact AllReadyH.nil
            exact AllReadyH.nil
          refine AllReadyH.cons (o:=_) rfl (fun K hK=>?_) ?_
          · (rw [if_pos (by simp [Region.wanted])];go_simp;go_at_call 86;(with_reducible refine (HCk.out _ (HR.out.kept Gd)).mono ?_);rintro e w4 ⟨c4,l4,bd,gg4,rfl,hc4,hr4,hcr,hg4⟩;have HCr:=Lib.hid hcr;have HR4:=Lib.hid hr4;clear hcr hr4;obtain ⟨N,hN⟩ : ∃ N,N=c4*wd:=⟨_,rfl⟩;have hN2:N≤20000:=hN ▸ ring_le hc4 hw2.2;have hmul:=ring_mul1 hN hN2;have hmul3:=ring_mul3 hN;have hmul4:=ring_mul4 hN2;have HN:=Lib.hid hN;clear hN;have G4:=gt_trans (gt_trans (gt_refl wr (some rb)) Gd (.inr (.inl rfl))) hg4 (.inl rfl);obtain ⟨⟨e0,e1,e2,e3⟩,ef,ez⟩:=HS.out _ G4;(try simp only []))
            refine hK.out _ _ ?_ (fun hHeld=>?_)
            · (first | assumption | exact (HS.out _ (gt_alloc_r G6 _)).1.2.1 | ((try dsimp only);first | assumption | (rw [World.cell?_setCell_other (h:=by simp)];assumption)))
            clear hK K
            try simp only [Act.put,List.setIfInBounds_toArray,List.set_cons_zero,List.set_cons_succ]
            refine wpAnyH_ready (rs:=[1,10]) (by kernel_rfl) (by simp) ?_
            refine AllReadyH.cons (o:=_) rfl (fun K hK=>?_) ?_
            · (go_simp)
              refine hK.out _ _ ?_ (fun hHeld=>?_)
              · (first | assumption | exact (HS.out _ (gt_alloc_r G6 _)).1.2.1 | ((try dsimp only);first | assumption | (rw [World.cell?_setCell_other (h:=by simp)];assumption)))
              clear hK K
              try simp only [Act.put,List.setIfInBounds_toArray,List.set_cons_zero,List.set_cons_succ]
              refine wpAnyH_ready (rs:=[10]) (by kernel_rfl) (by simp) ?_
              refine AllReadyH.cons (o:=_) rfl (fun K hK=>?_) ?_
              · (rw [if_pos (by simp [Region.wanted])];go_simp;go_at_call 42;refine (HWi.out _).mono ?_;rintro e wx ⟨rfl,rfl⟩;(try simp only []))
                refine hK.out _ _ ?_ (fun hHeld=>?_)
                · (first | assumption | exact (HS.out _ (gt_alloc_r G6 _)).1.2.1 | ((try dsimp only);first | assumption | (rw [World.cell?_setCell_other (h:=by simp)];assumption)))
                clear hK K
                try simp only [Act.put,List.setIfInBounds_toArray,List.set_cons_zero,List.set_cons_succ]
                refine wpAnyH_take (i:=11) (oi:=_) (v:=?_) rfl (by kernel_rfl) (by kernel_rfl) (by kernel_rfl) (fun _ _ _ h=>h) (Or.inl ⟨by rfl,?_⟩) (by assumption) ?_
                rotate_left
                · (intro w hSw;(try dsimp only at hSw);go_simp;(try (with_reducible rfl)))
                simp only [Act.put,List.setIfInBounds_toArray,List.set_cons_zero,List.set_cons_succ]
                refine wpAnyH_ready (rs:=[13]) (by kernel_rfl) (by simp) ?_
                refine AllReadyH.cons (o:=_) rfl (fun K hK=>?_) ?_
                · (rw [if_pos (by simp [Region.wanted])];go_simp;go_at_call 85;(with_reducible refine (HNu.out _ _ _ _ _ hN2 (crel_g HCr.out) HR4.out).mono ?_);rintro e w5 ⟨p5,m5,c5,f5,l6,bd6,g6,rfl,hmc,hmc2,hpc,hfv,hfr,hr6,hnr,hg5⟩;have G6:=gt_trans G4 hg5 (.inl rfl);have Gd6:=gt_trans hg4 hg5 (.inl rfl);obtain ⟨⟨f0,f1,f2,f3⟩,ff,fz⟩:=HS.out _ G6;have HR6:=Lib.hid hr6;have Hk5:=Lib.hid (KD.line (W:=wr.drew) (h:=h) dm hfv hmc hmc2 hpc (fun a ha=>⟨by have:=(hfr a ha).1;have:=hg4.size;omega,(hfr a ha).2⟩));have HRel:=Lib.hid (ring_rel HCr.out (by rw [←HWD.out,←HN.out];exact hnr));clear hr6 hfv hnr;(try simp only []))
                  refine hK.out _ _ ?_ (fun hHeld=>?_)
                  · (first | assumption | exact (HS.out _ (gt_alloc_r G6 _)).1.2.1 | ((try dsimp only);first | assumption | (rw [World.cell?_setCell_other (h:=by simp)];assumption)))
                  clear hK K
                  try simp only [Act.put,List.setIfInBounds_toArray,List.set_cons_zero,List.set_cons_succ]
                  refine wpAnyH_take (i:=14) (oi:=_) (v:=?_) rfl (by kernel_rfl) (by kernel_rfl) (by kernel_rfl) (fun _ _ _ h=>h) (Or.inl ⟨by rfl,?_⟩) (by assumption) ?_
                  rotate_left
                  · (intro w hSw;(try dsimp only at hSw);go_simp;(try (with_reducible rfl)))
                  simp only [Act.put,List.setIfInBounds_toArray,List.set_cons_zero,List.set_cons_succ]
                  refine wpAnyH_ready (rs:=[15]) (by kernel_rfl) (by simp) ?_
                  refine AllReadyH.cons (o:=_) rfl (fun K hK=>?_) ?_
                  · (go_simp)
                    refine hK.out _ _ ?_ (fun hHeld=>?_)
                    · (first | assumption | exact (HS.out _ (gt_alloc_r G6 _)).1.2.1 | ((try dsimp only);first | assumption | (rw [World.cell?_setCell_other (h:=by simp)];assumption)))
                    clear hK K
                    try simp only [Act.put,List.setIfInBounds_toArray,List.set_cons_zero,List.set_cons_succ]
                    refine wpAnyH_ready (rs:=[16]) (by kernel_rfl) (by simp) ?_
                    refine AllReadyH.cons (o:=_) rfl (fun K hK=>?_) ?_
                    · (refine app_cells2_step (size:=4) (n:=k) (xs:=cs) (base:=w2.heap.size+1) rfl _ _ _ rfl Tryz.underlying31 (.agg #[.int .i64 0,.int .i64 0,.slice none 0 0,.slice none 0 0]) 64 infoG rfl (Nat.succ_pos 3) rfl rfl rfl _ (HOw.out _ (gt_alloc_r G6 _)) rfl (one4 _ _ _ _ _ _ _ _) (Nat.succ_pos 0) (by have:=G6.size;simp;omega) (by omega) (by omega) ?_;intro gg cap7 w7 hown7 hg7 hat7;obtain ⟨u3,uf,uz,u1⟩:=HX7.out _ _ (gt_alloc_r G6 _) hg7;have HFin:=Lib.hid (HSn.out _ _ _ _ _ _ _ _ _ _ _ Gd Gd6 (World.grownBy_alloc _ _ _) Hk5.out hown7 hg7 hat7);have HRF:=Lib.hid (fun x=>HRA.out _ _ _ _ _ _ x HR6.out hg7);clear hown7 hg7 hat7)
                      refine hK.out _ _ ?_ (fun hHeld=>?_)
                      · (first | assumption | exact (HS.out _ (gt_alloc_r G6 _)).1.2.1 | ((try dsimp only);first | assumption | (rw [World.cell?_setCell_other (h:=by simp)];assumption)))
                      clear hK K
                      try simp only [Act.put,List.setIfInBounds_toArray,List.set_cons_zero,List.set_cons_succ]
                      refine wpAnyH_take (i:=17) (oi:=_) (v:=?_) rfl (by kernel_rfl) (by kernel_rfl) (by kernel_rfl) (fun _ _ _ h=>h) (Or.inl ⟨by rfl,?_⟩) (by assumption) ?_
                      rotate_left
                      · (intro w hSw;(try dsimp only at hSw);go_simp;(try (with_reducible rfl)))
                      simp only [Act.put,List.setIfInBounds_toArray,List.set_cons_zero,List.set_cons_succ]
                      refine wpAnyH_ready (rs:=[18]) (by kernel_rfl) (by simp) ?_
                      refine AllReadyH.cons (o:=_) rfl (fun K hK=>?_) ?_
                      · (go_simp)
                        refine hK.out _ _ ?_ (fun hHeld=>?_)
                        · (first | assumption | exact (HS.out _ (gt_alloc_r G6 _)).1.2.1 | ((try dsimp only);first | assumption | (rw [World.cell?_setCell_other (h:=by simp)];assumption)))
                        clear hK K
                        try simp only [Act.put,List.setIfInBounds_toArray,List.set_cons_zero,List.set_cons_succ]
                        refine wpAnyH_done (by kernel_rfl) ?_ _
                        go_wp2_with fail
                        refine ⟨⟨k+1,_,ts++[_],_,by omega,by go_num,by simp [HLL.out],HFin.out,?_⟩,by simp [intOf];omega⟩
                        rcases HRel.out with ⟨rfl,rfl,hfk⟩ | ⟨rfl,hfk,hwk⟩
                        · exact .inl ⟨_,HRF.out _,HRe.out.next hkn (HWe.out _ _ hfk) (HLe.out _ _ _ (HWe.out _ _ hfk))⟩
                        · exact .inr ⟨_,_,HRF.out _,HRe.out.bad hkn (HWb.out _ hfk),by have:=HWk.out.1;rw [wts_append];simp only [wts,wt];omega⟩
                      exact AllReadyH.nil
                    exact AllReadyH.nil
                  exact AllReadyH.nil
                exact AllReadyH.nil
              exact AllReadyH.nil
            refine AllReadyH.cons (o:=_) rfl (fun K hK=>?_) ?_
            · (rw [if_pos (by simp [Region.wanted])];go_simp;go_at_call 42;refine (HWi.out _).mono ?_;rintro e wx ⟨rfl,rfl⟩;(try simp only []))
              refine hK.out _ _ ?_ (fun hHeld=>?_)
              · (first | assumption | exact (HS.out _ (gt_alloc_r G6 _)).1.2.1 | ((try dsimp only);first | assumption | (rw [World.cell?_setCell_other (h:=by simp)];assumption)))
              clear hK K
              try simp only [Act.put,List.setIfInBounds_toArray,List.set_cons_zero,List.set_cons_succ]
              refine wpAnyH_take (i:=11) (oi:=_) (v:=?_) rfl (by kernel_rfl) (by kernel_rfl) (by kernel_rfl) (fun _ _ _ h=>h) (Or.inl ⟨by rfl,?_⟩) (by assumption) ?_
              rotate_left
              · (intro w hSw;(try dsimp only at hSw);go_simp;(try (with_reducible rfl)))
              simp only [Act.put,List.setIfInBounds_toArray,List.set_cons_zero,List.set_cons_succ]
              refine wpAnyH_ready (rs:=[1,13]) (by kernel_rfl) (by simp) ?_
              refine AllReadyH.cons (o:=_) rfl (fun K hK=>?_) ?_
              · (go_simp)
                refine hK.out _ _ ?_ (fun hHeld=>?_)
                · (first | assumption | exact (HS.out _ (gt_alloc_r G6 _)).1.2.1 | ((try dsimp only);first | assumption | (rw [World.cell?_setCell_other (h:=by simp)];assumption)))
                clear hK K
                try simp only [Act.put,List.setIfInBounds_toArray,List.set_cons_zero,List.set_cons_succ]
                refine wpAnyH_ready (rs:=[13]) (by kernel_rfl) (by simp) ?_
                refine AllReadyH.cons (o:=_) rfl (fun K hK=>?_) ?_
                · (rw [if_pos (by simp [Region.wanted])];go_simp;go_at_call 85;(with_reducible refine (HNu.out _ _ _ _ _ hN2 (crel_g HCr.out) HR4.out).mono ?_);rintro e w5 ⟨p5,m5,c5,f5,l6,bd6,g6,rfl,hmc,hmc2,hpc,hfv,hfr,hr6,hnr,hg5⟩;have G6:=gt_trans G4 hg5 (.inl rfl);have Gd6:=gt_trans hg4 hg5 (.inl rfl);obtain ⟨⟨f0,f1,f2,f3⟩,ff,fz⟩:=HS.out _ G6;have HR6:=Lib.hid hr6;have Hk5:=Lib.hid (KD.line (W:=wr.drew) (h:=h) dm hfv hmc hmc2 hpc (fun a ha=>⟨by have:=(hfr a ha).1;have:=hg4.size;omega,(hfr a ha).2⟩));have HRel:=Lib.hid (ring_rel HCr.out (by rw [←HWD.out,←HN.out];exact hnr));clear hr6 hfv hnr;(try simp only []))
                  refine hK.out _ _ ?_ (fun hHeld=>?_)
                  · (first | assumption | exact (HS.out _ (gt_alloc_r G6 _)).1.2.1 | ((try dsimp only);first | assumption | (rw [World.cell?_setCell_other (h:=by simp)];assumption)))
                  clear hK K
                  try simp only [Act.put,List.setIfInBounds_toArray,List.set_cons_zero,List.set_cons_succ]
                  refine wpAnyH_take (i:=14) (oi:=_) (v:=?_) rfl (by kernel_rfl) (by kernel_rfl) (by kernel_rfl) (fun _ _ _ h=>h) (Or.inl ⟨by rfl,?_⟩) (by assumption) ?_
                  rotate_left
                  · (intro w hSw;(try dsimp only at hSw);go_simp;(try (with_reducible rfl)))
                  simp only [Act.put,List.setIfInBounds_toArray,List.set_cons_zero,List.set_cons_succ]
                  refine wpAnyH_ready (rs:=[15]) (by kernel_rfl) (by simp) ?_
                  refine AllReadyH.cons (o:=_) rfl (fun K hK=>?_) ?_
                  · (go_simp)
                    refine hK.out _ _ ?_ (fun hHeld=>?_)
                    · (first | assumption | exact (HS.out _ (gt_alloc_r G6 _)).1.2.1 | ((try dsimp only);first | assumption | (rw [World.cell?_setCell_other (h:=by simp)];assumption)))
                    clear hK K
                    try simp only [Act.put,List.setIfInBounds_toArray,List.set_cons_zero,List.set_cons_succ]
                    refine wpAnyH_ready (rs:=[16]) (by kernel_rfl) (by simp) ?_
                    refine AllReadyH.cons (o:=_) rfl (fun K hK=>?_) ?_
                    · (refine app_cells2_step (size:=4) (n:=k) (xs:=cs) (base:=w2.heap.size+1) rfl _ _ _ rfl Tryz.underlying31 (.agg #[.int .i64 0,.int .i64 0,.slice none 0 0,.slice none 0 0]) 64 infoG rfl (Nat.succ_pos 3) rfl rfl rfl _ (HOw.out _ (gt_alloc_r G6 _)) rfl (one4 _ _ _ _ _ _ _ _) (Nat.succ_pos 0) (by have:=G6.size;simp;omega) (by omega) (by omega) ?_;intro gg cap7 w7 hown7 hg7 hat7;obtain ⟨u3,uf,uz,u1⟩:=HX7.out _ _ (gt_alloc_r G6 _) hg7;have HFin:=Lib.hid (HSn.out _ _ _ _ _ _ _ _ _ _ _ Gd Gd6 (World.grownBy_alloc _ _ _) Hk5.out hown7 hg7 hat7);have HRF:=Lib.hid (fun x=>HRA.out _ _ _ _ _ _ x HR6.out hg7);clear hown7 hg7 hat7)
                      refine hK.out _ _ ?_ (fun hHeld=>?_)
                      · (first | assumption | exact (HS.out _ (gt_alloc_r G6 _)).1.2.1 | ((try dsimp only);first | assumption | (rw [World.cell?_setCell_other (h:=by simp)];assumption)))
                      clear hK K
                      try simp only [Act.put,List.setIfInBounds_toArray,List.set_cons_zero,List.set_cons_succ]
                      refine wpAnyH_take (i:=17) (oi:=_) (v:=?_) rfl (by kernel_rfl) (by kernel_rfl) (by kernel_rfl) (fun _ _ _ h=>h) (Or.inl ⟨by rfl,?_⟩) (by assumption) ?_
                      rotate_left
                      · (intro w hSw;(try dsimp only at hSw);go_simp;(try (with_reducible rfl)))
                      simp only [Act.put,List.setIfInBounds_toArray,List.set_cons_zero,List.set_cons_succ]
                      refine wpAnyH_ready (rs:=[18]) (by kernel_rfl) (by simp) ?_
                      refine AllReadyH.cons (o:=_) rfl (fun K hK=>?_) ?_
                      · (go_simp)
                        refine hK.out _ _ ?_ (fun hHeld=>?_)
                        · (first | assumption | exact (HS.out _ (gt_alloc_r G6 _)).1.2.1 | ((try dsimp only);first | assumption | (rw [World.cell?_setCell_other (h:=by simp)];assumption)))
                        clear hK K
                        try simp only [Act.put,List.setIfInBounds_toArray,List.set_cons_zero,List.set_cons_succ]
                        refine wpAnyH_done (by kernel_rfl) ?_ _
                        go_wp2_with fail
                        refine ⟨⟨k+1,_,ts++[_],_,by omega,by go_num,by simp [HLL.out],HFin.out,?_⟩,by simp [intOf];omega⟩
                        rcases HRel.out with ⟨rfl,rfl,hfk⟩ | ⟨rfl,hfk,hwk⟩
                        · exact .inl ⟨_,HRF.out _,HRe.out.next hkn (HWe.out _ _ hfk) (HLe.out _ _ _ (HWe.out _ _ hfk))⟩
                        · exact .inr ⟨_,_,HRF.out _,HRe.out.bad hkn (HWb.out _ hfk),by have:=HWk.out.1;rw [wts_append];simp only [wts,wt];omega⟩
                      exact AllReadyH.nil
                    exact AllReadyH.nil
                  exact AllReadyH.nil
                exact AllReadyH.nil
              refine AllReadyH.cons (o:=_) rfl (fun K hK=>?_) ?_
              · (rw [if_pos (by simp [Region.wanted])];go_simp;go_at_call 85;(with_reducible refine (HNu.out _ _ _ _ _ hN2 (crel_g HCr.out) HR4.out).mono ?_);rintro e w5 ⟨p5,m5,c5,f5,l6,bd6,g6,rfl,hmc,hmc2,hpc,hfv,hfr,hr6,hnr,hg5⟩;have G6:=gt_trans G4 hg5 (.inl rfl);have Gd6:=gt_trans hg4 hg5 (.inl rfl);obtain ⟨⟨f0,f1,f2,f3⟩,ff,fz⟩:=HS.out _ G6;have HR6:=Lib.hid hr6;have Hk5:=Lib.hid (KD.line (W:=wr.drew) (h:=h) dm hfv hmc hmc2 hpc (fun a ha=>⟨by have:=(hfr a ha).1;have:=hg4.size;omega,(hfr a ha).2⟩));have HRel:=Lib.hid (ring_rel HCr.out (by rw [←HWD.out,←HN.out];exact hnr));clear hr6 hfv hnr;(try simp only []))
                refine hK.out _ _ ?_ (fun hHeld=>?_)
                · (first | assumption | exact (HS.out _ (gt_alloc_r G6 _)).1.2.1 | ((try dsimp only);first | assumption | (rw [World.cell?_setCell_other (h:=by simp)];assumption)))
                clear hK K
                try simp only [Act.put,List.setIfInBounds_toArray,List.set_cons_zero,List.set_cons_succ]
                refine wpAnyH_take (i:=14) (oi:=_) (v:=?_) rfl (by kernel_rfl) (by kernel_rfl) (by kernel_rfl) (fun _ _ _ h=>h) (Or.inl ⟨by rfl,?_⟩) (by assumption) ?_
                rotate_left
                · (intro w hSw;(try dsimp only at hSw);go_simp;(try (with_reducible rfl)))
                simp only [Act.put,List.setIfInBounds_toArray,List.set_cons_zero,List.set_cons_succ]
                refine wpAnyH_ready (rs:=[1,15]) (by kernel_rfl) (by simp) ?_
                refine AllReadyH.cons (o:=_) rfl (fun K hK=>?_) ?_
                · (go_simp)
                  refine hK.out _ _ ?_ (fun hHeld=>?_)
                  · (first | assumption | exact (HS.out _ (gt_alloc_r G6 _)).1.2.1 | ((try dsimp only);first | assumption | (rw [World.cell?_setCell_other (h:=by simp)];assumption)))
                  clear hK K
                  try simp only [Act.put,List.setIfInBounds_toArray,List.set_cons_zero,List.set_cons_succ]
                  refine wpAnyH_ready (rs:=[15]) (by kernel_rfl) (by simp) ?_
                  refine AllReadyH.cons (o:=_) rfl (fun K hK=>?_) ?_
                  · (go_simp)
                    refine hK.out _ _ ?_ (fun hHeld=>?_)
                    · (first | assumption | exact (HS.out _ (gt_alloc_r G6 _)).1.2.1 | ((try dsimp only);first | assumption | (rw [World.cell?_setCell_other (h:=by simp)];assumption)))
                    clear hK K
                    try simp only [Act.put,List.setIfInBounds_toArray,List.set_cons_zero,List.set_cons_succ]
                    refine wpAnyH_ready (rs:=[16]) (by kernel_rfl) (by simp) ?_
                    refine AllReadyH.cons (o:=_) rfl (fun K hK=>?_) ?_
                    · (refine app_cells2_step (size:=4) (n:=k) (xs:=cs) (base:=w2.heap.size+1) rfl _ _ _ rfl Tryz.underlying31 (.agg #[.int .i64 0,.int .i64 0,.slice none 0 0,.slice none 0 0]) 64 infoG rfl (Nat.succ_pos 3) rfl rfl rfl _ (HOw.out _ (gt_alloc_r G6 _)) rfl (one4 _ _ _ _ _ _ _ _) (Nat.succ_pos 0) (by have:=G6.size;simp;omega) (by omega) (by omega) ?_;intro gg cap7 w7 hown7 hg7 hat7;obtain ⟨u3,uf,uz,u1⟩:=HX7.out _ _ (gt_alloc_r G6 _) hg7;have HFin:=Lib.hid (HSn.out _ _ _ _ _ _ _ _ _ _ _ Gd Gd6 (World.grownBy_alloc _ _ _) Hk5.out hown7 hg7 hat7);have HRF:=Lib.hid (fun x=>HRA.out _ _ _ _ _ _ x HR6.out hg7);clear hown7 hg7 hat7)
                      refine hK.out _ _ ?_ (fun hHeld=>?_)
                      · (first | assumption | exact (HS.out _ (gt_alloc_r G6 _)).1.2.1 | ((try dsimp only);first | assumption | (rw [World.cell?_setCell_other (h:=by simp)];assumption)))
                      clear hK K
                      try simp only [Act.put,List.setIfInBounds_toArray,List.set_cons_zero,List.set_cons_succ]
                      refine wpAnyH_take (i:=17) (oi:=_) (v:=?_) rfl (by kernel_rfl) (by kernel_rfl) (by kernel_rfl) (fun _ _ _ h=>h) (Or.inl ⟨by rfl,?_⟩) (by assumption) ?_
                      rotate_left
                      · (intro w hSw;(try dsimp only at hSw);go_simp;(try (with_reducible rfl)))
                      simp only [Act.put,List.setIfInBounds_toArray,List.set_cons_zero,List.set_cons_succ]
                      refine wpAnyH_ready (rs:=[18]) (by kernel_rfl) (by simp) ?_
                      refine AllReadyH.cons (o:=_) rfl (fun K hK=>?_) ?_
                      · (go_simp)
                        refine hK.out _ _ ?_ (fun hHeld=>?_)
                        · (first | assumption | exact (HS.out _ (gt_alloc_r G6 _)).1.2.1 | ((try dsimp only);first | assumption | (rw [World.cell?_setCell_other (h:=by simp)];assumption)))
                        clear hK K
                        try simp only [Act.put,List.setIfInBounds_toArray,List.set_cons_zero,List.set_cons_succ]
                        refine wpAnyH_done (by kernel_rfl) ?_ _
                        go_wp2_with fail
                        refine ⟨⟨k+1,_,ts++[_],_,by omega,by go_num,by simp [HLL.out],HFin.out,?_⟩,by simp [intOf];omega⟩
                        rcases HRel.out with ⟨rfl,rfl,hfk⟩ | ⟨rfl,hfk,hwk⟩
                        · exact .inl ⟨_,HRF.out _,HRe.out.next hkn (HWe.out _ _ hfk) (HLe.out _ _ _ (HWe.out _ _ hfk))⟩
                        · exact .inr ⟨_,_,HRF.out _,HRe.out.bad hkn (HWb.out _ hfk),by have:=HWk.out.1;rw [wts_append];simp only [wts,wt];omega⟩
                      exact AllReadyH.nil
                    exact AllReadyH.nil
                  exact AllReadyH.nil
                refine AllReadyH.cons (o:=_) rfl (fun K hK=>?_) ?_
                · (go_simp)
                  refine hK.out _ _ ?_ (fun hHeld=>?_)
                  · (first | assumption | exact (HS.out _ (gt_alloc_r G6 _)).1.2.1 | ((try dsimp only);first | assumption | (rw [World.cell?_setCell_other (h:=by simp)];assumption)))
                  clear hK K
                  try simp only [Act.put,List.setIfInBounds_toArray,List.set_cons_zero,List.set_cons_succ]
                  refine wpAnyH_ready (rs:=[1]) (by kernel_rfl) (by simp) ?_
                  refine AllReadyH.cons (o:=_) rfl (fun K hK=>?_) ?_
                  · (go_simp)
                    refine hK.out _ _ ?_ (fun hHeld=>?_)
                    · (first | assumption | exact (HS.out _ (gt_alloc_r G6 _)).1.2.1 | ((try dsimp only);first | assumption | (rw [World.cell?_setCell_other (h:=by simp)];assumption)))
                    clear hK K
                    try simp only [Act.put,List.setIfInBounds_toArray,List.set_cons_zero,List.set_cons_succ]
                    refine wpAnyH_ready (rs:=[16]) (by kernel_rfl) (by simp) ?_
                    refine AllReadyH.cons (o:=_) rfl (fun K hK=>?_) ?_
                    · (refine app_cells2_step (size:=4) (n:=k) (xs:=cs) (base:=w2.heap.size+1) rfl _ _ _ rfl Tryz.underlying31 (.agg #[.int .i64 0,.int .i64 0,.slice none 0 0,.slice none 0 0]) 64 infoG rfl (Nat.succ_pos 3) rfl rfl rfl _ (HOw.out _ (gt_alloc_r G6 _)) rfl (one4 _ _ _ _ _ _ _ _) (Nat.succ_pos 0) (by have:=G6.size;simp;omega) (by omega) (by omega) ?_;intro gg cap7 w7 hown7 hg7 hat7;obtain ⟨u3,uf,uz,u1⟩:=HX7.out _ _ (gt_alloc_r G6 _) hg7;have HFin:=Lib.hid (HSn.out _ _ _ _ _ _ _ _ _ _ _ Gd Gd6 (World.grownBy_alloc _ _ _) Hk5.out hown7 hg7 hat7);have HRF:=Lib.hid (fun x=>HRA.out _ _ _ _ _ _ x HR6.out hg7);clear hown7 hg7 hat7)
                      refine hK.out _ _ ?_ (fun hHeld=>?_)
                      · (first | assumption | exact (HS.out _ (gt_alloc_r G6 _)).1.2.1 | ((try dsimp only);first | assumption | (rw [World.cell?_setCell_other (h:=by simp)];assumption)))
                      clear hK K
                      try simp only [Act.put,List.setIfInBounds_toArray,List.set_cons_zero,List.set_cons_succ]
                      refine wpAnyH_take (i:=17) (oi:=_) (v:=?_) rfl (by kernel_rfl) (by kernel_rfl) (by kernel_rfl) (fun _ _ _ h=>h) (Or.inl ⟨by rfl,?_⟩) (by assumption) ?_
                      rotate_left
                      · (intro w hSw;(try dsimp only at hSw);go_simp;(try (with_reducible rfl)))
                      simp only [Act.put,List.setIfInBounds_toArray,List.set_cons_zero,List.set_cons_succ]
                      refine wpAnyH_ready (rs:=[18]) (by kernel_rfl) (by simp) ?_
                      refine AllReadyH.cons (o:=_) rfl (fun K hK=>?_) ?_
                      · (go_simp)
                        refine hK.out _ _ ?_ (fun hHeld=>?_)
                        · (first | assumption | exact (HS.out _ (gt_alloc_r G6 _)).1.2.1 | ((try dsimp only);first | assumption | (rw [World.cell?_setCell_other (h:=by simp)];assumption)))
                        clear hK K
                        try simp only [Act.put,List.setIfInBounds_toArray,List.set_cons_zero,List.set_cons_succ]
                        refine wpAnyH_done (by kernel_rfl) ?_ _
                        go_wp2_with fail
                        refine ⟨⟨k+1,_,ts++[_],_,by omega,by go_num,by simp [HLL.out],HFin.out,?_⟩,by simp [intOf];omega⟩
                        rcases HRel.out with ⟨rfl,rfl,hfk⟩ | ⟨rfl,hfk,hwk⟩
                        · exact .inl ⟨_,HRF.out _,HRe.out.next hkn (HWe.out _ _ hfk) (HLe.out _ _ _ (HWe.out _ _ hfk))⟩
                        · exact .inr ⟨_,_,HRF.out _,HRe.out.bad hkn (HWb.out _ hfk),by have:=HWk.out.1;rw [wts_append];simp only [wts,wt];omega⟩
                      exact AllReadyH.nil
                    exact AllReadyH.nil
                  exact AllReadyH.nil
                exact AllReadyH.nil
              exact AllReadyH.nil
            exact AllReadyH.nil
          exact AllReadyH.nil
        · obtain rfl:k=cn:=by omega
          have hee:=hrest.end_
          have HE:=Lib.hid (I.ok hr hVW W.heap.size rfl (by omega) _ rfl len)
          clear hr I
          go_wp2_with fail
          go_wp2_with fail
          refine bodyPost_ret (by simp [results,Tryz.results36,go_sem,r0,r1,r2,r3,hz1,hz2,hz9];try rfl) rfl ?_
          rw [hee]
          exact HE.out
      · have c2:=hr.c2
        have HE:=Lib.hid (I.no hr hVW W.heap.size rfl (by omega) len (by have:=HLen.out;omega))
        clear hr I
        by_cases hkn:k<cn
        · go_wp2_with fail
          go_wp2_with fail
          refine bodyPost_ret (by simp [results,Tryz.results36,go_sem,r0,r1,r2,r3,hz1,hz2,hz9];try rfl) rfl ?_
          rw [hbad]
          exact HE.out
        · obtain rfl:k=cn:=by omega
          go_wp2_with fail
          go_wp2_with fail
          refine bodyPost_ret (by simp [results,Tryz.results36,go_sem,r0,r1,r2,r3,hz1,hz2,hz9];try rfl) rfl ?_
          rw [hbad]
          exact HE.out
end
end Go.Proofs.YtlpaecafpbbbkaaGreatDoor
