/- Geometries of the package, made. -/
import Derived.Test.YtlpaecafpbbbkaaGreatDoorRCT18
set_option linter.unusedVariables false
set_option linter.unusedSimpArgs false
set_option maxRecDepth 100000
set_option maxHeartbeats 24000000
namespace Go.Proofs.YtlpaecafpbbbkaaGreatDoor
section
open Go.RowKit
theorem GeoBuildPoint {D:(Nat→Prop)→World→Value→Raw→Prop} (K:DK0 D) (hfm:∀ {B:Nat→Prop} {W:World} {x:Value} {t:Raw},D B W x t→∃ (fx fy fz fm er:Nat) (eb:Bool),x=.agg #[.float .f64 fx,.float .f64 fy,.float .f64 fz,.float .f64 fm,.int .u8 er,.bool eb]) (HB:BC D 48 1) (h:Nat) (B:Nat→Prop) (W:World) (k d:Int) (p:Option Addr) (n cap:Nat) (q:Option Addr) (m c2:Nat) (f:Nat→Nat) (kids:List Raw) (hm:kids.length=m) (hk:KD B h W (.agg #[.int .i64 k,.int .i64 d,.slice p n cap,.slice q m c2]) (.mk k d n f kids)) (hw:wt (.mk k d n f kids)≤2513169434843) (hk1:k=1) :
    Calls Tryz.prog 29 #[.agg #[.int .i64 k,.int .i64 d,.slice p n cap,.slice q m c2]] W (MPost (GeoK 1 165 D) W (newT (.mk k d n f kids))):=by
  have hkn:kindOf (newT (.mk k d n f kids))=1:=by rw [kindOf_new];show kindN k=1;unfold kindN;split <;> omega
  have HFM:Hid (∀ (B:Nat→Prop) (W:World) (x:Value) (t:Raw),D B W x t→∃ (fx fy fz fm er:Nat) (eb:Bool),x=.agg #[.float .f64 fx,.float .f64 fy,.float .f64 fz,.float .f64 fm,.int .u8 er,.bool eb]):=fun B W x t h=>hfm h
  obtain rfl:k=1:=hk1
  have HT:=Lib.hid (fun w (g:W.grownBy w none)=>HB h B w _ _ (hk.mono g) hw rfl)
  have HG:=Lib.hid (gt_alloc_r (World.grownBy_alloc W (.cells #[.int .i64 1,.int .i64 d,.slice p n cap,.slice q m c2] 33) none) (.cells #[.int .i64 0,.nilIface] 57))
  have HC2:Hid (∀ w,((W.alloc (.cells #[.int .i64 1,.int .i64 d,.slice p n cap,.slice q m c2] 33)).alloc (.cells #[.int .i64 0,.nilIface] 57)).grownBy w none→w.cell? ⟨W.heap.size+1,0,none⟩=some (.int .i64 0)∧w.cell? ⟨W.heap.size+1,1,none⟩=some .nilIface∧w.frozen? ⟨W.heap.size+1,0,none⟩=false∧w.frozen? ⟨W.heap.size+1,1,none⟩=false):=fun w g=>by
    have hb:=g.block (W.heap.size+1) (by simp) (by simp)
    refine ⟨g.cell (by simp) (by simp),g.cell (by simp) (by simp),?_,?_⟩ <;> (rw [World.frozen?_of_block hb];simp)
  generalize newT (.mk 1 d n f kids)=tn at HT hkn ⊢
  have hfin:Hid (∀ (w1 w2 w3:World) (x:Value),((W.alloc (.cells #[.int .i64 1,.int .i64 d,.slice p n cap,.slice q m c2] 33)).alloc (.cells #[.int .i64 0,.nilIface] 57)).grownBy w1 none→w1.grownBy w2 none→D (Fr w1 w2) w2 x tn→w2.grownBy w3 none→w2.heap.size<w3.heap.size→(∀ i u,x.cells[i]?=some u→w3.cell? ⟨w2.heap.size,i,none⟩=some u)→MPost (GeoK 1 165 D) W tn (.returned (.agg #[.int .i64 1,.iface 165 (.pointer (some ⟨w2.heap.size,0,none⟩))])) ((w3.setCell ⟨W.heap.size+1,0,none⟩ (.int .i64 1)).setCell ⟨W.heap.size+1,1,none⟩ (.iface 165 (.pointer (some ⟨w2.heap.size,0,none⟩))))):=fun w1 w2 w3 x g1 g2 hd g3 hlt hx=>by
    have s0:W.heap.size+2≤w1.heap.size:=by have:=g1.size;simp at this;omega
    have s2:=g2.size
    have nB:∀ b,Fr w1 w2 b→b≠W.heap.size+1:=fun b hb e=>by have:=hb.1;omega
    have hd3:=K.mono g3 hd
    have hd4:=K.keep (.set (q:=⟨W.heap.size+1,1,none⟩) (fun hb=>nB _ hb rfl) (.iface 165 (.pointer (some ⟨w2.heap.size,0,none⟩)))) (K.keep (.set (q:=⟨W.heap.size+1,0,none⟩) (fun hb=>nB _ hb rfl) (.int .i64 1)) hd3)
    refine ⟨_,rfl,⟨w2.heap.size,x,hkn,rfl,⟨by omega,by simpa [World.setCell] using hlt⟩,fun i u hi=>?_,K.weak (fun b hb=>?_) hd4⟩,gt_set_r (gt_set_r (gt_trans (gt_trans (gt_trans HG.out g1 (.inl rfl)) g2 (.inl rfl)) g3 (.inl rfl)) _ _ (by show W.heap.size≤W.heap.size+1;omega)) _ _ (by show W.heap.size≤W.heap.size+1;omega)⟩
    · rw [World.cell?_setCell_other (h:=fun e=>by have:=congrArg Addr.block e;simp at this;omega),World.cell?_setCell_other (h:=fun e=>by have:=congrArg Addr.block e;simp at this;omega)]
      exact hx i u hi
    · exact ⟨by have:=hb.1;omega,by have:=hb.2;have:=g3.size;simpa [World.setCell] using (by omega:b<w3.heap.size)⟩
  clear hk hw hfm HB hkn hm
  go_enter Tryz.func29,Tryz.ntmps29
  go_wp2_with (first
    | (go_at_call 48;refine (HT.out _ HG.out).mono ?_;rintro e w2 ⟨x2,rfl,hd2,hg2⟩;obtain ⟨fx2,fy2,fz2,fm2,er2,eb2,rfl⟩:=HFM.out _ _ _ _ hd2;have HD2:=Lib.hid hd2;clear hd2)
    | (go_at_call 49;refine (AsPoint _ _ _ _ _ _ _).mono ?_;rintro e w3 ⟨rfl,hcs,hlt,hg3⟩;obtain ⟨x0,x1,f0,f1⟩:=HC2.out _ (gt_trans hg2 hg3 (.inl rfl));have HCs:=Lib.hid hcs;clear hcs))
  refine bodyPost_ret (by simp [results,Tryz.results29,go_sem,x0,x1];try rfl) rfl ?_
  refine hfin.out _ _ _ _ (gt_refl _ _) hg2 HD2.out hg3 hlt (fun i u hi=>?_)
  obtain ⟨c0,c1,c2,c3,c4,c5⟩:=HCs.out
  match i,hi with
  | 0,hi=>exact (by simpa using hi) ▸ c0
  | 1,hi=>exact (by simpa using hi) ▸ c1
  | 2,hi=>exact (by simpa using hi) ▸ c2
  | 3,hi=>exact (by simpa using hi) ▸ c3
  | 4,hi=>exact (by simpa using hi) ▸ c4
  | 5,hi=>exact (by simpa using hi) ▸ c5
  | n+6,hi=>simp [Value.cells] at hi
theorem GeoBuildLineString {D:(Nat→Prop)→World→Value→Raw→Prop} (K:DK0 D) (hfm:∀ {B:Nat→Prop} {W:World} {x:Value} {t:Raw},D B W x t→∃ (er:Nat) (ep:Option Addr) (en ec:Nat),x=.agg #[.int .u8 er,.slice ep en ec]) (HB:BC D 50 2) (h:Nat) (B:Nat→Prop) (W:World) (k d:Int) (p:Option Addr) (n cap:Nat) (q:Option Addr) (m c2:Nat) (f:Nat→Nat) (kids:List Raw) (hm:kids.length=m) (hk:KD B h W (.agg #[.int .i64 k,.int .i64 d,.slice p n cap,.slice q m c2]) (.mk k d n f kids)) (hw:wt (.mk k d n f kids)≤2513169434843) (hk1:k=2) :
    Calls Tryz.prog 29 #[.agg #[.int .i64 k,.int .i64 d,.slice p n cap,.slice q m c2]] W (MPost (GeoK 2 167 D) W (newT (.mk k d n f kids))):=by
  have hkn:kindOf (newT (.mk k d n f kids))=2:=by rw [kindOf_new];show kindN k=2;unfold kindN;split <;> omega
  have HFM:Hid (∀ (B:Nat→Prop) (W:World) (x:Value) (t:Raw),D B W x t→∃ (er:Nat) (ep:Option Addr) (en ec:Nat),x=.agg #[.int .u8 er,.slice ep en ec]):=fun B W x t h=>hfm h
  obtain rfl:k=2:=hk1
  have HT:=Lib.hid (fun w (g:W.grownBy w none)=>HB h B w _ _ (hk.mono g) hw rfl)
  have HG:=Lib.hid (gt_alloc_r (World.grownBy_alloc W (.cells #[.int .i64 2,.int .i64 d,.slice p n cap,.slice q m c2] 33) none) (.cells #[.int .i64 0,.nilIface] 57))
  have HC2:Hid (∀ w,((W.alloc (.cells #[.int .i64 2,.int .i64 d,.slice p n cap,.slice q m c2] 33)).alloc (.cells #[.int .i64 0,.nilIface] 57)).grownBy w none→w.cell? ⟨W.heap.size+1,0,none⟩=some (.int .i64 0)∧w.cell? ⟨W.heap.size+1,1,none⟩=some .nilIface∧w.frozen? ⟨W.heap.size+1,0,none⟩=false∧w.frozen? ⟨W.heap.size+1,1,none⟩=false):=fun w g=>by
    have hb:=g.block (W.heap.size+1) (by simp) (by simp)
    refine ⟨g.cell (by simp) (by simp),g.cell (by simp) (by simp),?_,?_⟩ <;> (rw [World.frozen?_of_block hb];simp)
  generalize newT (.mk 2 d n f kids)=tn at HT hkn ⊢
  have hfin:Hid (∀ (w1 w2 w3:World) (x:Value),((W.alloc (.cells #[.int .i64 2,.int .i64 d,.slice p n cap,.slice q m c2] 33)).alloc (.cells #[.int .i64 0,.nilIface] 57)).grownBy w1 none→w1.grownBy w2 none→D (Fr w1 w2) w2 x tn→w2.grownBy w3 none→w2.heap.size<w3.heap.size→(∀ i u,x.cells[i]?=some u→w3.cell? ⟨w2.heap.size,i,none⟩=some u)→MPost (GeoK 2 167 D) W tn (.returned (.agg #[.int .i64 2,.iface 167 (.pointer (some ⟨w2.heap.size,0,none⟩))])) ((w3.setCell ⟨W.heap.size+1,0,none⟩ (.int .i64 2)).setCell ⟨W.heap.size+1,1,none⟩ (.iface 167 (.pointer (some ⟨w2.heap.size,0,none⟩))))):=fun w1 w2 w3 x g1 g2 hd g3 hlt hx=>by
    have s0:W.heap.size+2≤w1.heap.size:=by have:=g1.size;simp at this;omega
    have s2:=g2.size
    have nB:∀ b,Fr w1 w2 b→b≠W.heap.size+1:=fun b hb e=>by have:=hb.1;omega
    have hd3:=K.mono g3 hd
    have hd4:=K.keep (.set (q:=⟨W.heap.size+1,1,none⟩) (fun hb=>nB _ hb rfl) (.iface 167 (.pointer (some ⟨w2.heap.size,0,none⟩)))) (K.keep (.set (q:=⟨W.heap.size+1,0,none⟩) (fun hb=>nB _ hb rfl) (.int .i64 2)) hd3)
    refine ⟨_,rfl,⟨w2.heap.size,x,hkn,rfl,⟨by omega,by simpa [World.setCell] using hlt⟩,fun i u hi=>?_,K.weak (fun b hb=>?_) hd4⟩,gt_set_r (gt_set_r (gt_trans (gt_trans (gt_trans HG.out g1 (.inl rfl)) g2 (.inl rfl)) g3 (.inl rfl)) _ _ (by show W.heap.size≤W.heap.size+1;omega)) _ _ (by show W.heap.size≤W.heap.size+1;omega)⟩
    · rw [World.cell?_setCell_other (h:=fun e=>by have:=congrArg Addr.block e;simp at this;omega),World.cell?_setCell_other (h:=fun e=>by have:=congrArg Addr.block e;simp at this;omega)]
      exact hx i u hi
    · exact ⟨by have:=hb.1;omega,by have:=hb.2;have:=g3.size;simpa [World.setCell] using (by omega:b<w3.heap.size)⟩
  clear hk hw hfm HB hkn hm
  go_enter Tryz.func29,Tryz.ntmps29
  go_wp2_with (first
    | (go_at_call 50;refine (HT.out _ HG.out).mono ?_;rintro e w2 ⟨x2,rfl,hd2,hg2⟩;obtain ⟨er2,ep2,en2,ec2,rfl⟩:=HFM.out _ _ _ _ hd2;have HD2:=Lib.hid hd2;clear hd2)
    | (go_at_call 51;refine (AsLineString _ _ _ _ _).mono ?_;rintro e w3 ⟨rfl,hcs,hlt,hg3⟩;obtain ⟨x0,x1,f0,f1⟩:=HC2.out _ (gt_trans hg2 hg3 (.inl rfl));have HCs:=Lib.hid hcs;clear hcs))
  refine bodyPost_ret (by simp [results,Tryz.results29,go_sem,x0,x1];try rfl) rfl ?_
  refine hfin.out _ _ _ _ (gt_refl _ _) hg2 HD2.out hg3 hlt (fun i u hi=>?_)
  obtain ⟨c0,c1⟩:=HCs.out
  match i,hi with
  | 0,hi=>exact (by simpa using hi) ▸ c0
  | 1,hi=>exact (by simpa using hi) ▸ c1
  | n+2,hi=>simp [Value.cells] at hi
theorem GeoBuildPolygon {D:(Nat→Prop)→World→Value→Raw→Prop} (K:DK0 D) (hfm:∀ {B:Nat→Prop} {W:World} {x:Value} {t:Raw},D B W x t→∃ (ep:Option Addr) (en ec er:Nat),x=.agg #[.slice ep en ec,.int .u8 er]) (HB:BC D 52 3) (h:Nat) (B:Nat→Prop) (W:World) (k d:Int) (p:Option Addr) (n cap:Nat) (q:Option Addr) (m c2:Nat) (f:Nat→Nat) (kids:List Raw) (hm:kids.length=m) (hk:KD B h W (.agg #[.int .i64 k,.int .i64 d,.slice p n cap,.slice q m c2]) (.mk k d n f kids)) (hw:wt (.mk k d n f kids)≤2513169434843) (hk1:k=3) :
    Calls Tryz.prog 29 #[.agg #[.int .i64 k,.int .i64 d,.slice p n cap,.slice q m c2]] W (MPost (GeoK 3 170 D) W (newT (.mk k d n f kids))):=by
  have hkn:kindOf (newT (.mk k d n f kids))=3:=by rw [kindOf_new];show kindN k=3;unfold kindN;split <;> omega
  have HFM:Hid (∀ (B:Nat→Prop) (W:World) (x:Value) (t:Raw),D B W x t→∃ (ep:Option Addr) (en ec er:Nat),x=.agg #[.slice ep en ec,.int .u8 er]):=fun B W x t h=>hfm h
  obtain rfl:k=3:=hk1
  have HT:=Lib.hid (fun w (g:W.grownBy w none)=>HB h B w _ _ (hk.mono g) hw rfl)
  have HG:=Lib.hid (gt_alloc_r (World.grownBy_alloc W (.cells #[.int .i64 3,.int .i64 d,.slice p n cap,.slice q m c2] 33) none) (.cells #[.int .i64 0,.nilIface] 57))
  have HC2:Hid (∀ w,((W.alloc (.cells #[.int .i64 3,.int .i64 d,.slice p n cap,.slice q m c2] 33)).alloc (.cells #[.int .i64 0,.nilIface] 57)).grownBy w none→w.cell? ⟨W.heap.size+1,0,none⟩=some (.int .i64 0)∧w.cell? ⟨W.heap.size+1,1,none⟩=some .nilIface∧w.frozen? ⟨W.heap.size+1,0,none⟩=false∧w.frozen? ⟨W.heap.size+1,1,none⟩=false):=fun w g=>by
    have hb:=g.block (W.heap.size+1) (by simp) (by simp)
    refine ⟨g.cell (by simp) (by simp),g.cell (by simp) (by simp),?_,?_⟩ <;> (rw [World.frozen?_of_block hb];simp)
  generalize newT (.mk 3 d n f kids)=tn at HT hkn ⊢
  have hfin:Hid (∀ (w1 w2 w3:World) (x:Value),((W.alloc (.cells #[.int .i64 3,.int .i64 d,.slice p n cap,.slice q m c2] 33)).alloc (.cells #[.int .i64 0,.nilIface] 57)).grownBy w1 none→w1.grownBy w2 none→D (Fr w1 w2) w2 x tn→w2.grownBy w3 none→w2.heap.size<w3.heap.size→(∀ i u,x.cells[i]?=some u→w3.cell? ⟨w2.heap.size,i,none⟩=some u)→MPost (GeoK 3 170 D) W tn (.returned (.agg #[.int .i64 3,.iface 170 (.pointer (some ⟨w2.heap.size,0,none⟩))])) ((w3.setCell ⟨W.heap.size+1,0,none⟩ (.int .i64 3)).setCell ⟨W.heap.size+1,1,none⟩ (.iface 170 (.pointer (some ⟨w2.heap.size,0,none⟩))))):=fun w1 w2 w3 x g1 g2 hd g3 hlt hx=>by
    have s0:W.heap.size+2≤w1.heap.size:=by have:=g1.size;simp at this;omega
    have s2:=g2.size
    have nB:∀ b,Fr w1 w2 b→b≠W.heap.size+1:=fun b hb e=>by have:=hb.1;omega
    have hd3:=K.mono g3 hd
    have hd4:=K.keep (.set (q:=⟨W.heap.size+1,1,none⟩) (fun hb=>nB _ hb rfl) (.iface 170 (.pointer (some ⟨w2.heap.size,0,none⟩)))) (K.keep (.set (q:=⟨W.heap.size+1,0,none⟩) (fun hb=>nB _ hb rfl) (.int .i64 3)) hd3)
    refine ⟨_,rfl,⟨w2.heap.size,x,hkn,rfl,⟨by omega,by simpa [World.setCell] using hlt⟩,fun i u hi=>?_,K.weak (fun b hb=>?_) hd4⟩,gt_set_r (gt_set_r (gt_trans (gt_trans (gt_trans HG.out g1 (.inl rfl)) g2 (.inl rfl)) g3 (.inl rfl)) _ _ (by show W.heap.size≤W.heap.size+1;omega)) _ _ (by show W.heap.size≤W.heap.size+1;omega)⟩
    · rw [World.cell?_setCell_other (h:=fun e=>by have:=congrArg Addr.block e;simp at this;omega),World.cell?_setCell_other (h:=fun e=>by have:=congrArg Addr.block e;simp at this;omega)]
      exact hx i u hi
    · exact ⟨by have:=hb.1;omega,by have:=hb.2;have:=g3.size;simpa [World.setCell] using (by omega:b<w3.heap.size)⟩
  clear hk hw hfm HB hkn hm
  go_enter Tryz.func29,Tryz.ntmps29
  go_wp2_with (first
    | (go_at_call 52;refine (HT.out _ HG.out).mono ?_;rintro e w2 ⟨x2,rfl,hd2,hg2⟩;obtain ⟨ep2,en2,ec2,er2,rfl⟩:=HFM.out _ _ _ _ hd2;have HD2:=Lib.hid hd2;clear hd2)
    | (go_at_call 53;refine (AsPolygon _ _ _ _ _).mono ?_;rintro e w3 ⟨rfl,hcs,hlt,hg3⟩;obtain ⟨x0,x1,f0,f1⟩:=HC2.out _ (gt_trans hg2 hg3 (.inl rfl));have HCs:=Lib.hid hcs;clear hcs))
  refine bodyPost_ret (by simp [results,Tryz.results29,go_sem,x0,x1];try rfl) rfl ?_
  refine hfin.out _ _ _ _ (gt_refl _ _) hg2 HD2.out hg3 hlt (fun i u hi=>?_)
  obtain ⟨c0,c1⟩:=HCs.out
  match i,hi with
  | 0,hi=>exact (by simpa using hi) ▸ c0
  | 1,hi=>exact (by simpa using hi) ▸ c1
  | n+2,hi=>simp [Value.cells] at hi
theorem GeoBuildMultiPoint {D:(Nat→Prop)→World→Value→Raw→Prop} (K:DK0 D) (hfm:∀ {B:Nat→Prop} {W:World} {x:Value} {t:Raw},D B W x t→∃ (ep:Option Addr) (en ec er:Nat),x=.agg #[.slice ep en ec,.int .u8 er]) (HB:BC D 54 4) (h:Nat) (B:Nat→Prop) (W:World) (k d:Int) (p:Option Addr) (n cap:Nat) (q:Option Addr) (m c2:Nat) (f:Nat→Nat) (kids:List Raw) (hm:kids.length=m) (hk:KD B h W (.agg #[.int .i64 k,.int .i64 d,.slice p n cap,.slice q m c2]) (.mk k d n f kids)) (hw:wt (.mk k d n f kids)≤2513169434843) (hk1:k=4) :
    Calls Tryz.prog 29 #[.agg #[.int .i64 k,.int .i64 d,.slice p n cap,.slice q m c2]] W (MPost (GeoK 4 173 D) W (newT (.mk k d n f kids))):=by
  have hkn:kindOf (newT (.mk k d n f kids))=4:=by rw [kindOf_new];show kindN k=4;unfold kindN;split <;> omega
  have HFM:Hid (∀ (B:Nat→Prop) (W:World) (x:Value) (t:Raw),D B W x t→∃ (ep:Option Addr) (en ec er:Nat),x=.agg #[.slice ep en ec,.int .u8 er]):=fun B W x t h=>hfm h
  obtain rfl:k=4:=hk1
  have HT:=Lib.hid (fun w (g:W.grownBy w none)=>HB h B w _ _ (hk.mono g) hw rfl)
  have HG:=Lib.hid (gt_alloc_r (World.grownBy_alloc W (.cells #[.int .i64 4,.int .i64 d,.slice p n cap,.slice q m c2] 33) none) (.cells #[.int .i64 0,.nilIface] 57))
  have HC2:Hid (∀ w,((W.alloc (.cells #[.int .i64 4,.int .i64 d,.slice p n cap,.slice q m c2] 33)).alloc (.cells #[.int .i64 0,.nilIface] 57)).grownBy w none→w.cell? ⟨W.heap.size+1,0,none⟩=some (.int .i64 0)∧w.cell? ⟨W.heap.size+1,1,none⟩=some .nilIface∧w.frozen? ⟨W.heap.size+1,0,none⟩=false∧w.frozen? ⟨W.heap.size+1,1,none⟩=false):=fun w g=>by
    have hb:=g.block (W.heap.size+1) (by simp) (by simp)
    refine ⟨g.cell (by simp) (by simp),g.cell (by simp) (by simp),?_,?_⟩ <;> (rw [World.frozen?_of_block hb];simp)
  generalize newT (.mk 4 d n f kids)=tn at HT hkn ⊢
  have hfin:Hid (∀ (w1 w2 w3:World) (x:Value),((W.alloc (.cells #[.int .i64 4,.int .i64 d,.slice p n cap,.slice q m c2] 33)).alloc (.cells #[.int .i64 0,.nilIface] 57)).grownBy w1 none→w1.grownBy w2 none→D (Fr w1 w2) w2 x tn→w2.grownBy w3 none→w2.heap.size<w3.heap.size→(∀ i u,x.cells[i]?=some u→w3.cell? ⟨w2.heap.size,i,none⟩=some u)→MPost (GeoK 4 173 D) W tn (.returned (.agg #[.int .i64 4,.iface 173 (.pointer (some ⟨w2.heap.size,0,none⟩))])) ((w3.setCell ⟨W.heap.size+1,0,none⟩ (.int .i64 4)).setCell ⟨W.heap.size+1,1,none⟩ (.iface 173 (.pointer (some ⟨w2.heap.size,0,none⟩))))):=fun w1 w2 w3 x g1 g2 hd g3 hlt hx=>by
    have s0:W.heap.size+2≤w1.heap.size:=by have:=g1.size;simp at this;omega
    have s2:=g2.size
    have nB:∀ b,Fr w1 w2 b→b≠W.heap.size+1:=fun b hb e=>by have:=hb.1;omega
    have hd3:=K.mono g3 hd
    have hd4:=K.keep (.set (q:=⟨W.heap.size+1,1,none⟩) (fun hb=>nB _ hb rfl) (.iface 173 (.pointer (some ⟨w2.heap.size,0,none⟩)))) (K.keep (.set (q:=⟨W.heap.size+1,0,none⟩) (fun hb=>nB _ hb rfl) (.int .i64 4)) hd3)
    refine ⟨_,rfl,⟨w2.heap.size,x,hkn,rfl,⟨by omega,by simpa [World.setCell] using hlt⟩,fun i u hi=>?_,K.weak (fun b hb=>?_) hd4⟩,gt_set_r (gt_set_r (gt_trans (gt_trans (gt_trans HG.out g1 (.inl rfl)) g2 (.inl rfl)) g3 (.inl rfl)) _ _ (by show W.heap.size≤W.heap.size+1;omega)) _ _ (by show W.heap.size≤W.heap.size+1;omega)⟩
    · rw [World.cell?_setCell_other (h:=fun e=>by have:=congrArg Addr.block e;simp at this;omega),World.cell?_setCell_other (h:=fun e=>by have:=congrArg Addr.block e;simp at this;omega)]
      exact hx i u hi
    · exact ⟨by have:=hb.1;omega,by have:=hb.2;have:=g3.size;simpa [World.setCell] using (by omega:b<w3.heap.size)⟩
  clear hk hw hfm HB hkn hm
  go_enter Tryz.func29,Tryz.ntmps29
  go_wp2_with (first
    | (go_at_call 54;refine (HT.out _ HG.out).mono ?_;rintro e w2 ⟨x2,rfl,hd2,hg2⟩;obtain ⟨ep2,en2,ec2,er2,rfl⟩:=HFM.out _ _ _ _ hd2;have HD2:=Lib.hid hd2;clear hd2)
    | (go_at_call 55;refine (AsMultiPoint _ _ _ _ _).mono ?_;rintro e w3 ⟨rfl,hcs,hlt,hg3⟩;obtain ⟨x0,x1,f0,f1⟩:=HC2.out _ (gt_trans hg2 hg3 (.inl rfl));have HCs:=Lib.hid hcs;clear hcs))
  refine bodyPost_ret (by simp [results,Tryz.results29,go_sem,x0,x1];try rfl) rfl ?_
  refine hfin.out _ _ _ _ (gt_refl _ _) hg2 HD2.out hg3 hlt (fun i u hi=>?_)
  obtain ⟨c0,c1⟩:=HCs.out
  match i,hi with
  | 0,hi=>exact (by simpa using hi) ▸ c0
  | 1,hi=>exact (by simpa using hi) ▸ c1
  | n+2,hi=>simp [Value.cells] at hi
theorem GeoBuildMultiLineString {D:(Nat→Prop)→World→Value→Raw→Prop} (K:DK0 D) (hfm:∀ {B:Nat→Prop} {W:World} {x:Value} {t:Raw},D B W x t→∃ (ep:Option Addr) (en ec er:Nat),x=.agg #[.slice ep en ec,.int .u8 er]) (HB:BC D 56 5) (h:Nat) (B:Nat→Prop) (W:World) (k d:Int) (p:Option Addr) (n cap:Nat) (q:Option Addr) (m c2:Nat) (f:Nat→Nat) (kids:List Raw) (hm:kids.length=m) (hk:KD B h W (.agg #[.int .i64 k,.int .i64 d,.slice p n cap,.slice q m c2]) (.mk k d n f kids)) (hw:wt (.mk k d n f kids)≤2513169434843) (hk1:k=5) :
    Calls Tryz.prog 29 #[.agg #[.int .i64 k,.int .i64 d,.slice p n cap,.slice q m c2]] W (MPost (GeoK 5 176 D) W (newT (.mk k d n f kids))):=by
  have hkn:kindOf (newT (.mk k d n f kids))=5:=by rw [kindOf_new];show kindN k=5;unfold kindN;split <;> omega
  have HFM:Hid (∀ (B:Nat→Prop) (W:World) (x:Value) (t:Raw),D B W x t→∃ (ep:Option Addr) (en ec er:Nat),x=.agg #[.slice ep en ec,.int .u8 er]):=fun B W x t h=>hfm h
  obtain rfl:k=5:=hk1
  have HT:=Lib.hid (fun w (g:W.grownBy w none)=>HB h B w _ _ (hk.mono g) hw rfl)
  have HG:=Lib.hid (gt_alloc_r (World.grownBy_alloc W (.cells #[.int .i64 5,.int .i64 d,.slice p n cap,.slice q m c2] 33) none) (.cells #[.int .i64 0,.nilIface] 57))
  have HC2:Hid (∀ w,((W.alloc (.cells #[.int .i64 5,.int .i64 d,.slice p n cap,.slice q m c2] 33)).alloc (.cells #[.int .i64 0,.nilIface] 57)).grownBy w none→w.cell? ⟨W.heap.size+1,0,none⟩=some (.int .i64 0)∧w.cell? ⟨W.heap.size+1,1,none⟩=some .nilIface∧w.frozen? ⟨W.heap.size+1,0,none⟩=false∧w.frozen? ⟨W.heap.size+1,1,none⟩=false):=fun w g=>by
    have hb:=g.block (W.heap.size+1) (by simp) (by simp)
    refine ⟨g.cell (by simp) (by simp),g.cell (by simp) (by simp),?_,?_⟩ <;> (rw [World.frozen?_of_block hb];simp)
  generalize newT (.mk 5 d n f kids)=tn at HT hkn ⊢
  have hfin:Hid (∀ (w1 w2 w3:World) (x:Value),((W.alloc (.cells #[.int .i64 5,.int .i64 d,.slice p n cap,.slice q m c2] 33)).alloc (.cells #[.int .i64 0,.nilIface] 57)).grownBy w1 none→w1.grownBy w2 none→D (Fr w1 w2) w2 x tn→w2.grownBy w3 none→w2.heap.size<w3.heap.size→(∀ i u,x.cells[i]?=some u→w3.cell? ⟨w2.heap.size,i,none⟩=some u)→MPost (GeoK 5 176 D) W tn (.returned (.agg #[.int .i64 5,.iface 176 (.pointer (some ⟨w2.heap.size,0,none⟩))])) ((w3.setCell ⟨W.heap.size+1,0,none⟩ (.int .i64 5)).setCell ⟨W.heap.size+1,1,none⟩ (.iface 176 (.pointer (some ⟨w2.heap.size,0,none⟩))))):=fun w1 w2 w3 x g1 g2 hd g3 hlt hx=>by
    have s0:W.heap.size+2≤w1.heap.size:=by have:=g1.size;simp at this;omega
    have s2:=g2.size
    have nB:∀ b,Fr w1 w2 b→b≠W.heap.size+1:=fun b hb e=>by have:=hb.1;omega
    have hd3:=K.mono g3 hd
    have hd4:=K.keep (.set (q:=⟨W.heap.size+1,1,none⟩) (fun hb=>nB _ hb rfl) (.iface 176 (.pointer (some ⟨w2.heap.size,0,none⟩)))) (K.keep (.set (q:=⟨W.heap.size+1,0,none⟩) (fun hb=>nB _ hb rfl) (.int .i64 5)) hd3)
    refine ⟨_,rfl,⟨w2.heap.size,x,hkn,rfl,⟨by omega,by simpa [World.setCell] using hlt⟩,fun i u hi=>?_,K.weak (fun b hb=>?_) hd4⟩,gt_set_r (gt_set_r (gt_trans (gt_trans (gt_trans HG.out g1 (.inl rfl)) g2 (.inl rfl)) g3 (.inl rfl)) _ _ (by show W.heap.size≤W.heap.size+1;omega)) _ _ (by show W.heap.size≤W.heap.size+1;omega)⟩
    · rw [World.cell?_setCell_other (h:=fun e=>by have:=congrArg Addr.block e;simp at this;omega),World.cell?_setCell_other (h:=fun e=>by have:=congrArg Addr.block e;simp at this;omega)]
      exact hx i u hi
    · exact ⟨by have:=hb.1;omega,by have:=hb.2;have:=g3.size;simpa [World.setCell] using (by omega:b<w3.heap.size)⟩
  clear hk hw hfm HB hkn hm
  go_enter Tryz.func29,Tryz.ntmps29
  go_wp2_with (first
    | (go_at_call 56;refine (HT.out _ HG.out).mono ?_;rintro e w2 ⟨x2,rfl,hd2,hg2⟩;obtain ⟨ep2,en2,ec2,er2,rfl⟩:=HFM.out _ _ _ _ hd2;have HD2:=Lib.hid hd2;clear hd2)
    | (go_at_call 57;refine (AsMultiLineString _ _ _ _ _).mono ?_;rintro e w3 ⟨rfl,hcs,hlt,hg3⟩;obtain ⟨x0,x1,f0,f1⟩:=HC2.out _ (gt_trans hg2 hg3 (.inl rfl));have HCs:=Lib.hid hcs;clear hcs))
  refine bodyPost_ret (by simp [results,Tryz.results29,go_sem,x0,x1];try rfl) rfl ?_
  refine hfin.out _ _ _ _ (gt_refl _ _) hg2 HD2.out hg3 hlt (fun i u hi=>?_)
  obtain ⟨c0,c1⟩:=HCs.out
  match i,hi with
  | 0,hi=>exact (by simpa using hi) ▸ c0
  | 1,hi=>exact (by simpa using hi) ▸ c1
  | n+2,hi=>simp [Value.cells] at hi
theorem GeoBuildMultiPolygon {D:(Nat→Prop)→World→Value→Raw→Prop} (K:DK0 D) (hfm:∀ {B:Nat→Prop} {W:World} {x:Value} {t:Raw},D B W x t→∃ (ep:Option Addr) (en ec er:Nat),x=.agg #[.slice ep en ec,.int .u8 er]) (HB:BC D 58 6) (h:Nat) (B:Nat→Prop) (W:World) (k d:Int) (p:Option Addr) (n cap:Nat) (q:Option Addr) (m c2:Nat) (f:Nat→Nat) (kids:List Raw) (hm:kids.length=m) (hk:KD B h W (.agg #[.int .i64 k,.int .i64 d,.slice p n cap,.slice q m c2]) (.mk k d n f kids)) (hw:wt (.mk k d n f kids)≤2513169434843) (hk1:k=6) :
    Calls Tryz.prog 29 #[.agg #[.int .i64 k,.int .i64 d,.slice p n cap,.slice q m c2]] W (MPost (GeoK 6 179 D) W (newT (.mk k d n f kids))):=by
  have hkn:kindOf (newT (.mk k d n f kids))=6:=by rw [kindOf_new];show kindN k=6;unfold kindN;split <;> omega
  have HFM:Hid (∀ (B:Nat→Prop) (W:World) (x:Value) (t:Raw),D B W x t→∃ (ep:Option Addr) (en ec er:Nat),x=.agg #[.slice ep en ec,.int .u8 er]):=fun B W x t h=>hfm h
  obtain rfl:k=6:=hk1
  have HT:=Lib.hid (fun w (g:W.grownBy w none)=>HB h B w _ _ (hk.mono g) hw rfl)
  have HG:=Lib.hid (gt_alloc_r (World.grownBy_alloc W (.cells #[.int .i64 6,.int .i64 d,.slice p n cap,.slice q m c2] 33) none) (.cells #[.int .i64 0,.nilIface] 57))
  have HC2:Hid (∀ w,((W.alloc (.cells #[.int .i64 6,.int .i64 d,.slice p n cap,.slice q m c2] 33)).alloc (.cells #[.int .i64 0,.nilIface] 57)).grownBy w none→w.cell? ⟨W.heap.size+1,0,none⟩=some (.int .i64 0)∧w.cell? ⟨W.heap.size+1,1,none⟩=some .nilIface∧w.frozen? ⟨W.heap.size+1,0,none⟩=false∧w.frozen? ⟨W.heap.size+1,1,none⟩=false):=fun w g=>by
    have hb:=g.block (W.heap.size+1) (by simp) (by simp)
    refine ⟨g.cell (by simp) (by simp),g.cell (by simp) (by simp),?_,?_⟩ <;> (rw [World.frozen?_of_block hb];simp)
  generalize newT (.mk 6 d n f kids)=tn at HT hkn ⊢
  have hfin:Hid (∀ (w1 w2 w3:World) (x:Value),((W.alloc (.cells #[.int .i64 6,.int .i64 d,.slice p n cap,.slice q m c2] 33)).alloc (.cells #[.int .i64 0,.nilIface] 57)).grownBy w1 none→w1.grownBy w2 none→D (Fr w1 w2) w2 x tn→w2.grownBy w3 none→w2.heap.size<w3.heap.size→(∀ i u,x.cells[i]?=some u→w3.cell? ⟨w2.heap.size,i,none⟩=some u)→MPost (GeoK 6 179 D) W tn (.returned (.agg #[.int .i64 6,.iface 179 (.pointer (some ⟨w2.heap.size,0,none⟩))])) ((w3.setCell ⟨W.heap.size+1,0,none⟩ (.int .i64 6)).setCell ⟨W.heap.size+1,1,none⟩ (.iface 179 (.pointer (some ⟨w2.heap.size,0,none⟩))))):=fun w1 w2 w3 x g1 g2 hd g3 hlt hx=>by
    have s0:W.heap.size+2≤w1.heap.size:=by have:=g1.size;simp at this;omega
    have s2:=g2.size
    have nB:∀ b,Fr w1 w2 b→b≠W.heap.size+1:=fun b hb e=>by have:=hb.1;omega
    have hd3:=K.mono g3 hd
    have hd4:=K.keep (.set (q:=⟨W.heap.size+1,1,none⟩) (fun hb=>nB _ hb rfl) (.iface 179 (.pointer (some ⟨w2.heap.size,0,none⟩)))) (K.keep (.set (q:=⟨W.heap.size+1,0,none⟩) (fun hb=>nB _ hb rfl) (.int .i64 6)) hd3)
    refine ⟨_,rfl,⟨w2.heap.size,x,hkn,rfl,⟨by omega,by simpa [World.setCell] using hlt⟩,fun i u hi=>?_,K.weak (fun b hb=>?_) hd4⟩,gt_set_r (gt_set_r (gt_trans (gt_trans (gt_trans HG.out g1 (.inl rfl)) g2 (.inl rfl)) g3 (.inl rfl)) _ _ (by show W.heap.size≤W.heap.size+1;omega)) _ _ (by show W.heap.size≤W.heap.size+1;omega)⟩
    · rw [World.cell?_setCell_other (h:=fun e=>by have:=congrArg Addr.block e;simp at this;omega),World.cell?_setCell_other (h:=fun e=>by have:=congrArg Addr.block e;simp at this;omega)]
      exact hx i u hi
    · exact ⟨by have:=hb.1;omega,by have:=hb.2;have:=g3.size;simpa [World.setCell] using (by omega:b<w3.heap.size)⟩
  clear hk hw hfm HB hkn hm
  go_enter Tryz.func29,Tryz.ntmps29
  go_wp2_with (first
    | (go_at_call 58;refine (HT.out _ HG.out).mono ?_;rintro e w2 ⟨x2,rfl,hd2,hg2⟩;obtain ⟨ep2,en2,ec2,er2,rfl⟩:=HFM.out _ _ _ _ hd2;have HD2:=Lib.hid hd2;clear hd2)
    | (go_at_call 59;refine (AsMultiPolygon _ _ _ _ _).mono ?_;rintro e w3 ⟨rfl,hcs,hlt,hg3⟩;obtain ⟨x0,x1,f0,f1⟩:=HC2.out _ (gt_trans hg2 hg3 (.inl rfl));have HCs:=Lib.hid hcs;clear hcs))
  refine bodyPost_ret (by simp [results,Tryz.results29,go_sem,x0,x1];try rfl) rfl ?_
  refine hfin.out _ _ _ _ (gt_refl _ _) hg2 HD2.out hg3 hlt (fun i u hi=>?_)
  obtain ⟨c0,c1⟩:=HCs.out
  match i,hi with
  | 0,hi=>exact (by simpa using hi) ▸ c0
  | 1,hi=>exact (by simpa using hi) ▸ c1
  | n+2,hi=>simp [Value.cells] at hi
theorem GeoBuildGeometryCollection {D:(Nat→Prop)→World→Value→Raw→Prop} (K:DK0 D) (hfm:∀ {B:Nat→Prop} {W:World} {x:Value} {t:Raw},D B W x t→∃ (ep:Option Addr) (en ec er:Nat),x=.agg #[.slice ep en ec,.int .u8 er]) (h:Nat) (B:Nat→Prop) (HB:∀ (W:World) (k d:Int) (p:Option Addr) (n cap:Nat) (q:Option Addr) (m c2:Nat) (f:Nat→Nat) (kids:List Raw),kids.length=m→KD B h W (.agg #[.int .i64 k,.int .i64 d,.slice p n cap,.slice q m c2]) (.mk k d n f kids)→wts kids≤2513169434843→(k<1∨6<k)→Calls Tryz.prog 60 #[.agg #[.int .i64 k,.int .i64 d,.slice p n cap,.slice q m c2]] W (MPost D W (newT (.mk k d n f kids))))  (W:World) (k d:Int) (p:Option Addr) (n cap:Nat) (q:Option Addr) (m c2:Nat) (f:Nat→Nat) (kids:List Raw) (hm:kids.length=m) (hk:KD B h W (.agg #[.int .i64 k,.int .i64 d,.slice p n cap,.slice q m c2]) (.mk k d n f kids)) (hw:wts kids≤2513169434843) (hk1:(k<1∨6<k)) :
    Calls Tryz.prog 29 #[.agg #[.int .i64 k,.int .i64 d,.slice p n cap,.slice q m c2]] W (MPost (GeoK 0 183 D) W (newT (.mk k d n f kids))):=by
  have hkn:kindOf (newT (.mk k d n f kids))=0:=by rw [kindOf_new];show kindN k=0;unfold kindN;split <;> omega
  have HFM:Hid (∀ (B:Nat→Prop) (W:World) (x:Value) (t:Raw),D B W x t→∃ (ep:Option Addr) (en ec er:Nat),x=.agg #[.slice ep en ec,.int .u8 er]):=fun B W x t h=>hfm h
  have n1:(k==1)=false:=by rw [beq_eq_false_iff_ne];omega
  have n2:(k==2)=false:=by rw [beq_eq_false_iff_ne];omega
  have n3:(k==3)=false:=by rw [beq_eq_false_iff_ne];omega
  have n4:(k==4)=false:=by rw [beq_eq_false_iff_ne];omega
  have n5:(k==5)=false:=by rw [beq_eq_false_iff_ne];omega
  have n6:(k==6)=false:=by rw [beq_eq_false_iff_ne];omega
  have HT:=Lib.hid (fun w (g:W.grownBy w none)=>HB w k d p n cap q m c2 f kids hm (hk.mono g) hw hk1)
  have HG:=Lib.hid (gt_alloc_r (World.grownBy_alloc W (.cells #[.int .i64 k,.int .i64 d,.slice p n cap,.slice q m c2] 33) none) (.cells #[.int .i64 0,.nilIface] 57))
  have HC2:Hid (∀ w,((W.alloc (.cells #[.int .i64 k,.int .i64 d,.slice p n cap,.slice q m c2] 33)).alloc (.cells #[.int .i64 0,.nilIface] 57)).grownBy w none→w.cell? ⟨W.heap.size+1,0,none⟩=some (.int .i64 0)∧w.cell? ⟨W.heap.size+1,1,none⟩=some .nilIface∧w.frozen? ⟨W.heap.size+1,0,none⟩=false∧w.frozen? ⟨W.heap.size+1,1,none⟩=false):=fun w g=>by
    have hb:=g.block (W.heap.size+1) (by simp) (by simp)
    refine ⟨g.cell (by simp) (by simp),g.cell (by simp) (by simp),?_,?_⟩ <;> (rw [World.frozen?_of_block hb];simp)
  generalize newT (.mk k d n f kids)=tn at HT hkn ⊢
  have hfin:Hid (∀ (w1 w2 w3:World) (x:Value),((W.alloc (.cells #[.int .i64 k,.int .i64 d,.slice p n cap,.slice q m c2] 33)).alloc (.cells #[.int .i64 0,.nilIface] 57)).grownBy w1 none→w1.grownBy w2 none→D (Fr w1 w2) w2 x tn→w2.grownBy w3 none→w2.heap.size<w3.heap.size→(∀ i u,x.cells[i]?=some u→w3.cell? ⟨w2.heap.size,i,none⟩=some u)→MPost (GeoK 0 183 D) W tn (.returned (.agg #[.int .i64 0,.iface 183 (.pointer (some ⟨w2.heap.size,0,none⟩))])) ((w3.setCell ⟨W.heap.size+1,0,none⟩ (.int .i64 0)).setCell ⟨W.heap.size+1,1,none⟩ (.iface 183 (.pointer (some ⟨w2.heap.size,0,none⟩))))):=fun w1 w2 w3 x g1 g2 hd g3 hlt hx=>by
    have s0:W.heap.size+2≤w1.heap.size:=by have:=g1.size;simp at this;omega
    have s2:=g2.size
    have nB:∀ b,Fr w1 w2 b→b≠W.heap.size+1:=fun b hb e=>by have:=hb.1;omega
    have hd3:=K.mono g3 hd
    have hd4:=K.keep (.set (q:=⟨W.heap.size+1,1,none⟩) (fun hb=>nB _ hb rfl) (.iface 183 (.pointer (some ⟨w2.heap.size,0,none⟩)))) (K.keep (.set (q:=⟨W.heap.size+1,0,none⟩) (fun hb=>nB _ hb rfl) (.int .i64 0)) hd3)
    refine ⟨_,rfl,⟨w2.heap.size,x,hkn,rfl,⟨by omega,by simpa [World.setCell] using hlt⟩,fun i u hi=>?_,K.weak (fun b hb=>?_) hd4⟩,gt_set_r (gt_set_r (gt_trans (gt_trans (gt_trans HG.out g1 (.inl rfl)) g2 (.inl rfl)) g3 (.inl rfl)) _ _ (by show W.heap.size≤W.heap.size+1;omega)) _ _ (by show W.heap.size≤W.heap.size+1;omega)⟩
    · rw [World.cell?_setCell_other (h:=fun e=>by have:=congrArg Addr.block e;simp at this;omega),World.cell?_setCell_other (h:=fun e=>by have:=congrArg Addr.block e;simp at this;omega)]
      exact hx i u hi
    · exact ⟨by have:=hb.1;omega,by have:=hb.2;have:=g3.size;simpa [World.setCell] using (by omega:b<w3.heap.size)⟩
  clear hk hw hfm HB hkn hm
  go_enter Tryz.func29,Tryz.ntmps29
  go_wp2_with (first
    | (go_at_call 60;refine (HT.out _ HG.out).mono ?_;rintro e w2 ⟨x2,rfl,hd2,hg2⟩;obtain ⟨ep2,en2,ec2,er2,rfl⟩:=HFM.out _ _ _ _ hd2;have HD2:=Lib.hid hd2;clear hd2)
    | (go_at_call 61;refine (AsGeometryCollection _ _ _ _ _).mono ?_;rintro e w3 ⟨rfl,hcs,hlt,hg3⟩;obtain ⟨x0,x1,f0,f1⟩:=HC2.out _ (gt_trans hg2 hg3 (.inl rfl));have HCs:=Lib.hid hcs;clear hcs))
  refine bodyPost_ret (by simp [results,Tryz.results29,go_sem,x0,x1];try rfl) rfl ?_
  refine hfin.out _ _ _ _ (gt_refl _ _) hg2 HD2.out hg3 hlt (fun i u hi=>?_)
  obtain ⟨c0,c1⟩:=HCs.out
  match i,hi with
  | 0,hi=>exact (by simpa using hi) ▸ c0
  | 1,hi=>exact (by simpa using hi) ▸ c1
  | n+2,hi=>simp [Value.cells] at hi
end
end Go.Proofs.YtlpaecafpbbbkaaGreatDoor
