/- Geometries of the package: what they are in memory; their type of coordinates. Geometries of the package, made. Geometries of the package at any depth: brought to a type of coordinates, made of plain data. -/
import Derived.Test.YtlpaecafpbbbkaaGreatDoorBYT11
set_option linter.unusedVariables false
set_option linter.unusedSimpArgs false
set_option maxRecDepth 100000
set_option maxHeartbeats 24000000
namespace Go.Proofs.YtlpaecafpbbbkaaGreatDoor
section
open Go.RowKit
def GeoK (k:Int) (ty:Nat) (D:(Nat→Prop)→World→Value→Raw→Prop) (B:Nat→Prop) (W:World) (v:Value) (t:Raw):Prop:=∃ b x,kindOf t=k∧v=.agg #[.int .i64 k,.iface ty (.pointer (some ⟨b,0,none⟩))]∧B b∧(∀ i u,x.cells[i]?=some u→W.cell? ⟨b,i,none⟩=some u)∧D B W x t
theorem GeoK.dk {k:Int} {ty:Nat} {D:(Nat→Prop)→World→Value→Raw→Prop} (K:DK0 D):DK (GeoK k ty D) where
  keep:=fun g ⟨b,x,hk,hv,hB,hx,hd⟩=>⟨b,x,hk,hv,hB,fun i u hi=>g _ _ hB (hx i u hi),K.keep g hd⟩
  weak:=fun hl ⟨b,x,hk,hv,hB,hx,hd⟩=>⟨b,x,hk,hv,hl _ hB,hx,K.weak hl hd⟩
  one:=fun ⟨b,x,hk,hv,hB,hx,hd⟩=>⟨_,_,hv,rfl,rfl⟩
theorem kind_force (r:Nat) (t:Raw):kindOf (forceT r t)=kindOf t:=by cases t;rfl
theorem GeoCTPoint {D:(Nat→Prop)→World→Value→Raw→Prop} (K:DK0 D) (hfm:∀ {B:Nat→Prop} {W:World} {x:Value} {t:Raw},D B W x t→∃ (fx fy fz fm er:Nat) (eb:Bool),x=.agg #[.float .f64 fx,.float .f64 fy,.float .f64 fz,.float .f64 fm,.int .u8 er,.bool eb]) (HC:CC D 140):CC (GeoK 1 165 D) 171:=by
  intro B W v t ⟨b,x,hkd,hv,hB,hx,hd⟩
  subst hv
  obtain ⟨fx,fy,fz,fm,er,eb,rfl⟩:=hfm hd
  have h0:=hx 0 (.float .f64 fx) rfl
  have h1:=hx 1 (.float .f64 fy) rfl
  have h2:=hx 2 (.float .f64 fz) rfl
  have h3:=hx 3 (.float .f64 fm) rfl
  have h4:=hx 4 (.int .u8 er) rfl
  have h5:=hx 5 (.bool eb) rfl
  have hb:b<W.heap.size:=World.block_lt_of_cell? W _ h0
  have HM:=Lib.hid (fun w (g:W.grownBy w none)=>MustAsPoint _ _ _ _ _ _ b w (g.cell h0 (by simp)) (g.cell h1 (by simp)) (g.cell h2 (by simp)) (g.cell h3 (by simp)) (g.cell h4 (by simp)) (g.cell h5 (by simp)) (Nat.lt_of_lt_of_le hb g.size))
  have HT:=Lib.hid (fun w (g:W.grownBy w none)=>HC B w _ t (K.mono g hd))
  have HG:=Lib.hid (World.grownBy_alloc W (.cells #[.int .i64 1,.iface 165 (.pointer (some ⟨b,0,none⟩))] 57) none)
  generalize dimR t=dt at HT ⊢
  clear hx hd HC hfm
  go_enter Tryz.func171,Tryz.ntmps171
  go_wp2_with (first
    | (go_at_call 75;refine (HM.out _ HG.out).mono ?_;rintro e w2 ⟨rfl,hg2⟩;have G2:=gt_trans HG.out hg2 (.inl rfl))
    | (go_at_call 140;refine (HT.out _ G2).mono ?_;rintro e w3 ⟨rfl,hg3⟩))
  go_ret
  exact ⟨rfl,gt_trans G2 hg3 (.inl rfl)⟩
theorem GeoForcePoint {D:(Nat→Prop)→World→Value→Raw→Prop} (K:DK0 D) (hfm:∀ {B:Nat→Prop} {W:World} {x:Value} {t:Raw},D B W x t→∃ (fx fy fz fm er:Nat) (eb:Bool),x=.agg #[.float .f64 fx,.float .f64 fy,.float .f64 fz,.float .f64 fm,.int .u8 er,.bool eb]) (HC:FC D 213):FC (GeoK 1 165 D) 170:=by
  intro B W v t r' ⟨b,x,hkd,hv,hB1,hx,hd⟩ hok hr' hB
  subst hv
  obtain ⟨fx,fy,fz,fm,er,eb,rfl⟩:=hfm hd
  have h0:=hx 0 (.float .f64 fx) rfl
  have h1:=hx 1 (.float .f64 fy) rfl
  have h2:=hx 2 (.float .f64 fz) rfl
  have h3:=hx 3 (.float .f64 fm) rfl
  have h4:=hx 4 (.int .u8 er) rfl
  have h5:=hx 5 (.bool eb) rfl
  have hb:b<W.heap.size:=World.block_lt_of_cell? W _ h0
  have HFM:Hid (∀ (B:Nat→Prop) (W:World) (x:Value) (t:Raw),D B W x t→∃ (fx fy fz fm er:Nat) (eb:Bool),x=.agg #[.float .f64 fx,.float .f64 fy,.float .f64 fz,.float .f64 fm,.int .u8 er,.bool eb]):=fun B W x t h=>hfm h
  have HM:=Lib.hid (fun w (g:W.grownBy w none)=>MustAsPoint _ _ _ _ _ _ b w (g.cell h0 (by simp)) (g.cell h1 (by simp)) (g.cell h2 (by simp)) (g.cell h3 (by simp)) (g.cell h4 (by simp)) (g.cell h5 (by simp)) (Nat.lt_of_lt_of_le hb g.size))
  have HT:=Lib.hid (fun w (g:W.grownBy w none)=>HC B w _ t r' (K.mono g hd) hok hr' (fun b hb=>Nat.lt_of_lt_of_le (hB b hb) g.size))
  have HG:=Lib.hid (gt_alloc_r (World.grownBy_alloc W (.cells #[.int .i64 1,.iface 165 (.pointer (some ⟨b,0,none⟩))] 57) none) (.cells #[.int .i64 0,.nilIface] 57))
  have HC2:Hid (∀ w,((W.alloc (.cells #[.int .i64 1,.iface 165 (.pointer (some ⟨b,0,none⟩))] 57)).alloc (.cells #[.int .i64 0,.nilIface] 57)).grownBy w none→w.cell? ⟨W.heap.size+1,0,none⟩=some (.int .i64 0)∧w.cell? ⟨W.heap.size+1,1,none⟩=some .nilIface∧w.frozen? ⟨W.heap.size+1,0,none⟩=false∧w.frozen? ⟨W.heap.size+1,1,none⟩=false):=fun w g=>by
    have hb:=g.block (W.heap.size+1) (by simp) (by simp)
    refine ⟨g.cell (by simp) (by simp),g.cell (by simp) (by simp),?_,?_⟩ <;> (rw [World.frozen?_of_block hb];simp)
  have hfin:Hid (∀ (w1 w2 w3:World) (x:Value),((W.alloc (.cells #[.int .i64 1,.iface 165 (.pointer (some ⟨b,0,none⟩))] 57)).alloc (.cells #[.int .i64 0,.nilIface] 57)).grownBy w1 none→w1.grownBy w2 none→D (fun b=>B b∨Fr w1 w2 b) w2 x (forceT r' t)→w2.grownBy w3 none→w2.heap.size<w3.heap.size→(∀ i u,x.cells[i]?=some u→w3.cell? ⟨w2.heap.size,i,none⟩=some u)→FPost (GeoK 1 165 D) B W (forceT r' t) (.returned (.agg #[.int .i64 1,.iface 165 (.pointer (some ⟨w2.heap.size,0,none⟩))])) ((w3.setCell ⟨W.heap.size+1,0,none⟩ (.int .i64 1)).setCell ⟨W.heap.size+1,1,none⟩ (.iface 165 (.pointer (some ⟨w2.heap.size,0,none⟩))))):=fun w1 w2 w3 x g1 g2 hd g3 hlt hx=>by
    have s0:W.heap.size+2≤w1.heap.size:=by have:=g1.size;simp at this;omega
    have s2:=g2.size
    have nB:∀ b,(B b∨Fr w1 w2 b)→b≠W.heap.size+1:=fun b hb e=>by
      rcases hb with hb | hb
      · have:=hB b hb;omega
      · have:=hb.1;omega
    have hd3:=K.mono g3 hd
    have hd4:=K.keep (.set (q:=⟨W.heap.size+1,1,none⟩) (fun hb=>nB _ hb rfl) (.iface 165 (.pointer (some ⟨w2.heap.size,0,none⟩)))) (K.keep (.set (q:=⟨W.heap.size+1,0,none⟩) (fun hb=>nB _ hb rfl) (.int .i64 1)) hd3)
    refine ⟨_,rfl,⟨w2.heap.size,x,by rw [kind_force];exact hkd,rfl,.inr ⟨by omega,by simpa [World.setCell] using hlt⟩,fun i u hi=>?_,K.weak (fun b hb=>?_) hd4⟩,gt_set_r (gt_set_r (gt_trans (gt_trans (gt_trans HG.out g1 (.inl rfl)) g2 (.inl rfl)) g3 (.inl rfl)) _ _ (by show W.heap.size≤W.heap.size+1;omega)) _ _ (by show W.heap.size≤W.heap.size+1;omega)⟩
    · rw [World.cell?_setCell_other (h:=fun e=>by have:=congrArg Addr.block e;simp at this;omega),World.cell?_setCell_other (h:=fun e=>by have:=congrArg Addr.block e;simp at this;omega)]
      exact hx i u hi
    · rcases hb with hb | hb
      · exact .inl hb
      · exact .inr ⟨by have:=hb.1;omega,by have:=hb.2;have:=g3.size;simpa [World.setCell] using (by omega:b<w3.heap.size)⟩
  clear hx hd HC hfm hok hr'
  go_enter Tryz.func170,Tryz.ntmps170
  go_wp2_with (first
    | (go_at_call 75;refine (HM.out _ HG.out).mono ?_;rintro e w1 ⟨rfl,hg1⟩;have G1:=gt_trans HG.out hg1 (.inl rfl))
    | (go_at_call 213;refine (HT.out _ G1).mono ?_;rintro e w2 ⟨x2,rfl,hd2,hg2⟩;obtain ⟨fx2,fy2,fz2,fm2,er2,eb2,rfl⟩:=HFM.out _ _ _ _ hd2;have HD2:=Lib.hid hd2;clear hd2)
    | (go_at_call 49;refine (AsPoint _ _ _ _ _ _ _).mono ?_;rintro e w3 ⟨rfl,hcs,hlt,hg3⟩;obtain ⟨x0,x1,f0,f1⟩:=HC2.out _ (gt_trans (gt_trans hg1 hg2 (.inl rfl)) hg3 (.inl rfl));have HCs:=Lib.hid hcs;clear hcs))
  refine bodyPost_ret (by simp [results,Tryz.results170,go_sem,x0,x1];try rfl) rfl ?_
  refine hfin.out _ _ _ _ hg1 hg2 HD2.out hg3 hlt (fun i u hi=>?_)
  obtain ⟨c0,c1,c2,c3,c4,c5⟩:=HCs.out
  match i,hi with
  | 0,hi=>exact (by simpa using hi) ▸ c0
  | 1,hi=>exact (by simpa using hi) ▸ c1
  | 2,hi=>exact (by simpa using hi) ▸ c2
  | 3,hi=>exact (by simpa using hi) ▸ c3
  | 4,hi=>exact (by simpa using hi) ▸ c4
  | 5,hi=>exact (by simpa using hi) ▸ c5
  | n+6,hi=>simp [Value.cells] at hi
theorem GeoCTLineString {D:(Nat→Prop)→World→Value→Raw→Prop} (K:DK0 D) (hfm:∀ {B:Nat→Prop} {W:World} {x:Value} {t:Raw},D B W x t→∃ (er:Nat) (ep:Option Addr) (en ec:Nat),x=.agg #[.int .u8 er,.slice ep en ec]) (HC:CC D 129):CC (GeoK 2 167 D) 171:=by
  intro B W v t ⟨b,x,hkd,hv,hB,hx,hd⟩
  subst hv
  obtain ⟨er,ep,en,ec,rfl⟩:=hfm hd
  have h0:=hx 0 (.int .u8 er) rfl
  have h1:=hx 1 (.slice ep en ec) rfl
  have hb:b<W.heap.size:=World.block_lt_of_cell? W _ h0
  have HM:=Lib.hid (fun w (g:W.grownBy w none)=>MustAsLineString _ _ _ _ b w (g.cell h0 (by simp)) (g.cell h1 (by simp)) (Nat.lt_of_lt_of_le hb g.size))
  have HT:=Lib.hid (fun w (g:W.grownBy w none)=>HC B w _ t (K.mono g hd))
  have HG:=Lib.hid (World.grownBy_alloc W (.cells #[.int .i64 2,.iface 167 (.pointer (some ⟨b,0,none⟩))] 57) none)
  generalize dimR t=dt at HT ⊢
  clear hx hd HC hfm
  go_enter Tryz.func171,Tryz.ntmps171
  go_wp2_with (first
    | (go_at_call 64;refine (HM.out _ HG.out).mono ?_;rintro e w2 ⟨rfl,hg2⟩;have G2:=gt_trans HG.out hg2 (.inl rfl))
    | (go_at_call 129;refine (HT.out _ G2).mono ?_;rintro e w3 ⟨rfl,hg3⟩))
  go_ret
  exact ⟨rfl,gt_trans G2 hg3 (.inl rfl)⟩
theorem GeoForceLineString {D:(Nat→Prop)→World→Value→Raw→Prop} (K:DK0 D) (hfm:∀ {B:Nat→Prop} {W:World} {x:Value} {t:Raw},D B W x t→∃ (er:Nat) (ep:Option Addr) (en ec:Nat),x=.agg #[.int .u8 er,.slice ep en ec]) (HC:FC D 128):FC (GeoK 2 167 D) 170:=by
  intro B W v t r' ⟨b,x,hkd,hv,hB1,hx,hd⟩ hok hr' hB
  subst hv
  obtain ⟨er,ep,en,ec,rfl⟩:=hfm hd
  have h0:=hx 0 (.int .u8 er) rfl
  have h1:=hx 1 (.slice ep en ec) rfl
  have hb:b<W.heap.size:=World.block_lt_of_cell? W _ h0
  have HFM:Hid (∀ (B:Nat→Prop) (W:World) (x:Value) (t:Raw),D B W x t→∃ (er:Nat) (ep:Option Addr) (en ec:Nat),x=.agg #[.int .u8 er,.slice ep en ec]):=fun B W x t h=>hfm h
  have HM:=Lib.hid (fun w (g:W.grownBy w none)=>MustAsLineString _ _ _ _ b w (g.cell h0 (by simp)) (g.cell h1 (by simp)) (Nat.lt_of_lt_of_le hb g.size))
  have HT:=Lib.hid (fun w (g:W.grownBy w none)=>HC B w _ t r' (K.mono g hd) hok hr' (fun b hb=>Nat.lt_of_lt_of_le (hB b hb) g.size))
  have HG:=Lib.hid (gt_alloc_r (World.grownBy_alloc W (.cells #[.int .i64 2,.iface 167 (.pointer (some ⟨b,0,none⟩))] 57) none) (.cells #[.int .i64 0,.nilIface] 57))
  have HC2:Hid (∀ w,((W.alloc (.cells #[.int .i64 2,.iface 167 (.pointer (some ⟨b,0,none⟩))] 57)).alloc (.cells #[.int .i64 0,.nilIface] 57)).grownBy w none→w.cell? ⟨W.heap.size+1,0,none⟩=some (.int .i64 0)∧w.cell? ⟨W.heap.size+1,1,none⟩=some .nilIface∧w.frozen? ⟨W.heap.size+1,0,none⟩=false∧w.frozen? ⟨W.heap.size+1,1,none⟩=false):=fun w g=>by
    have hb:=g.block (W.heap.size+1) (by simp) (by simp)
    refine ⟨g.cell (by simp) (by simp),g.cell (by simp) (by simp),?_,?_⟩ <;> (rw [World.frozen?_of_block hb];simp)
  have hfin:Hid (∀ (w1 w2 w3:World) (x:Value),((W.alloc (.cells #[.int .i64 2,.iface 167 (.pointer (some ⟨b,0,none⟩))] 57)).alloc (.cells #[.int .i64 0,.nilIface] 57)).grownBy w1 none→w1.grownBy w2 none→D (fun b=>B b∨Fr w1 w2 b) w2 x (forceT r' t)→w2.grownBy w3 none→w2.heap.size<w3.heap.size→(∀ i u,x.cells[i]?=some u→w3.cell? ⟨w2.heap.size,i,none⟩=some u)→FPost (GeoK 2 167 D) B W (forceT r' t) (.returned (.agg #[.int .i64 2,.iface 167 (.pointer (some ⟨w2.heap.size,0,none⟩))])) ((w3.setCell ⟨W.heap.size+1,0,none⟩ (.int .i64 2)).setCell ⟨W.heap.size+1,1,none⟩ (.iface 167 (.pointer (some ⟨w2.heap.size,0,none⟩))))):=fun w1 w2 w3 x g1 g2 hd g3 hlt hx=>by
    have s0:W.heap.size+2≤w1.heap.size:=by have:=g1.size;simp at this;omega
    have s2:=g2.size
    have nB:∀ b,(B b∨Fr w1 w2 b)→b≠W.heap.size+1:=fun b hb e=>by
      rcases hb with hb | hb
      · have:=hB b hb;omega
      · have:=hb.1;omega
    have hd3:=K.mono g3 hd
    have hd4:=K.keep (.set (q:=⟨W.heap.size+1,1,none⟩) (fun hb=>nB _ hb rfl) (.iface 167 (.pointer (some ⟨w2.heap.size,0,none⟩)))) (K.keep (.set (q:=⟨W.heap.size+1,0,none⟩) (fun hb=>nB _ hb rfl) (.int .i64 2)) hd3)
    refine ⟨_,rfl,⟨w2.heap.size,x,by rw [kind_force];exact hkd,rfl,.inr ⟨by omega,by simpa [World.setCell] using hlt⟩,fun i u hi=>?_,K.weak (fun b hb=>?_) hd4⟩,gt_set_r (gt_set_r (gt_trans (gt_trans (gt_trans HG.out g1 (.inl rfl)) g2 (.inl rfl)) g3 (.inl rfl)) _ _ (by show W.heap.size≤W.heap.size+1;omega)) _ _ (by show W.heap.size≤W.heap.size+1;omega)⟩
    · rw [World.cell?_setCell_other (h:=fun e=>by have:=congrArg Addr.block e;simp at this;omega),World.cell?_setCell_other (h:=fun e=>by have:=congrArg Addr.block e;simp at this;omega)]
      exact hx i u hi
    · rcases hb with hb | hb
      · exact .inl hb
      · exact .inr ⟨by have:=hb.1;omega,by have:=hb.2;have:=g3.size;simpa [World.setCell] using (by omega:b<w3.heap.size)⟩
  clear hx hd HC hfm hok hr'
  go_enter Tryz.func170,Tryz.ntmps170
  go_wp2_with (first
    | (go_at_call 64;refine (HM.out _ HG.out).mono ?_;rintro e w1 ⟨rfl,hg1⟩;have G1:=gt_trans HG.out hg1 (.inl rfl))
    | (go_at_call 128;refine (HT.out _ G1).mono ?_;rintro e w2 ⟨x2,rfl,hd2,hg2⟩;obtain ⟨er2,ep2,en2,ec2,rfl⟩:=HFM.out _ _ _ _ hd2;have HD2:=Lib.hid hd2;clear hd2)
    | (go_at_call 51;refine (AsLineString _ _ _ _ _).mono ?_;rintro e w3 ⟨rfl,hcs,hlt,hg3⟩;obtain ⟨x0,x1,f0,f1⟩:=HC2.out _ (gt_trans (gt_trans hg1 hg2 (.inl rfl)) hg3 (.inl rfl));have HCs:=Lib.hid hcs;clear hcs))
  refine bodyPost_ret (by simp [results,Tryz.results170,go_sem,x0,x1];try rfl) rfl ?_
  refine hfin.out _ _ _ _ hg1 hg2 HD2.out hg3 hlt (fun i u hi=>?_)
  obtain ⟨c0,c1⟩:=HCs.out
  match i,hi with
  | 0,hi=>exact (by simpa using hi) ▸ c0
  | 1,hi=>exact (by simpa using hi) ▸ c1
  | n+2,hi=>simp [Value.cells] at hi
theorem GeoCTPolygon {D:(Nat→Prop)→World→Value→Raw→Prop} (K:DK0 D) (hfm:∀ {B:Nat→Prop} {W:World} {x:Value} {t:Raw},D B W x t→∃ (ep:Option Addr) (en ec er:Nat),x=.agg #[.slice ep en ec,.int .u8 er]) (HC:CC D 145):CC (GeoK 3 170 D) 171:=by
  intro B W v t ⟨b,x,hkd,hv,hB,hx,hd⟩
  subst hv
  obtain ⟨ep,en,ec,er,rfl⟩:=hfm hd
  have h0:=hx 0 (.slice ep en ec) rfl
  have h1:=hx 1 (.int .u8 er) rfl
  have hb:b<W.heap.size:=World.block_lt_of_cell? W _ h0
  have HM:=Lib.hid (fun w (g:W.grownBy w none)=>MustAsPolygon _ _ _ _ b w (g.cell h0 (by simp)) (g.cell h1 (by simp)) (Nat.lt_of_lt_of_le hb g.size))
  have HT:=Lib.hid (fun w (g:W.grownBy w none)=>HC B w _ t (K.mono g hd))
  have HG:=Lib.hid (World.grownBy_alloc W (.cells #[.int .i64 3,.iface 170 (.pointer (some ⟨b,0,none⟩))] 57) none)
  generalize dimR t=dt at HT ⊢
  clear hx hd HC hfm
  go_enter Tryz.func171,Tryz.ntmps171
  go_wp2_with (first
    | (go_at_call 66;refine (HM.out _ HG.out).mono ?_;rintro e w2 ⟨rfl,hg2⟩;have G2:=gt_trans HG.out hg2 (.inl rfl))
    | (go_at_call 145;refine (HT.out _ G2).mono ?_;rintro e w3 ⟨rfl,hg3⟩))
  go_ret
  exact ⟨rfl,gt_trans G2 hg3 (.inl rfl)⟩
theorem GeoForcePolygon {D:(Nat→Prop)→World→Value→Raw→Prop} (K:DK0 D) (hfm:∀ {B:Nat→Prop} {W:World} {x:Value} {t:Raw},D B W x t→∃ (ep:Option Addr) (en ec er:Nat),x=.agg #[.slice ep en ec,.int .u8 er]) (HC:FC D 108):FC (GeoK 3 170 D) 170:=by
  intro B W v t r' ⟨b,x,hkd,hv,hB1,hx,hd⟩ hok hr' hB
  subst hv
  obtain ⟨ep,en,ec,er,rfl⟩:=hfm hd
  have h0:=hx 0 (.slice ep en ec) rfl
  have h1:=hx 1 (.int .u8 er) rfl
  have hb:b<W.heap.size:=World.block_lt_of_cell? W _ h0
  have HFM:Hid (∀ (B:Nat→Prop) (W:World) (x:Value) (t:Raw),D B W x t→∃ (ep:Option Addr) (en ec er:Nat),x=.agg #[.slice ep en ec,.int .u8 er]):=fun B W x t h=>hfm h
  have HM:=Lib.hid (fun w (g:W.grownBy w none)=>MustAsPolygon _ _ _ _ b w (g.cell h0 (by simp)) (g.cell h1 (by simp)) (Nat.lt_of_lt_of_le hb g.size))
  have HT:=Lib.hid (fun w (g:W.grownBy w none)=>HC B w _ t r' (K.mono g hd) hok hr' (fun b hb=>Nat.lt_of_lt_of_le (hB b hb) g.size))
  have HG:=Lib.hid (gt_alloc_r (World.grownBy_alloc W (.cells #[.int .i64 3,.iface 170 (.pointer (some ⟨b,0,none⟩))] 57) none) (.cells #[.int .i64 0,.nilIface] 57))
  have HC2:Hid (∀ w,((W.alloc (.cells #[.int .i64 3,.iface 170 (.pointer (some ⟨b,0,none⟩))] 57)).alloc (.cells #[.int .i64 0,.nilIface] 57)).grownBy w none→w.cell? ⟨W.heap.size+1,0,none⟩=some (.int .i64 0)∧w.cell? ⟨W.heap.size+1,1,none⟩=some .nilIface∧w.frozen? ⟨W.heap.size+1,0,none⟩=false∧w.frozen? ⟨W.heap.size+1,1,none⟩=false):=fun w g=>by
    have hb:=g.block (W.heap.size+1) (by simp) (by simp)
    refine ⟨g.cell (by simp) (by simp),g.cell (by simp) (by simp),?_,?_⟩ <;> (rw [World.frozen?_of_block hb];simp)
  have hfin:Hid (∀ (w1 w2 w3:World) (x:Value),((W.alloc (.cells #[.int .i64 3,.iface 170 (.pointer (some ⟨b,0,none⟩))] 57)).alloc (.cells #[.int .i64 0,.nilIface] 57)).grownBy w1 none→w1.grownBy w2 none→D (fun b=>B b∨Fr w1 w2 b) w2 x (forceT r' t)→w2.grownBy w3 none→w2.heap.size<w3.heap.size→(∀ i u,x.cells[i]?=some u→w3.cell? ⟨w2.heap.size,i,none⟩=some u)→FPost (GeoK 3 170 D) B W (forceT r' t) (.returned (.agg #[.int .i64 3,.iface 170 (.pointer (some ⟨w2.heap.size,0,none⟩))])) ((w3.setCell ⟨W.heap.size+1,0,none⟩ (.int .i64 3)).setCell ⟨W.heap.size+1,1,none⟩ (.iface 170 (.pointer (some ⟨w2.heap.size,0,none⟩))))):=fun w1 w2 w3 x g1 g2 hd g3 hlt hx=>by
    have s0:W.heap.size+2≤w1.heap.size:=by have:=g1.size;simp at this;omega
    have s2:=g2.size
    have nB:∀ b,(B b∨Fr w1 w2 b)→b≠W.heap.size+1:=fun b hb e=>by
      rcases hb with hb | hb
      · have:=hB b hb;omega
      · have:=hb.1;omega
    have hd3:=K.mono g3 hd
    have hd4:=K.keep (.set (q:=⟨W.heap.size+1,1,none⟩) (fun hb=>nB _ hb rfl) (.iface 170 (.pointer (some ⟨w2.heap.size,0,none⟩)))) (K.keep (.set (q:=⟨W.heap.size+1,0,none⟩) (fun hb=>nB _ hb rfl) (.int .i64 3)) hd3)
    refine ⟨_,rfl,⟨w2.heap.size,x,by rw [kind_force];exact hkd,rfl,.inr ⟨by omega,by simpa [World.setCell] using hlt⟩,fun i u hi=>?_,K.weak (fun b hb=>?_) hd4⟩,gt_set_r (gt_set_r (gt_trans (gt_trans (gt_trans HG.out g1 (.inl rfl)) g2 (.inl rfl)) g3 (.inl rfl)) _ _ (by show W.heap.size≤W.heap.size+1;omega)) _ _ (by show W.heap.size≤W.heap.size+1;omega)⟩
    · rw [World.cell?_setCell_other (h:=fun e=>by have:=congrArg Addr.block e;simp at this;omega),World.cell?_setCell_other (h:=fun e=>by have:=congrArg Addr.block e;simp at this;omega)]
      exact hx i u hi
    · rcases hb with hb | hb
      · exact .inl hb
      · exact .inr ⟨by have:=hb.1;omega,by have:=hb.2;have:=g3.size;simpa [World.setCell] using (by omega:b<w3.heap.size)⟩
  clear hx hd HC hfm hok hr'
  go_enter Tryz.func170,Tryz.ntmps170
  go_wp2_with (first
    | (go_at_call 66;refine (HM.out _ HG.out).mono ?_;rintro e w1 ⟨rfl,hg1⟩;have G1:=gt_trans HG.out hg1 (.inl rfl))
    | (go_at_call 108;refine (HT.out _ G1).mono ?_;rintro e w2 ⟨x2,rfl,hd2,hg2⟩;obtain ⟨ep2,en2,ec2,er2,rfl⟩:=HFM.out _ _ _ _ hd2;have HD2:=Lib.hid hd2;clear hd2)
    | (go_at_call 53;refine (AsPolygon _ _ _ _ _).mono ?_;rintro e w3 ⟨rfl,hcs,hlt,hg3⟩;obtain ⟨x0,x1,f0,f1⟩:=HC2.out _ (gt_trans (gt_trans hg1 hg2 (.inl rfl)) hg3 (.inl rfl));have HCs:=Lib.hid hcs;clear hcs))
  refine bodyPost_ret (by simp [results,Tryz.results170,go_sem,x0,x1];try rfl) rfl ?_
  refine hfin.out _ _ _ _ hg1 hg2 HD2.out hg3 hlt (fun i u hi=>?_)
  obtain ⟨c0,c1⟩:=HCs.out
  match i,hi with
  | 0,hi=>exact (by simpa using hi) ▸ c0
  | 1,hi=>exact (by simpa using hi) ▸ c1
  | n+2,hi=>simp [Value.cells] at hi
theorem GeoCTMultiPoint {D:(Nat→Prop)→World→Value→Raw→Prop} (K:DK0 D) (hfm:∀ {B:Nat→Prop} {W:World} {x:Value} {t:Raw},D B W x t→∃ (ep:Option Addr) (en ec er:Nat),x=.agg #[.slice ep en ec,.int .u8 er]) (HC:CC D 147):CC (GeoK 4 173 D) 171:=by
  intro B W v t ⟨b,x,hkd,hv,hB,hx,hd⟩
  subst hv
  obtain ⟨ep,en,ec,er,rfl⟩:=hfm hd
  have h0:=hx 0 (.slice ep en ec) rfl
  have h1:=hx 1 (.int .u8 er) rfl
  have hb:b<W.heap.size:=World.block_lt_of_cell? W _ h0
  have HM:=Lib.hid (fun w (g:W.grownBy w none)=>MustAsMultiPoint _ _ _ _ b w (g.cell h0 (by simp)) (g.cell h1 (by simp)) (Nat.lt_of_lt_of_le hb g.size))
  have HT:=Lib.hid (fun w (g:W.grownBy w none)=>HC B w _ t (K.mono g hd))
  have HG:=Lib.hid (World.grownBy_alloc W (.cells #[.int .i64 4,.iface 173 (.pointer (some ⟨b,0,none⟩))] 57) none)
  generalize dimR t=dt at HT ⊢
  clear hx hd HC hfm
  go_enter Tryz.func171,Tryz.ntmps171
  go_wp2_with (first
    | (go_at_call 79;refine (HM.out _ HG.out).mono ?_;rintro e w2 ⟨rfl,hg2⟩;have G2:=gt_trans HG.out hg2 (.inl rfl))
    | (go_at_call 147;refine (HT.out _ G2).mono ?_;rintro e w3 ⟨rfl,hg3⟩))
  go_ret
  exact ⟨rfl,gt_trans G2 hg3 (.inl rfl)⟩
theorem GeoForceMultiPoint {D:(Nat→Prop)→World→Value→Raw→Prop} (K:DK0 D) (hfm:∀ {B:Nat→Prop} {W:World} {x:Value} {t:Raw},D B W x t→∃ (ep:Option Addr) (en ec er:Nat),x=.agg #[.slice ep en ec,.int .u8 er]) (HC:FC D 110):FC (GeoK 4 173 D) 170:=by
  intro B W v t r' ⟨b,x,hkd,hv,hB1,hx,hd⟩ hok hr' hB
  subst hv
  obtain ⟨ep,en,ec,er,rfl⟩:=hfm hd
  have h0:=hx 0 (.slice ep en ec) rfl
  have h1:=hx 1 (.int .u8 er) rfl
  have hb:b<W.heap.size:=World.block_lt_of_cell? W _ h0
  have HFM:Hid (∀ (B:Nat→Prop) (W:World) (x:Value) (t:Raw),D B W x t→∃ (ep:Option Addr) (en ec er:Nat),x=.agg #[.slice ep en ec,.int .u8 er]):=fun B W x t h=>hfm h
  have HM:=Lib.hid (fun w (g:W.grownBy w none)=>MustAsMultiPoint _ _ _ _ b w (g.cell h0 (by simp)) (g.cell h1 (by simp)) (Nat.lt_of_lt_of_le hb g.size))
  have HT:=Lib.hid (fun w (g:W.grownBy w none)=>HC B w _ t r' (K.mono g hd) hok hr' (fun b hb=>Nat.lt_of_lt_of_le (hB b hb) g.size))
  have HG:=Lib.hid (gt_alloc_r (World.grownBy_alloc W (.cells #[.int .i64 4,.iface 173 (.pointer (some ⟨b,0,none⟩))] 57) none) (.cells #[.int .i64 0,.nilIface] 57))
  have HC2:Hid (∀ w,((W.alloc (.cells #[.int .i64 4,.iface 173 (.pointer (some ⟨b,0,none⟩))] 57)).alloc (.cells #[.int .i64 0,.nilIface] 57)).grownBy w none→w.cell? ⟨W.heap.size+1,0,none⟩=some (.int .i64 0)∧w.cell? ⟨W.heap.size+1,1,none⟩=some .nilIface∧w.frozen? ⟨W.heap.size+1,0,none⟩=false∧w.frozen? ⟨W.heap.size+1,1,none⟩=false):=fun w g=>by
    have hb:=g.block (W.heap.size+1) (by simp) (by simp)
    refine ⟨g.cell (by simp) (by simp),g.cell (by simp) (by simp),?_,?_⟩ <;> (rw [World.frozen?_of_block hb];simp)
  have hfin:Hid (∀ (w1 w2 w3:World) (x:Value),((W.alloc (.cells #[.int .i64 4,.iface 173 (.pointer (some ⟨b,0,none⟩))] 57)).alloc (.cells #[.int .i64 0,.nilIface] 57)).grownBy w1 none→w1.grownBy w2 none→D (fun b=>B b∨Fr w1 w2 b) w2 x (forceT r' t)→w2.grownBy w3 none→w2.heap.size<w3.heap.size→(∀ i u,x.cells[i]?=some u→w3.cell? ⟨w2.heap.size,i,none⟩=some u)→FPost (GeoK 4 173 D) B W (forceT r' t) (.returned (.agg #[.int .i64 4,.iface 173 (.pointer (some ⟨w2.heap.size,0,none⟩))])) ((w3.setCell ⟨W.heap.size+1,0,none⟩ (.int .i64 4)).setCell ⟨W.heap.size+1,1,none⟩ (.iface 173 (.pointer (some ⟨w2.heap.size,0,none⟩))))):=fun w1 w2 w3 x g1 g2 hd g3 hlt hx=>by
    have s0:W.heap.size+2≤w1.heap.size:=by have:=g1.size;simp at this;omega
    have s2:=g2.size
    have nB:∀ b,(B b∨Fr w1 w2 b)→b≠W.heap.size+1:=fun b hb e=>by
      rcases hb with hb | hb
      · have:=hB b hb;omega
      · have:=hb.1;omega
    have hd3:=K.mono g3 hd
    have hd4:=K.keep (.set (q:=⟨W.heap.size+1,1,none⟩) (fun hb=>nB _ hb rfl) (.iface 173 (.pointer (some ⟨w2.heap.size,0,none⟩)))) (K.keep (.set (q:=⟨W.heap.size+1,0,none⟩) (fun hb=>nB _ hb rfl) (.int .i64 4)) hd3)
    refine ⟨_,rfl,⟨w2.heap.size,x,by rw [kind_force];exact hkd,rfl,.inr ⟨by omega,by simpa [World.setCell] using hlt⟩,fun i u hi=>?_,K.weak (fun b hb=>?_) hd4⟩,gt_set_r (gt_set_r (gt_trans (gt_trans (gt_trans HG.out g1 (.inl rfl)) g2 (.inl rfl)) g3 (.inl rfl)) _ _ (by show W.heap.size≤W.heap.size+1;omega)) _ _ (by show W.heap.size≤W.heap.size+1;omega)⟩
    · rw [World.cell?_setCell_other (h:=fun e=>by have:=congrArg Addr.block e;simp at this;omega),World.cell?_setCell_other (h:=fun e=>by have:=congrArg Addr.block e;simp at this;omega)]
      exact hx i u hi
    · rcases hb with hb | hb
      · exact .inl hb
      · exact .inr ⟨by have:=hb.1;omega,by have:=hb.2;have:=g3.size;simpa [World.setCell] using (by omega:b<w3.heap.size)⟩
  clear hx hd HC hfm hok hr'
  go_enter Tryz.func170,Tryz.ntmps170
  go_wp2_with (first
    | (go_at_call 79;refine (HM.out _ HG.out).mono ?_;rintro e w1 ⟨rfl,hg1⟩;have G1:=gt_trans HG.out hg1 (.inl rfl))
    | (go_at_call 110;refine (HT.out _ G1).mono ?_;rintro e w2 ⟨x2,rfl,hd2,hg2⟩;obtain ⟨ep2,en2,ec2,er2,rfl⟩:=HFM.out _ _ _ _ hd2;have HD2:=Lib.hid hd2;clear hd2)
    | (go_at_call 55;refine (AsMultiPoint _ _ _ _ _).mono ?_;rintro e w3 ⟨rfl,hcs,hlt,hg3⟩;obtain ⟨x0,x1,f0,f1⟩:=HC2.out _ (gt_trans (gt_trans hg1 hg2 (.inl rfl)) hg3 (.inl rfl));have HCs:=Lib.hid hcs;clear hcs))
  refine bodyPost_ret (by simp [results,Tryz.results170,go_sem,x0,x1];try rfl) rfl ?_
  refine hfin.out _ _ _ _ hg1 hg2 HD2.out hg3 hlt (fun i u hi=>?_)
  obtain ⟨c0,c1⟩:=HCs.out
  match i,hi with
  | 0,hi=>exact (by simpa using hi) ▸ c0
  | 1,hi=>exact (by simpa using hi) ▸ c1
  | n+2,hi=>simp [Value.cells] at hi
theorem GeoCTMultiLineString {D:(Nat→Prop)→World→Value→Raw→Prop} (K:DK0 D) (hfm:∀ {B:Nat→Prop} {W:World} {x:Value} {t:Raw},D B W x t→∃ (ep:Option Addr) (en ec er:Nat),x=.agg #[.slice ep en ec,.int .u8 er]) (HC:CC D 150):CC (GeoK 5 176 D) 171:=by
  intro B W v t ⟨b,x,hkd,hv,hB,hx,hd⟩
  subst hv
  obtain ⟨ep,en,ec,er,rfl⟩:=hfm hd
  have h0:=hx 0 (.slice ep en ec) rfl
  have h1:=hx 1 (.int .u8 er) rfl
  have hb:b<W.heap.size:=World.block_lt_of_cell? W _ h0
  have HM:=Lib.hid (fun w (g:W.grownBy w none)=>MustAsMultiLineString _ _ _ _ b w (g.cell h0 (by simp)) (g.cell h1 (by simp)) (Nat.lt_of_lt_of_le hb g.size))
  have HT:=Lib.hid (fun w (g:W.grownBy w none)=>HC B w _ t (K.mono g hd))
  have HG:=Lib.hid (World.grownBy_alloc W (.cells #[.int .i64 5,.iface 176 (.pointer (some ⟨b,0,none⟩))] 57) none)
  generalize dimR t=dt at HT ⊢
  clear hx hd HC hfm
  go_enter Tryz.func171,Tryz.ntmps171
  go_wp2_with (first
    | (go_at_call 68;refine (HM.out _ HG.out).mono ?_;rintro e w2 ⟨rfl,hg2⟩;have G2:=gt_trans HG.out hg2 (.inl rfl))
    | (go_at_call 150;refine (HT.out _ G2).mono ?_;rintro e w3 ⟨rfl,hg3⟩))
  go_ret
  exact ⟨rfl,gt_trans G2 hg3 (.inl rfl)⟩
theorem GeoForceMultiLineString {D:(Nat→Prop)→World→Value→Raw→Prop} (K:DK0 D) (hfm:∀ {B:Nat→Prop} {W:World} {x:Value} {t:Raw},D B W x t→∃ (ep:Option Addr) (en ec er:Nat),x=.agg #[.slice ep en ec,.int .u8 er]) (HC:FC D 112):FC (GeoK 5 176 D) 170:=by
  intro B W v t r' ⟨b,x,hkd,hv,hB1,hx,hd⟩ hok hr' hB
  subst hv
  obtain ⟨ep,en,ec,er,rfl⟩:=hfm hd
  have h0:=hx 0 (.slice ep en ec) rfl
  have h1:=hx 1 (.int .u8 er) rfl
  have hb:b<W.heap.size:=World.block_lt_of_cell? W _ h0
  have HFM:Hid (∀ (B:Nat→Prop) (W:World) (x:Value) (t:Raw),D B W x t→∃ (ep:Option Addr) (en ec er:Nat),x=.agg #[.slice ep en ec,.int .u8 er]):=fun B W x t h=>hfm h
  have HM:=Lib.hid (fun w (g:W.grownBy w none)=>MustAsMultiLineString _ _ _ _ b w (g.cell h0 (by simp)) (g.cell h1 (by simp)) (Nat.lt_of_lt_of_le hb g.size))
  have HT:=Lib.hid (fun w (g:W.grownBy w none)=>HC B w _ t r' (K.mono g hd) hok hr' (fun b hb=>Nat.lt_of_lt_of_le (hB b hb) g.size))
  have HG:=Lib.hid (gt_alloc_r (World.grownBy_alloc W (.cells #[.int .i64 5,.iface 176 (.pointer (some ⟨b,0,none⟩))] 57) none) (.cells #[.int .i64 0,.nilIface] 57))
  have HC2:Hid (∀ w,((W.alloc (.cells #[.int .i64 5,.iface 176 (.pointer (some ⟨b,0,none⟩))] 57)).alloc (.cells #[.int .i64 0,.nilIface] 57)).grownBy w none→w.cell? ⟨W.heap.size+1,0,none⟩=some (.int .i64 0)∧w.cell? ⟨W.heap.size+1,1,none⟩=some .nilIface∧w.frozen? ⟨W.heap.size+1,0,none⟩=false∧w.frozen? ⟨W.heap.size+1,1,none⟩=false):=fun w g=>by
    have hb:=g.block (W.heap.size+1) (by simp) (by simp)
    refine ⟨g.cell (by simp) (by simp),g.cell (by simp) (by simp),?_,?_⟩ <;> (rw [World.frozen?_of_block hb];simp)
  have hfin:Hid (∀ (w1 w2 w3:World) (x:Value),((W.alloc (.cells #[.int .i64 5,.iface 176 (.pointer (some ⟨b,0,none⟩))] 57)).alloc (.cells #[.int .i64 0,.nilIface] 57)).grownBy w1 none→w1.grownBy w2 none→D (fun b=>B b∨Fr w1 w2 b) w2 x (forceT r' t)→w2.grownBy w3 none→w2.heap.size<w3.heap.size→(∀ i u,x.cells[i]?=some u→w3.cell? ⟨w2.heap.size,i,none⟩=some u)→FPost (GeoK 5 176 D) B W (forceT r' t) (.returned (.agg #[.int .i64 5,.iface 176 (.pointer (some ⟨w2.heap.size,0,none⟩))])) ((w3.setCell ⟨W.heap.size+1,0,none⟩ (.int .i64 5)).setCell ⟨W.heap.size+1,1,none⟩ (.iface 176 (.pointer (some ⟨w2.heap.size,0,none⟩))))):=fun w1 w2 w3 x g1 g2 hd g3 hlt hx=>by
    have s0:W.heap.size+2≤w1.heap.size:=by have:=g1.size;simp at this;omega
    have s2:=g2.size
    have nB:∀ b,(B b∨Fr w1 w2 b)→b≠W.heap.size+1:=fun b hb e=>by
      rcases hb with hb | hb
      · have:=hB b hb;omega
      · have:=hb.1;omega
    have hd3:=K.mono g3 hd
    have hd4:=K.keep (.set (q:=⟨W.heap.size+1,1,none⟩) (fun hb=>nB _ hb rfl) (.iface 176 (.pointer (some ⟨w2.heap.size,0,none⟩)))) (K.keep (.set (q:=⟨W.heap.size+1,0,none⟩) (fun hb=>nB _ hb rfl) (.int .i64 5)) hd3)
    refine ⟨_,rfl,⟨w2.heap.size,x,by rw [kind_force];exact hkd,rfl,.inr ⟨by omega,by simpa [World.setCell] using hlt⟩,fun i u hi=>?_,K.weak (fun b hb=>?_) hd4⟩,gt_set_r (gt_set_r (gt_trans (gt_trans (gt_trans HG.out g1 (.inl rfl)) g2 (.inl rfl)) g3 (.inl rfl)) _ _ (by show W.heap.size≤W.heap.size+1;omega)) _ _ (by show W.heap.size≤W.heap.size+1;omega)⟩
    · rw [World.cell?_setCell_other (h:=fun e=>by have:=congrArg Addr.block e;simp at this;omega),World.cell?_setCell_other (h:=fun e=>by have:=congrArg Addr.block e;simp at this;omega)]
      exact hx i u hi
    · rcases hb with hb | hb
      · exact .inl hb
      · exact .inr ⟨by have:=hb.1;omega,by have:=hb.2;have:=g3.size;simpa [World.setCell] using (by omega:b<w3.heap.size)⟩
  clear hx hd HC hfm hok hr'
  go_enter Tryz.func170,Tryz.ntmps170
  go_wp2_with (first
    | (go_at_call 68;refine (HM.out _ HG.out).mono ?_;rintro e w1 ⟨rfl,hg1⟩;have G1:=gt_trans HG.out hg1 (.inl rfl))
    | (go_at_call 112;refine (HT.out _ G1).mono ?_;rintro e w2 ⟨x2,rfl,hd2,hg2⟩;obtain ⟨ep2,en2,ec2,er2,rfl⟩:=HFM.out _ _ _ _ hd2;have HD2:=Lib.hid hd2;clear hd2)
    | (go_at_call 57;refine (AsMultiLineString _ _ _ _ _).mono ?_;rintro e w3 ⟨rfl,hcs,hlt,hg3⟩;obtain ⟨x0,x1,f0,f1⟩:=HC2.out _ (gt_trans (gt_trans hg1 hg2 (.inl rfl)) hg3 (.inl rfl));have HCs:=Lib.hid hcs;clear hcs))
  refine bodyPost_ret (by simp [results,Tryz.results170,go_sem,x0,x1];try rfl) rfl ?_
  refine hfin.out _ _ _ _ hg1 hg2 HD2.out hg3 hlt (fun i u hi=>?_)
  obtain ⟨c0,c1⟩:=HCs.out
  match i,hi with
  | 0,hi=>exact (by simpa using hi) ▸ c0
  | 1,hi=>exact (by simpa using hi) ▸ c1
  | n+2,hi=>simp [Value.cells] at hi
theorem GeoCTMultiPolygon {D:(Nat→Prop)→World→Value→Raw→Prop} (K:DK0 D) (hfm:∀ {B:Nat→Prop} {W:World} {x:Value} {t:Raw},D B W x t→∃ (ep:Option Addr) (en ec er:Nat),x=.agg #[.slice ep en ec,.int .u8 er]) (HC:CC D 151):CC (GeoK 6 179 D) 171:=by
  intro B W v t ⟨b,x,hkd,hv,hB,hx,hd⟩
  subst hv
  obtain ⟨ep,en,ec,er,rfl⟩:=hfm hd
  have h0:=hx 0 (.slice ep en ec) rfl
  have h1:=hx 1 (.int .u8 er) rfl
  have hb:b<W.heap.size:=World.block_lt_of_cell? W _ h0
  have HM:=Lib.hid (fun w (g:W.grownBy w none)=>MustAsMultiPolygon _ _ _ _ b w (g.cell h0 (by simp)) (g.cell h1 (by simp)) (Nat.lt_of_lt_of_le hb g.size))
  have HT:=Lib.hid (fun w (g:W.grownBy w none)=>HC B w _ t (K.mono g hd))
  have HG:=Lib.hid (World.grownBy_alloc W (.cells #[.int .i64 6,.iface 179 (.pointer (some ⟨b,0,none⟩))] 57) none)
  generalize dimR t=dt at HT ⊢
  clear hx hd HC hfm
  go_enter Tryz.func171,Tryz.ntmps171
  go_wp2_with (first
    | (go_at_call 70;refine (HM.out _ HG.out).mono ?_;rintro e w2 ⟨rfl,hg2⟩;have G2:=gt_trans HG.out hg2 (.inl rfl))
    | (go_at_call 151;refine (HT.out _ G2).mono ?_;rintro e w3 ⟨rfl,hg3⟩))
  go_ret
  exact ⟨rfl,gt_trans G2 hg3 (.inl rfl)⟩
theorem GeoForceMultiPolygon {D:(Nat→Prop)→World→Value→Raw→Prop} (K:DK0 D) (hfm:∀ {B:Nat→Prop} {W:World} {x:Value} {t:Raw},D B W x t→∃ (ep:Option Addr) (en ec er:Nat),x=.agg #[.slice ep en ec,.int .u8 er]) (HC:FC D 114):FC (GeoK 6 179 D) 170:=by
  intro B W v t r' ⟨b,x,hkd,hv,hB1,hx,hd⟩ hok hr' hB
  subst hv
  obtain ⟨ep,en,ec,er,rfl⟩:=hfm hd
  have h0:=hx 0 (.slice ep en ec) rfl
  have h1:=hx 1 (.int .u8 er) rfl
  have hb:b<W.heap.size:=World.block_lt_of_cell? W _ h0
  have HFM:Hid (∀ (B:Nat→Prop) (W:World) (x:Value) (t:Raw),D B W x t→∃ (ep:Option Addr) (en ec er:Nat),x=.agg #[.slice ep en ec,.int .u8 er]):=fun B W x t h=>hfm h
  have HM:=Lib.hid (fun w (g:W.grownBy w none)=>MustAsMultiPolygon _ _ _ _ b w (g.cell h0 (by simp)) (g.cell h1 (by simp)) (Nat.lt_of_lt_of_le hb g.size))
  have HT:=Lib.hid (fun w (g:W.grownBy w none)=>HC B w _ t r' (K.mono g hd) hok hr' (fun b hb=>Nat.lt_of_lt_of_le (hB b hb) g.size))
  have HG:=Lib.hid (gt_alloc_r (World.grownBy_alloc W (.cells #[.int .i64 6,.iface 179 (.pointer (some ⟨b,0,none⟩))] 57) none) (.cells #[.int .i64 0,.nilIface] 57))
  have HC2:Hid (∀ w,((W.alloc (.cells #[.int .i64 6,.iface 179 (.pointer (some ⟨b,0,none⟩))] 57)).alloc (.cells #[.int .i64 0,.nilIface] 57)).grownBy w none→w.cell? ⟨W.heap.size+1,0,none⟩=some (.int .i64 0)∧w.cell? ⟨W.heap.size+1,1,none⟩=some .nilIface∧w.frozen? ⟨W.heap.size+1,0,none⟩=false∧w.frozen? ⟨W.heap.size+1,1,none⟩=false):=fun w g=>by
    have hb:=g.block (W.heap.size+1) (by simp) (by simp)
    refine ⟨g.cell (by simp) (by simp),g.cell (by simp) (by simp),?_,?_⟩ <;> (rw [World.frozen?_of_block hb];simp)
  have hfin:Hid (∀ (w1 w2 w3:World) (x:Value),((W.alloc (.cells #[.int .i64 6,.iface 179 (.pointer (some ⟨b,0,none⟩))] 57)).alloc (.cells #[.int .i64 0,.nilIface] 57)).grownBy w1 none→w1.grownBy w2 none→D (fun b=>B b∨Fr w1 w2 b) w2 x (forceT r' t)→w2.grownBy w3 none→w2.heap.size<w3.heap.size→(∀ i u,x.cells[i]?=some u→w3.cell? ⟨w2.heap.size,i,none⟩=some u)→FPost (GeoK 6 179 D) B W (forceT r' t) (.returned (.agg #[.int .i64 6,.iface 179 (.pointer (some ⟨w2.heap.size,0,none⟩))])) ((w3.setCell ⟨W.heap.size+1,0,none⟩ (.int .i64 6)).setCell ⟨W.heap.size+1,1,none⟩ (.iface 179 (.pointer (some ⟨w2.heap.size,0,none⟩))))):=fun w1 w2 w3 x g1 g2 hd g3 hlt hx=>by
    have s0:W.heap.size+2≤w1.heap.size:=by have:=g1.size;simp at this;omega
    have s2:=g2.size
    have nB:∀ b,(B b∨Fr w1 w2 b)→b≠W.heap.size+1:=fun b hb e=>by
      rcases hb with hb | hb
      · have:=hB b hb;omega
      · have:=hb.1;omega
    have hd3:=K.mono g3 hd
    have hd4:=K.keep (.set (q:=⟨W.heap.size+1,1,none⟩) (fun hb=>nB _ hb rfl) (.iface 179 (.pointer (some ⟨w2.heap.size,0,none⟩)))) (K.keep (.set (q:=⟨W.heap.size+1,0,none⟩) (fun hb=>nB _ hb rfl) (.int .i64 6)) hd3)
    refine ⟨_,rfl,⟨w2.heap.size,x,by rw [kind_force];exact hkd,rfl,.inr ⟨by omega,by simpa [World.setCell] using hlt⟩,fun i u hi=>?_,K.weak (fun b hb=>?_) hd4⟩,gt_set_r (gt_set_r (gt_trans (gt_trans (gt_trans HG.out g1 (.inl rfl)) g2 (.inl rfl)) g3 (.inl rfl)) _ _ (by show W.heap.size≤W.heap.size+1;omega)) _ _ (by show W.heap.size≤W.heap.size+1;omega)⟩
    · rw [World.cell?_setCell_other (h:=fun e=>by have:=congrArg Addr.block e;simp at this;omega),World.cell?_setCell_other (h:=fun e=>by have:=congrArg Addr.block e;simp at this;omega)]
      exact hx i u hi
    · rcases hb with hb | hb
      · exact .inl hb
      · exact .inr ⟨by have:=hb.1;omega,by have:=hb.2;have:=g3.size;simpa [World.setCell] using (by omega:b<w3.heap.size)⟩
  clear hx hd HC hfm hok hr'
  go_enter Tryz.func170,Tryz.ntmps170
  go_wp2_with (first
    | (go_at_call 70;refine (HM.out _ HG.out).mono ?_;rintro e w1 ⟨rfl,hg1⟩;have G1:=gt_trans HG.out hg1 (.inl rfl))
    | (go_at_call 114;refine (HT.out _ G1).mono ?_;rintro e w2 ⟨x2,rfl,hd2,hg2⟩;obtain ⟨ep2,en2,ec2,er2,rfl⟩:=HFM.out _ _ _ _ hd2;have HD2:=Lib.hid hd2;clear hd2)
    | (go_at_call 59;refine (AsMultiPolygon _ _ _ _ _).mono ?_;rintro e w3 ⟨rfl,hcs,hlt,hg3⟩;obtain ⟨x0,x1,f0,f1⟩:=HC2.out _ (gt_trans (gt_trans hg1 hg2 (.inl rfl)) hg3 (.inl rfl));have HCs:=Lib.hid hcs;clear hcs))
  refine bodyPost_ret (by simp [results,Tryz.results170,go_sem,x0,x1];try rfl) rfl ?_
  refine hfin.out _ _ _ _ hg1 hg2 HD2.out hg3 hlt (fun i u hi=>?_)
  obtain ⟨c0,c1⟩:=HCs.out
  match i,hi with
  | 0,hi=>exact (by simpa using hi) ▸ c0
  | 1,hi=>exact (by simpa using hi) ▸ c1
  | n+2,hi=>simp [Value.cells] at hi
theorem GeoCTGeometryCollection {D:(Nat→Prop)→World→Value→Raw→Prop} (K:DK0 D) (hfm:∀ {B:Nat→Prop} {W:World} {x:Value} {t:Raw},D B W x t→∃ (ep:Option Addr) (en ec er:Nat),x=.agg #[.slice ep en ec,.int .u8 er]) (HC:CC D 152):CC (GeoK 0 183 D) 171:=by
  intro B W v t ⟨b,x,hkd,hv,hB,hx,hd⟩
  subst hv
  obtain ⟨ep,en,ec,er,rfl⟩:=hfm hd
  have h0:=hx 0 (.slice ep en ec) rfl
  have h1:=hx 1 (.int .u8 er) rfl
  have hb:b<W.heap.size:=World.block_lt_of_cell? W _ h0
  have HM:=Lib.hid (fun w (g:W.grownBy w none)=>MustAsGeometryCollection _ _ _ _ b w (g.cell h0 (by simp)) (g.cell h1 (by simp)) (Nat.lt_of_lt_of_le hb g.size))
  have HT:=Lib.hid (fun w (g:W.grownBy w none)=>HC B w _ t (K.mono g hd))
  have HG:=Lib.hid (World.grownBy_alloc W (.cells #[.int .i64 0,.iface 183 (.pointer (some ⟨b,0,none⟩))] 57) none)
  generalize dimR t=dt at HT ⊢
  clear hx hd HC hfm
  go_enter Tryz.func171,Tryz.ntmps171
  go_wp2_with (first
    | (go_at_call 62;refine (HM.out _ HG.out).mono ?_;rintro e w2 ⟨rfl,hg2⟩;have G2:=gt_trans HG.out hg2 (.inl rfl))
    | (go_at_call 152;refine (HT.out _ G2).mono ?_;rintro e w3 ⟨rfl,hg3⟩))
  go_ret
  exact ⟨rfl,gt_trans G2 hg3 (.inl rfl)⟩
theorem GeoForceGeometryCollection {D:(Nat→Prop)→World→Value→Raw→Prop} (K:DK0 D) (hfm:∀ {B:Nat→Prop} {W:World} {x:Value} {t:Raw},D B W x t→∃ (ep:Option Addr) (en ec er:Nat),x=.agg #[.slice ep en ec,.int .u8 er]) (HC:FC D 116):FC (GeoK 0 183 D) 170:=by
  intro B W v t r' ⟨b,x,hkd,hv,hB1,hx,hd⟩ hok hr' hB
  subst hv
  obtain ⟨ep,en,ec,er,rfl⟩:=hfm hd
  have h0:=hx 0 (.slice ep en ec) rfl
  have h1:=hx 1 (.int .u8 er) rfl
  have hb:b<W.heap.size:=World.block_lt_of_cell? W _ h0
  have HFM:Hid (∀ (B:Nat→Prop) (W:World) (x:Value) (t:Raw),D B W x t→∃ (ep:Option Addr) (en ec er:Nat),x=.agg #[.slice ep en ec,.int .u8 er]):=fun B W x t h=>hfm h
  have HM:=Lib.hid (fun w (g:W.grownBy w none)=>MustAsGeometryCollection _ _ _ _ b w (g.cell h0 (by simp)) (g.cell h1 (by simp)) (Nat.lt_of_lt_of_le hb g.size))
  have HT:=Lib.hid (fun w (g:W.grownBy w none)=>HC B w _ t r' (K.mono g hd) hok hr' (fun b hb=>Nat.lt_of_lt_of_le (hB b hb) g.size))
  have HG:=Lib.hid (gt_alloc_r (World.grownBy_alloc W (.cells #[.int .i64 0,.iface 183 (.pointer (some ⟨b,0,none⟩))] 57) none) (.cells #[.int .i64 0,.nilIface] 57))
  have HC2:Hid (∀ w,((W.alloc (.cells #[.int .i64 0,.iface 183 (.pointer (some ⟨b,0,none⟩))] 57)).alloc (.cells #[.int .i64 0,.nilIface] 57)).grownBy w none→w.cell? ⟨W.heap.size+1,0,none⟩=some (.int .i64 0)∧w.cell? ⟨W.heap.size+1,1,none⟩=some .nilIface∧w.frozen? ⟨W.heap.size+1,0,none⟩=false∧w.frozen? ⟨W.heap.size+1,1,none⟩=false):=fun w g=>by
    have hb:=g.block (W.heap.size+1) (by simp) (by simp)
    refine ⟨g.cell (by simp) (by simp),g.cell (by simp) (by simp),?_,?_⟩ <;> (rw [World.frozen?_of_block hb];simp)
  have hfin:Hid (∀ (w1 w2 w3:World) (x:Value),((W.alloc (.cells #[.int .i64 0,.iface 183 (.pointer (some ⟨b,0,none⟩))] 57)).alloc (.cells #[.int .i64 0,.nilIface] 57)).grownBy w1 none→w1.grownBy w2 none→D (fun b=>B b∨Fr w1 w2 b) w2 x (forceT r' t)→w2.grownBy w3 none→w2.heap.size<w3.heap.size→(∀ i u,x.cells[i]?=some u→w3.cell? ⟨w2.heap.size,i,none⟩=some u)→FPost (GeoK 0 183 D) B W (forceT r' t) (.returned (.agg #[.int .i64 0,.iface 183 (.pointer (some ⟨w2.heap.size,0,none⟩))])) ((w3.setCell ⟨W.heap.size+1,0,none⟩ (.int .i64 0)).setCell ⟨W.heap.size+1,1,none⟩ (.iface 183 (.pointer (some ⟨w2.heap.size,0,none⟩))))):=fun w1 w2 w3 x g1 g2 hd g3 hlt hx=>by
    have s0:W.heap.size+2≤w1.heap.size:=by have:=g1.size;simp at this;omega
    have s2:=g2.size
    have nB:∀ b,(B b∨Fr w1 w2 b)→b≠W.heap.size+1:=fun b hb e=>by
      rcases hb with hb | hb
      · have:=hB b hb;omega
      · have:=hb.1;omega
    have hd3:=K.mono g3 hd
    have hd4:=K.keep (.set (q:=⟨W.heap.size+1,1,none⟩) (fun hb=>nB _ hb rfl) (.iface 183 (.pointer (some ⟨w2.heap.size,0,none⟩)))) (K.keep (.set (q:=⟨W.heap.size+1,0,none⟩) (fun hb=>nB _ hb rfl) (.int .i64 0)) hd3)
    refine ⟨_,rfl,⟨w2.heap.size,x,by rw [kind_force];exact hkd,rfl,.inr ⟨by omega,by simpa [World.setCell] using hlt⟩,fun i u hi=>?_,K.weak (fun b hb=>?_) hd4⟩,gt_set_r (gt_set_r (gt_trans (gt_trans (gt_trans HG.out g1 (.inl rfl)) g2 (.inl rfl)) g3 (.inl rfl)) _ _ (by show W.heap.size≤W.heap.size+1;omega)) _ _ (by show W.heap.size≤W.heap.size+1;omega)⟩
    · rw [World.cell?_setCell_other (h:=fun e=>by have:=congrArg Addr.block e;simp at this;omega),World.cell?_setCell_other (h:=fun e=>by have:=congrArg Addr.block e;simp at this;omega)]
      exact hx i u hi
    · rcases hb with hb | hb
      · exact .inl hb
      · exact .inr ⟨by have:=hb.1;omega,by have:=hb.2;have:=g3.size;simpa [World.setCell] using (by omega:b<w3.heap.size)⟩
  clear hx hd HC hfm hok hr'
  go_enter Tryz.func170,Tryz.ntmps170
  go_wp2_with (first
    | (go_at_call 62;refine (HM.out _ HG.out).mono ?_;rintro e w1 ⟨rfl,hg1⟩;have G1:=gt_trans HG.out hg1 (.inl rfl))
    | (go_at_call 116;refine (HT.out _ G1).mono ?_;rintro e w2 ⟨x2,rfl,hd2,hg2⟩;obtain ⟨ep2,en2,ec2,er2,rfl⟩:=HFM.out _ _ _ _ hd2;have HD2:=Lib.hid hd2;clear hd2)
    | (go_at_call 61;refine (AsGeometryCollection _ _ _ _ _).mono ?_;rintro e w3 ⟨rfl,hcs,hlt,hg3⟩;obtain ⟨x0,x1,f0,f1⟩:=HC2.out _ (gt_trans (gt_trans hg1 hg2 (.inl rfl)) hg3 (.inl rfl));have HCs:=Lib.hid hcs;clear hcs))
  refine bodyPost_ret (by simp [results,Tryz.results170,go_sem,x0,x1];try rfl) rfl ?_
  refine hfin.out _ _ _ _ hg1 hg2 HD2.out hg3 hlt (fun i u hi=>?_)
  obtain ⟨c0,c1⟩:=HCs.out
  match i,hi with
  | 0,hi=>exact (by simpa using hi) ▸ c0
  | 1,hi=>exact (by simpa using hi) ▸ c1
  | n+2,hi=>simp [Value.cells] at hi
end
section
open Go.RowKit
end
section
open Go.RowKit
theorem DPoint.dk:DK0 DPoint:=⟨fun _ h=>h,fun _ h=>h⟩
theorem DPoint.form6 {B:Nat→Prop} {W:World} {x:Value} {t:Raw} : DPoint B W x t→∃ (fx fy fz fm er:Nat) (eb:Bool),x=.agg #[.float .f64 fx,.float .f64 fy,.float .f64 fz,.float .f64 fm,.int .u8 er,.bool eb]:=fun ⟨_,hv⟩=>⟨_,_,_,_,_,_,hv⟩
theorem DLine.form2 {B:Nat→Prop} {W:World} {x:Value} {t:Raw} : DLine B W x t→∃ (er:Nat) (ep:Option Addr) (en ec:Nat),x=.agg #[.int .u8 er,.slice ep en ec]:=fun ⟨r,n,f,p,_,_,_,ev,_⟩=>⟨r,p,n,n,ev⟩
theorem GeoK.form {k:Int} {ty:Nat} {D:(Nat→Prop)→World→Value→Raw→Prop} {B:Nat→Prop} {W:World} {v:Value} {t:Raw} : GeoK k ty D B W v t→∃ (k:Int) (ty b:Nat),v=.agg #[.int .i64 k,.iface ty (.pointer (some ⟨b,0,none⟩))]:=fun ⟨b,_,_,hv,_⟩=>⟨k,ty,b,hv⟩
def DGeo:Nat→(Nat→Prop)→World→Value→Raw→Prop
  | 0,_,_,_,_=>False
  | h+1,B,W,v,t=>GeoK 1 165 DPoint B W v t∨GeoK 2 167 DLine B W v t∨GeoK 3 170 DPg B W v t∨GeoK 4 173 DMpt B W v t∨GeoK 5 176 DMl B W v t∨GeoK 6 179 DMp B W v t∨GeoK 0 183 (DNode 0 (DGeo h)) B W v t
theorem DGeo.dk:∀ h:Nat,DK (DGeo h)
  | 0=>⟨⟨fun _ h=>h.elim,fun _ h=>h.elim⟩,fun h=>h.elim⟩
  | h+1=>by
    have ih:=DGeo.dk h
    refine ⟨⟨fun g hd=>?_,fun hl hd=>?_⟩,fun hd=>?_⟩
    · rcases hd with hd | hd | hd | hd | hd | hd | hd
      · exact (.inl ((GeoK.dk DPoint.dk).keep g hd))
      · exact (.inr (.inl ((GeoK.dk DLine.dk.toDK0).keep g hd)))
      · exact (.inr (.inr (.inl ((GeoK.dk DPg.dk.toDK0).keep g hd))))
      · exact (.inr (.inr (.inr (.inl ((GeoK.dk DMpt.dk.toDK0).keep g hd)))))
      · exact (.inr (.inr (.inr (.inr (.inl ((GeoK.dk DMl.dk.toDK0).keep g hd))))))
      · exact (.inr (.inr (.inr (.inr (.inr (.inl ((GeoK.dk DMp.dk.toDK0).keep g hd)))))))
      · exact (.inr (.inr (.inr (.inr (.inr (.inr ((GeoK.dk (DNode.dk ih).toDK0).keep g hd)))))))
    · rcases hd with hd | hd | hd | hd | hd | hd | hd
      · exact (.inl ((GeoK.dk DPoint.dk).weak hl hd))
      · exact (.inr (.inl ((GeoK.dk DLine.dk.toDK0).weak hl hd)))
      · exact (.inr (.inr (.inl ((GeoK.dk DPg.dk.toDK0).weak hl hd))))
      · exact (.inr (.inr (.inr (.inl ((GeoK.dk DMpt.dk.toDK0).weak hl hd)))))
      · exact (.inr (.inr (.inr (.inr (.inl ((GeoK.dk DMl.dk.toDK0).weak hl hd))))))
      · exact (.inr (.inr (.inr (.inr (.inr (.inl ((GeoK.dk DMp.dk.toDK0).weak hl hd)))))))
      · exact (.inr (.inr (.inr (.inr (.inr (.inr ((GeoK.dk (DNode.dk ih).toDK0).weak hl hd)))))))
    · rcases hd with hd | hd | hd | hd | hd | hd | hd
      · exact (GeoK.dk DPoint.dk).one hd
      · exact (GeoK.dk DLine.dk.toDK0).one hd
      · exact (GeoK.dk DPg.dk.toDK0).one hd
      · exact (GeoK.dk DMpt.dk.toDK0).one hd
      · exact (GeoK.dk DMl.dk.toDK0).one hd
      · exact (GeoK.dk DMp.dk.toDK0).one hd
      · exact (GeoK.dk (DNode.dk ih).toDK0).one hd
theorem DGeo.form {h:Nat} {B:Nat→Prop} {W:World} {v:Value} {t:Raw} (hd:DGeo h B W v t):∃ (k:Int) (ty b:Nat),v=.agg #[.int .i64 k,.iface ty (.pointer (some ⟨b,0,none⟩))]:=by
  cases h with
  | zero=>exact hd.elim
  | succ h =>
  rcases hd with hd | hd | hd | hd | hd | hd | hd
  · exact hd.form
  · exact hd.form
  · exact hd.form
  · exact hd.form
  · exact hd.form
  · exact hd.form
  · exact hd.form
theorem GeoK.dim {k:Int} {ty:Nat} {D:(Nat→Prop)→World→Value→Raw→Prop} (h4:∀ {B:Nat→Prop} {W:World} {v:Value} {t:Raw},D B W v t→dimR t<4) {B:Nat→Prop} {W:World} {v:Value} {t:Raw} : GeoK k ty D B W v t→dimR t<4:=fun ⟨_,_,_,_,_,_,hd⟩=>h4 hd
theorem DGeo.d4 {h:Nat} {B:Nat→Prop} {W:World} {v:Value} {t:Raw} (hd:DGeo h B W v t):dimR t<4:=by
  cases h with
  | zero=>exact hd.elim
  | succ h =>
  rcases hd with hd | hd | hd | hd | hd | hd | hd
  · exact GeoK.dim (fun h=>h.1.dim.1) hd
  · exact GeoK.dim DLine.d4 hd
  · exact GeoK.dim DNode.d4 hd
  · exact GeoK.dim DMpt.d4 hd
  · exact GeoK.dim DNode.d4 hd
  · exact GeoK.dim DNode.d4 hd
  · exact GeoK.dim DNode.d4 hd
theorem MlCT (D:(Nat→Prop)→World→Value→Raw→Prop):CC (DNode 5 D) 150:=by
  intro B W v t ⟨r,f,kids,p,c,ht,hr,hv,_⟩
  subst ht hv
  generalize kids.length=n
  go_enter Tryz.func150,Tryz.ntmps150
  go_wp2_with fail
  go_ret
  exact ⟨rfl,World.grownBy_alloc _ _ _⟩
theorem MpCT (D:(Nat→Prop)→World→Value→Raw→Prop):CC (DNode 6 D) 151:=by
  intro B W v t ⟨r,f,kids,p,c,ht,hr,hv,_⟩
  subst ht hv
  generalize kids.length=n
  go_enter Tryz.func151,Tryz.ntmps151
  go_wp2_with fail
  go_ret
  exact ⟨rfl,World.grownBy_alloc _ _ _⟩
theorem GcCT (D:(Nat→Prop)→World→Value→Raw→Prop):CC (DNode 0 D) 152:=by
  intro B W v t ⟨r,f,kids,p,c,ht,hr,hv,_⟩
  subst ht hv
  generalize kids.length=n
  go_enter Tryz.func152,Tryz.ntmps152
  go_wp2_with fail
  go_ret
  exact ⟨rfl,World.grownBy_alloc _ _ _⟩
theorem GeoCC:∀ h:Nat,CC (DGeo h) 171
  | 0=>fun B W v t hd=>hd.elim
  | h+1=>fun B W v t hd=>by
    rcases hd with hd | hd | hd | hd | hd | hd | hd
    · exact GeoCTPoint DPoint.dk DPoint.form6 PointCC B W v t hd
    · exact GeoCTLineString DLine.dk.toDK0 DLine.form2 LineCC B W v t hd
    · exact GeoCTPolygon DPg.dk.toDK0 DNode.form (PgCT DLine) B W v t hd
    · exact GeoCTMultiPoint DMpt.dk.toDK0 DMpt.form MptCC B W v t hd
    · exact GeoCTMultiLineString DMl.dk.toDK0 DNode.form (MlCT DLine) B W v t hd
    · exact GeoCTMultiPolygon DMp.dk.toDK0 DNode.form (MpCT DPg) B W v t hd
    · exact GeoCTGeometryCollection (DNode.dk (DGeo.dk h)).toDK0 DNode.form (GcCT (DGeo h)) B W v t hd
theorem GeoFC:∀ h:Nat,FC (DGeo h) 170
  | 0=>fun B W v t r' hd=>hd.elim
  | h+1=>fun B W v t r' hd hok hr' hB=>by
    rcases hd with hd | hd | hd | hd | hd | hd | hd
    · exact (GeoForcePoint DPoint.dk DPoint.form6 PointFC B W v t r' hd hok hr' hB).mono fun e w' ⟨v',he,hd',hg⟩=>⟨v',he,(.inl hd'),hg⟩
    · exact (GeoForceLineString DLine.dk.toDK0 DLine.form2 LineFC B W v t r' hd hok hr' hB).mono fun e w' ⟨v',he,hd',hg⟩=>⟨v',he,(.inr (.inl hd')),hg⟩
    · exact (GeoForcePolygon DPg.dk.toDK0 DNode.form PgFC B W v t r' hd hok hr' hB).mono fun e w' ⟨v',he,hd',hg⟩=>⟨v',he,(.inr (.inr (.inl hd'))),hg⟩
    · exact (GeoForceMultiPoint DMpt.dk.toDK0 DMpt.form MptFC B W v t r' hd hok hr' hB).mono fun e w' ⟨v',he,hd',hg⟩=>⟨v',he,(.inr (.inr (.inr (.inl hd')))),hg⟩
    · exact (GeoForceMultiLineString DMl.dk.toDK0 DNode.form MlFC B W v t r' hd hok hr' hB).mono fun e w' ⟨v',he,hd',hg⟩=>⟨v',he,(.inr (.inr (.inr (.inr (.inl hd'))))),hg⟩
    · exact (GeoForceMultiPolygon DMp.dk.toDK0 DNode.form MpFC B W v t r' hd hok hr' hB).mono fun e w' ⟨v',he,hd',hg⟩=>⟨v',he,(.inr (.inr (.inr (.inr (.inr (.inl hd')))))),hg⟩
    · exact (GeoForceGeometryCollection (DNode.dk (DGeo.dk h)).toDK0 DNode.form (GcForce_of (DGeo.dk h) DGeo.form (GeoFC h)) B W v t r' hd hok hr' hB).mono fun e w' ⟨v',he,hd',hg⟩=>⟨v',he,(.inr (.inr (.inr (.inr (.inr (.inr hd')))))),hg⟩
theorem news_len:∀ (ts:List Raw),(newTs ts).length=ts.length
  | []=>rfl
  | t::ts=>by simp only [newTs,List.length_cons,news_len ts]
theorem infoGe:(Tryz.prog.info? 57).map (fun i=>(i.zero,i.size,i.bytes))=some (some (.agg #[.int .i64 0,.nilIface]),2,24):=by kernel_rfl
end
end Go.Proofs.YtlpaecafpbbbkaaGreatDoor
