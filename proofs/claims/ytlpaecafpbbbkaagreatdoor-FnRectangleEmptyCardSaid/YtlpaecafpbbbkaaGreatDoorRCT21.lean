/- Points as plain data: plainPoint. The package's values as plain data: what is to be shown of each function. A shape that was handed in: no row of its parts, at whatever depth, is longer than memory bears. Trees without numbers, whose polygons have no rings: what is made of them is of their like. The hull, and the rectangles, of an empty geometry: itself, of X and Y alone. -/
import Derived.RegionTactic
import Derived.ChangeAlike
import Derived.Test.YtlpaecafpbbbkaaGreatDoorRCT1
import Derived.Test.YtlpaecafpbbbkaaGreatDoorRCT4
import Derived.Test.YtlpaecafpbbbkaaGreatDoorRCT20
set_option linter.unusedVariables false
set_option linter.unusedSimpArgs false
set_option maxRecDepth 100000
set_option maxHeartbeats 24000000
namespace Go.Proofs.YtlpaecafpbbbkaaGreatDoor
section
open Go.RowKit
theorem PtCo_any (x y z m r:Nat) (b:Bool) (W:World):Calls Tryz.prog 141 #[.agg #[.float .f64 x,.float .f64 y,.float .f64 z,.float .f64 m,.int .u8 r,.bool b]] W fun e w'=>e=.returned (.tuple #[.agg #[.float .f64 x,.float .f64 y,.float .f64 z,.float .f64 m,.int .u8 r],.bool b])∧W.grownBy w' none:=by
  have hsf:=run_store_flt Tryz.prog
  go_enter Tryz.func141,Tryz.ntmps141
  go_wp2_with fail
  go_region
  all_goals
    go_wp2_with fail
    go_returns
    exact ⟨rfl,gt_below (by go_grown) none⟩
theorem infoFlt:(Tryz.prog.info? 26).map (fun i=>(i.zero,i.size,i.bytes))=some (some (.float .f64 0),1,8):=by kernel_rfl
theorem NumB.new {W w1:World} (g:W.grownBy w1 none) (k d:Int):NumB W (w1.alloc (.cells #[.int .i64 k,.int .i64 d,.slice none 0 0,.slice none 0 0] 33)) (w1.heap.size+1) w1.heap.size (w1.alloc (.cells #[.int .i64 k,.int .i64 d,.slice none 0 0,.slice none 0 0] 33)) k d (.slice none 0 0) 0 []:=by
  refine ⟨⟨gt_alloc_r g _,g.size,by omega,by simp,fun _ _ _ _ h=>h,fun _ _ _ _=>rfl,fun j=>by simp⟩,by simp,by simp,by simp,by simp,World.ownsRow_nil _ _ _ _⟩
theorem plPt0 (f:Nat→Nat) (hf:∀ i,f i<18446744073709551616) (W:World):Calls Tryz.prog 74 #[.agg #[.float .f64 (f 0),.float .f64 (f 1),.float .f64 0,.float .f64 0,.int .u8 0,.bool true]] W fun e w'=>∃ v',e=.returned v'∧KD (Fr W w') 1 w' v' (.mk 1 (0:Nat) 2 f [])∧W.grownBy w' none:=by
  have HG:=Lib.hid (gt_alloc_r (World.grownBy_alloc W (.cells #[.float .f64 (f 0),.float .f64 (f 1),.float .f64 0,.float .f64 0,.int .u8 0,.bool true] 87) none) (.cells #[.int .i64 0,.int .i64 0,.slice none 0 0,.slice none 0 0] 33))
  have HC:Hid (∀ w,((W.alloc (.cells #[.float .f64 (f 0),.float .f64 (f 1),.float .f64 0,.float .f64 0,.int .u8 0,.bool true] 87)).alloc (.cells #[.int .i64 0,.int .i64 0,.slice none 0 0,.slice none 0 0] 33)).grownBy w none→(w.cell? ⟨W.heap.size,0,none⟩=some (.float .f64 (f 0))∧w.cell? ⟨W.heap.size,1,none⟩=some (.float .f64 (f 1))∧w.cell? ⟨W.heap.size,2,none⟩=some (.float .f64 0)∧w.cell? ⟨W.heap.size,3,none⟩=some (.float .f64 0)∧w.cell? ⟨W.heap.size,4,none⟩=some (.int .u8 0)∧w.cell? ⟨W.heap.size,5,none⟩=some (.bool true))∧(w.cell? ⟨W.heap.size+1,0,none⟩=some (.int .i64 0)∧w.cell? ⟨W.heap.size+1,1,none⟩=some (.int .i64 0)∧w.cell? ⟨W.heap.size+1,2,none⟩=some (.slice none 0 0)∧w.cell? ⟨W.heap.size+1,3,none⟩=some (.slice none 0 0))∧∀ j,w.frozen? ⟨W.heap.size+1,j,none⟩=false):=fun w g=>by
    have hb:=g.block (W.heap.size+1) (by simp) (by simp)
    refine ⟨⟨g.cell (by simp) (by simp),g.cell (by simp) (by simp),g.cell (by simp) (by simp),g.cell (by simp) (by simp),g.cell (by simp) (by simp),g.cell (by simp) (by simp)⟩,⟨g.cell (by simp) (by simp),g.cell (by simp) (by simp),g.cell (by simp) (by simp),g.cell (by simp) (by simp)⟩,fun j=>?_⟩
    rw [World.frozen?_of_block hb];simp
  have hsf:=run_store_flt Tryz.prog
  go_enter Tryz.func74,Tryz.ntmps74
  go_wp2_with (first
    | (go_at_call 140;refine (PtCT_any _ _ _ _ _ _ _).mono ?_;rintro e w1 ⟨rfl,hg1⟩;obtain ⟨⟨k0,k1,k2,k3,k4,k5⟩,_,_⟩:=HC.out _ hg1;have hz1:W.heap.size<w1.heap.size:=by { have:=hg1.size;simp at this;omega };have hz2:W.heap.size+1<w1.heap.size:=by { have:=hg1.size;simp at this;omega })
    | (go_at_call 141;refine (PtCo_any _ _ _ _ _ _ _).mono ?_;rintro e w2 ⟨rfl,hg2⟩;have I:=(NumB.new (gt_trans HG.out hg1 (.inl rfl)) 1 0).kept hg2;have HI:=Lib.hid I;have o2:=I.o2;have hz3:w1.heap.size<w2.heap.size:=by { have:=hg2.size;simp at this;omega };have G2:=gt_trans (gt_trans hg1 (World.grownBy_alloc _ _ _) (.inl rfl)) hg2 (.inl rfl);clear I)
    | (at_builtin;refine app_cells2 (size:=1) (n:=0) (xs:=[]) (base:=w1.heap.size+1) rfl _ _ _ rfl Tryz.underlying30 (.float .f64 0) 8 infoFlt rfl (Nat.succ_pos 0) rfl rfl (by simp) _ (HI.out.kept (gt_alloc_r (World.grownBy_alloc _ _ _) _)).own rfl (by simp [Value.oneCell']) (Nat.succ_pos 1) (by simp;omega) (by omega) (by omega) ?_;intro gg cap7 w7 hown7 hg7 hat7;replace hg7:World.grownBy _ w7 none:=hg7;have G6:=gt_alloc_r (World.grownBy_alloc w2 (.cells #[.float .f64 (f 0),.float .f64 (f 1),.float .f64 0,.float .f64 0,.int .u8 0] 85) none) (.cells #[.float .f64 (f 0),.float .f64 (f 1)] 26);have G7:=gt_trans G2 (gt_trans G6 hg7 (.inl rfl)) (.inl rfl);have I7:=HI.out.kept (gt_trans G6 hg7 (.inl rfl));have p0:=I7.o0;have p1:=I7.o1;have p2:=I7.o2;have p3:=I7.o3;have pf:=I7.u.of_ 2;have c2:w7.cell? ⟨w2.heap.size,2,none⟩=some (.float .f64 0):=hg7.cell (by simp) (by simp);have c3:w7.cell? ⟨w2.heap.size,3,none⟩=some (.float .f64 0):=hg7.cell (by simp) (by simp);have c4:w7.cell? ⟨w2.heap.size,4,none⟩=some (.int .u8 0):=hg7.cell (by simp) (by simp);obtain ⟨_,⟨r0,r1,r2,r3⟩,rf⟩:=HC.out _ G7;have rf0:=rf 0;have rf1:=rf 1;have rf2:=rf 2;have rf3:=rf 3;have HFin:=Lib.hid (HI.out.app G6 hg7 hown7);clear hown7 hat7 I7)
    | (go_at_call 142;refine (Is3D_lit 0 false (by simp) _).mono ?_;rintro e wx ⟨rfl,rfl⟩)
    | (go_at_call 143;refine (IsMeasured_lit 0 false (by simp) _).mono ?_;rintro e wx ⟨rfl,rfl⟩))
  obtain ⟨pn,cn,hx,I2⟩:=KidB.of_num (f:=f) (n:=2) HFin.out 0 hf
  injection hx with hx1 hx2 hx3
  subst hx1 hx3
  have HE:=Lib.hid (I2.end_ (W.heap.size+1) (by omega) (by omega))
  clear I2
  refine bodyPost_ret (by simp [results,Tryz.results74,go_sem,r0,r1,r2,r3];try rfl) rfl ?_
  exact ⟨_,rfl,HE.out.1,HE.out.2⟩
theorem plPtE (r:Nat) (hr:r<4) (f:Nat→Nat) (hf:∀ i,f i<18446744073709551616) (W:World):Calls Tryz.prog 74 #[.agg #[.float .f64 0,.float .f64 0,.float .f64 0,.float .f64 0,.int .u8 r,.bool false]] W fun e w'=>∃ v',e=.returned v'∧KD (Fr W w') 1 w' v' (.mk 1 (r:Nat) 0 f [])∧W.grownBy w' none:=by
  have HG:=Lib.hid (gt_alloc_r (World.grownBy_alloc W (.cells #[.float .f64 0,.float .f64 0,.float .f64 0,.float .f64 0,.int .u8 r,.bool false] 87) none) (.cells #[.int .i64 0,.int .i64 0,.slice none 0 0,.slice none 0 0] 33))
  have HC:Hid (∀ w,((W.alloc (.cells #[.float .f64 0,.float .f64 0,.float .f64 0,.float .f64 0,.int .u8 r,.bool false] 87)).alloc (.cells #[.int .i64 0,.int .i64 0,.slice none 0 0,.slice none 0 0] 33)).grownBy w none→(w.cell? ⟨W.heap.size,0,none⟩=some (.float .f64 0)∧w.cell? ⟨W.heap.size,1,none⟩=some (.float .f64 0)∧w.cell? ⟨W.heap.size,2,none⟩=some (.float .f64 0)∧w.cell? ⟨W.heap.size,3,none⟩=some (.float .f64 0)∧w.cell? ⟨W.heap.size,4,none⟩=some (.int .u8 r)∧w.cell? ⟨W.heap.size,5,none⟩=some (.bool false))∧(w.cell? ⟨W.heap.size+1,0,none⟩=some (.int .i64 0)∧w.cell? ⟨W.heap.size+1,1,none⟩=some (.int .i64 0)∧w.cell? ⟨W.heap.size+1,2,none⟩=some (.slice none 0 0)∧w.cell? ⟨W.heap.size+1,3,none⟩=some (.slice none 0 0))∧∀ j,w.frozen? ⟨W.heap.size+1,j,none⟩=false):=fun w g=>by
    have hb:=g.block (W.heap.size+1) (by simp) (by simp)
    refine ⟨⟨g.cell (by simp) (by simp),g.cell (by simp) (by simp),g.cell (by simp) (by simp),g.cell (by simp) (by simp),g.cell (by simp) (by simp),g.cell (by simp) (by simp)⟩,⟨g.cell (by simp) (by simp),g.cell (by simp) (by simp),g.cell (by simp) (by simp),g.cell (by simp) (by simp)⟩,fun j=>?_⟩
    rw [World.frozen?_of_block hb];simp
  have hsf:=run_store_flt Tryz.prog
  go_enter Tryz.func74,Tryz.ntmps74
  go_wp2_with (first
    | (go_at_call 140;refine (PtCT_any _ _ _ _ _ _ _).mono ?_;rintro e w1 ⟨rfl,hg1⟩;obtain ⟨⟨k0,k1,k2,k3,k4,k5⟩,_,_⟩:=HC.out _ hg1;have hz1:W.heap.size<w1.heap.size:=by { have:=hg1.size;simp at this;omega };have hz2:W.heap.size+1<w1.heap.size:=by { have:=hg1.size;simp at this;omega })
    | (go_at_call 141;refine (PtCo_any _ _ _ _ _ _ _).mono ?_;rintro e w2 ⟨rfl,hg2⟩;have I:=((NumB.new (gt_trans HG.out hg1 (.inl rfl)) 1 r).kept hg2).kept (World.grownBy_alloc _ (.cells #[.float .f64 0,.float .f64 0,.float .f64 0,.float .f64 0,.int .u8 r] 85) none);have I0:=(NumB.new (gt_trans HG.out hg1 (.inl rfl)) 1 r).kept hg2;have HI:=Lib.hid I0;have p0:=I0.o0;have p1:=I0.o1;have p2:=I0.o2;have p3:=I0.o3;have hz3:w1.heap.size<w2.heap.size:=by { have:=hg2.size;simp at this;omega };have hz4:W.heap.size+1<w2.heap.size:=(by omega);have G2:=gt_trans (gt_trans hg1 (World.grownBy_alloc _ _ _) (.inl rfl)) hg2 (.inl rfl);obtain ⟨_,⟨r0,r1,r2,r3⟩,rf⟩:=HC.out _ G2;have rf0:=rf 0;have rf1:=rf 1;have rf2:=rf 2;have rf3:=rf 3;clear I I0))
  obtain ⟨pn,cn,hx,I2⟩:=KidB.of_num (f:=f) (n:=0) HI.out 0 hf
  injection hx with hx1 hx2 hx3
  subst hx1 hx3
  have HE:=Lib.hid (I2.end_ (W.heap.size+1) (by omega) (by omega))
  clear I2
  have hz6:W.heap.size+1<((((w2.setCell ⟨W.heap.size+1,0,none⟩ (.int .i64 1)).setCell ⟨W.heap.size+1,1,none⟩ (.int .i64 r)).setCell ⟨W.heap.size+1,2,none⟩ (.slice none 0 0)).setCell ⟨W.heap.size+1,3,none⟩ (.slice none 0 0)).heap.size:=by simp [World.setCell];omega
  refine bodyPost_ret (by simp [results,Tryz.results74,go_sem,r0,r1,r2,r3,hz6,hz4];try rfl) rfl ?_
  exact ⟨_,rfl,(HE.out.1.mono (World.grownBy_alloc _ _ _)).weak (fun b hb=>⟨hb.1,Nat.lt_of_lt_of_le hb.2 (World.grownBy_alloc _ _ none).size⟩),gt_alloc_r HE.out.2 _⟩
end
section
open Go.RowKit
mutual
def dataT:Raw→Raw
  | .mk k d n f kids=>.mk k d n (if n=0 then fun _=>0 else f) (dataTs kids)
def dataTs:List Raw→List Raw
  | []=>[]
  | t::ts=>dataT t::dataTs ts
end
theorem dataTs_len:∀ ts:List Raw,(dataTs ts).length=ts.length
  | []=>rfl
  | t::ts=>by simp [dataTs,dataTs_len ts]
theorem dataTs_get:∀ (ts:List Raw) (i:Nat),(dataTs ts)[i]?=ts[i]?.map dataT
  | [],_=>by simp [dataTs]
  | t::ts,0=>by simp [dataTs]
  | t::ts,i+1=>by simp [dataTs,dataTs_get ts i]
def PC (D:(Nat→Prop)→World→Value→Raw→Prop) (fE h:Nat):Prop:=∀ (B:Nat→Prop) (W:World) (v:Value) (t:Raw),D B W v t→okT t→(∀ b,B b→b<W.heap.size)→Calls Tryz.prog fE #[v] W fun e w'=>∃ v',e=.returned v'∧KD (Fr W w') h w' v' (dataT t)∧W.grownBy w' none
end
section
open Go.Joins Go.ChangeShapes Go.WideShapes Go.RowKit Go.Deep Go.ChangeAt
mutual
def rowS:Shp→Prop
  | .mk _ _ kids=>kids.length≤2513169434843∧rowSs kids
def rowSs:List Shp→Prop
  | []=>True
  | t::ts=>rowS t∧rowSs ts
end
theorem rowSs_of:∀ {ts:List Shp},(∀ (i:Nat) (t:Shp),ts[i]?=some t→rowS t)→rowSs ts
  | [],_=>by unfold rowSs;trivial
  | t::ts,h=>by
    unfold rowSs
    exact ⟨h 0 t rfl,rowSs_of fun i s hs=>h (i+1) s (by simpa using hs)⟩
theorem rowSs_mem:∀ {ts:List Shp} {i:Nat} {t:Shp},rowSs ts→ts[i]?=some t→rowS t
  | [],_,_,_,h=>by simp at h
  | s::ts,0,t,h,hi=>by simp at hi;subst hi;unfold rowSs at h;exact h.1
  | s::ts,i+1,t,h,hi=>by unfold rowSs at h;exact rowSs_mem h.2 (by simpa using hi)
theorem weightsAll_at {H:Type} {P:Program} {e:TypeId} : ∀ {l:List (DataW H)} {i:Nat} {d:DataW H},(DataW.weightsAll P e l).all (·≤reachBytes)=true→l[i]?=some d→(d.weights P e).all (·≤reachBytes)=true
  | [],_,_,_,h=>by simp at h
  | s::l,0,d,h,hi=>by
    simp at hi;subst hi
    unfold DataW.weightsAll at h
    rw [List.all_append,Bool.and_eq_true] at h
    exact h.1
  | s::l,i+1,d,h,hi=>by
    unfold DataW.weightsAll at h
    rw [List.all_append,Bool.and_eq_true] at h
    exact weightsAll_at h.2 (by simpa using hi)
section
variable {H:Type} {enc:TypeId × Value→H} {W:World} {base:Nat} {spare:Nat→Bool} {held:Bool}
theorem KSr_of_trod:∀ (fuel:Nat) (cs:List Value) (x:DataW H × List MemPlace),DataW.trod enc Tryz.prog W base spare held fuel 25 cs=some x→(x.1.weights Tryz.prog 25).all (·≤reachBytes)=true →
    ∃ c0 c1 c2 t,cs=[c0,c1,c2]∧KS fuel W (.agg #[c0,c1,c2]) t∧rowS t:=by
  intro fuel
  induction fuel using Nat.strongRecOn with
  | ind fuel ih =>
    intro cs x h hw
    obtain ⟨xs,n,rfl,rfl,hl,hlen,hf⟩:=DataW.trod_struct Tryz.underlying25 h
    have hC:Tryz.prog.cellsOf 25=3:=by kernel_rfl
    rw [hC] at hl
    obtain ⟨c0,c1,c2,rfl⟩:=list3 hl
    obtain ⟨y0,y1,y2,rfl⟩:=list3 hlen
    have hw2:(y2.1.weights Tryz.prog 23).all (·≤reachBytes)=true:=by
      unfold DataW.weights at hw
      rw [Tryz.underlying25] at hw
      have e:DataW.weightsEach Tryz.prog [3,22,23] [y0.1,y1.1,y2.1]=y0.1.weights Tryz.prog 3++(y1.1.weights Tryz.prog 22++(y2.1.weights Tryz.prog 23++[])):=by
        simp only [DataW.weightsEach]
      have h2:(DataW.weightsEach Tryz.prog [3,22,23] [y0.1,y1.1,y2.1]).all (·≤reachBytes)=true:=hw
      rw [e,List.append_nil,List.all_append,List.all_append,Bool.and_eq_true,Bool.and_eq_true] at h2
      exact h2.2.2
    have g0:DataW.trod enc Tryz.prog W base spare held n 3 (([c0,c1,c2].drop 0).take (Tryz.prog.cellsOf 3))=some y0:=hf 0 _ rfl
    have g1:DataW.trod enc Tryz.prog W base spare held n 22 (([c0,c1,c2].drop 1).take (Tryz.prog.cellsOf 22))=some y1:=hf 1 _ rfl
    have g2:DataW.trod enc Tryz.prog W base spare held n 23 (([c0,c1,c2].drop 2).take (Tryz.prog.cellsOf 23))=some y2:=hf 2 _ rfl
    have s3:Tryz.prog.cellsOf 3=1:=by kernel_rfl
    have sf:Tryz.prog.cellsOf 22=1:=by kernel_rfl
    have sg:Tryz.prog.cellsOf 23=1:=by kernel_rfl
    simp only [s3,sf,sg,List.drop_zero,List.drop_succ_cons,List.take_succ_cons,List.take_zero] at g0 g1 g2
    obtain ⟨k,e0,_,_⟩:=DataW.trod_int Tryz.underlying3 g0
    obtain ⟨p,ps,cap,e1,hr⟩:=PtRow_of_trod g1
    simp only [List.cons.injEq,and_true] at e0
    rcases DataW.trod_slice Tryz.underlying23 g2 with ⟨e,_⟩ | ⟨a,len,cap3,elems,rest,m,em,e,ey,hb,hlc,hcm,hel,hat,_⟩
    · simp only [List.cons.injEq,and_true] at e
      exact ⟨c0,c1,c2,.mk k ps [],rfl,⟨p,cap,none,0,by rw [e0,e1,e];rfl,hr,Nat.le_refl _,by decide,fun _=>rfl,(fun a ha=>by cases ha)⟩,by unfold rowS rowSs;simp⟩
    · simp only [List.cons.injEq,and_true] at e
      have hbo:Tryz.prog.bytesOf 25=56:=by kernel_rfl
      have hwl:(elems.length+rest.length)*56≤reachBytes∧(DataW.weightsAll Tryz.prog 25 (elems.map (·.1))).all (·≤reachBytes)=true:=by
        rw [ey] at hw2
        unfold DataW.weights at hw2
        rw [Tryz.underlying23] at hw2
        simp only [hbo,List.all_cons,List.all_append,Bool.and_eq_true,decide_eq_true_eq,List.length_map] at hw2
        exact ⟨hw2.1,hw2.2.1⟩
      obtain ⟨kids,hkl,hkp⟩:=list_of (P:=fun i t=>(∃ d0 d1 d2,KS n W (.agg #[d0,d1,d2]) t∧W.cell? (a.add (i*3))=some d0∧W.cell? ⟨(a.add (i*3)).block,(a.add (i*3)).off+1,none⟩=some d1∧W.cell? ⟨(a.add (i*3)).block,(a.add (i*3)).off+2,none⟩=some d2)∧rowS t) len (fun i hi=>by
        have h1:=hat i hi
        rw [hC] at h1
        have hx:∃ y,elems[i]?=some y:=⟨_,List.getElem?_eq_getElem (by omega)⟩
        obtain ⟨y,hy⟩:=hx
        rw [hy] at h1
        obtain ⟨cs',hc,ht⟩:=Option.bind_eq_some_iff.1 h1
        obtain ⟨d0,d1,d2,t,rfl,hk,hrow⟩:=ih m (by omega) cs' y ht (weightsAll_at (i:=i) hwl.2 (by rw [List.getElem?_map,hy];rfl))
        obtain ⟨_,hlen',hcell⟩:=World.cells?_some hc
        refine ⟨t,⟨d0,d1,d2,hk.le (by omega),?_,?_,?_⟩,hrow⟩
        · have:=hcell 0 (by omega)
          simpa [Addr.add] using this
        · have:=hcell 1 (by omega)
          rw [add_add _ 1 (by omega)] at this
          simpa using this
        · have:=hcell 2 (by omega)
          rw [add_add _ 2 (by omega)] at this
          simpa using this)
      refine ⟨c0,c1,c2,.mk k ps kids,rfl,⟨p,cap,some a,cap3,by rw [e0,e1,e,hkl],hr,by omega,hcm,(fun h=>by cases h),fun a' ha i t hi=>?_⟩,?_⟩
      · injection ha with ha
        subst ha
        exact (hkp i t hi).1
      · unfold rowS
        have h1:=hwl.1
        unfold reachBytes at h1
        exact ⟨by omega,rowSs_of fun i t hi=>(hkp i t hi).2⟩
end
end
section
open Go.RowKit
mutual
def emR:Raw→Prop
  | .mk k _ n _ kids=>n=0∧(k=3→kids=[])∧kids.length≤2513169434843∧emRs kids
def emRs:List Raw→Prop
  | []=>True
  | t::ts=>emR t∧emRs ts
end
theorem emRs_filter (p:Raw→Bool):∀ {ts:List Raw},emRs ts→emRs (ts.filter p)
  | [],h=>h
  | t::ts,h=>by
    unfold emRs at h
    by_cases hp:p t=true
    · rw [List.filter_cons_of_pos hp];unfold emRs;exact ⟨h.1,emRs_filter p h.2⟩
    · rw [List.filter_cons_of_neg hp];exact emRs_filter p h.2
mutual
theorem emR.emT:∀ {t:Raw},emR t→emT t
  | .mk k d n f kids,h=>by
    unfold emR at h
    unfold Go.Proofs.YtlpaecafpbbbkaaGreatDoor.emT
    exact ⟨h.1,h.2.1,emRs.emTs h.2.2.2,by omega⟩
theorem emRs.emTs:∀ {ts:List Raw},emRs ts→emTs ts
  | [],_=>by unfold Go.Proofs.YtlpaecafpbbbkaaGreatDoor.emTs;trivial
  | t::ts,h=>by
    unfold emRs at h
    unfold Go.Proofs.YtlpaecafpbbbkaaGreatDoor.emTs
    exact ⟨emR.emT h.1,emRs.emTs h.2⟩
end
mutual
theorem emR.okT:∀ {t:Raw},emR t→okT t
  | .mk k d n f kids,h=>by
    unfold emR at h
    unfold Go.Proofs.YtlpaecafpbbbkaaGreatDoor.okT
    exact ⟨by omega,h.2.2.1,emRs.okTs h.2.2.2⟩
theorem emRs.okTs:∀ {ts:List Raw},emRs ts→okTs ts
  | [],_=>by unfold Go.Proofs.YtlpaecafpbbbkaaGreatDoor.okTs;trivial
  | t::ts,h=>by
    unfold emRs at h
    unfold Go.Proofs.YtlpaecafpbbbkaaGreatDoor.okTs
    exact ⟨emR.okT h.1,emRs.okTs h.2⟩
end
mutual
theorem emR.wt:∀ {t:Raw},emR t→wt t≤2513169434843
  | .mk k d n f kids,h=>by
    unfold emR at h
    have h2:=emRs.wts h.2.2.2 h.2.2.1
    unfold Go.Proofs.YtlpaecafpbbbkaaGreatDoor.wt
    have:=h.1
    omega
theorem emRs.wts:∀ {ts:List Raw},emRs ts→ts.length≤2513169434843→wts ts≤2513169434843
  | [],_,_=>by unfold Go.Proofs.YtlpaecafpbbbkaaGreatDoor.wts;omega
  | t::ts,h,hl=>by
    unfold emRs at h
    rw [List.length_cons] at hl
    have h1:=emR.wt h.1
    have h2:=emRs.wts h.2 (by omega)
    unfold Go.Proofs.YtlpaecafpbbbkaaGreatDoor.wts
    omega
end
mutual
theorem emR.force (r:Nat):∀ {t:Raw},emR t→emR (forceT r t)
  | .mk k d n f kids,h=>by
    unfold emR at h
    obtain ⟨rfl,h3,hl,hk⟩:=h
    unfold forceT emR
    refine ⟨by rw [Nat.zero_div,Nat.zero_mul],fun e=>by rw [h3 e];rfl,by rw [forceTs_len];exact hl,emRs.force r hk⟩
theorem emRs.force (r:Nat):∀ {ts:List Raw},emRs ts→emRs (forceTs r ts)
  | [],h=>h
  | t::ts,h=>by
    unfold emRs at h
    unfold forceTs emRs
    exact ⟨emR.force r h.1,emRs.force r h.2⟩
end
mutual
theorem emR.data:∀ {t:Raw},emR t→emR (dataT t)
  | .mk k d n f kids,h=>by
    unfold emR at h
    obtain ⟨hn,h3,hl,hk⟩:=h
    unfold dataT emR
    exact ⟨hn,fun e=>by rw [h3 e];rfl,by rw [dataTs_len];exact hl,emRs.data hk⟩
theorem emRs.data:∀ {ts:List Raw},emRs ts→emRs (dataTs ts)
  | [],h=>h
  | t::ts,h=>by
    unfold emRs at h
    unfold dataTs emRs
    exact ⟨emR.data h.1,emRs.data h.2⟩
end
theorem news_len2:∀ ts:List Raw,(newTs ts).length=ts.length
  | []=>rfl
  | t::ts=>by unfold newTs;rw [List.length_cons,List.length_cons,news_len2 ts]
theorem emR_node (k:Int) (r:Nat) (f:Nat→Nat) {ks:List Raw} (h3:k=3→ks=[]) (hl:ks.length≤2513169434843) (hk:emRs ks):emR (nodeT k r f ks):=by
  unfold nodeT
  split
  · unfold emR emRs;simp
  · exact emR.force _ (by unfold emR;exact ⟨rfl,h3,hl,hk⟩)
mutual
theorem emR.new:∀ {t:Raw},emR t→emR (newT t)
  | .mk k d n f kids,h=>by
    unfold emR at h
    obtain ⟨rfl,h3,hl,hk⟩:=h
    unfold newT
    split
    · unfold emR emRs;simp
    · split
      · unfold emR emRs;simp
      · refine emR_node _ _ _ (fun e=>?_) ?_ (emRs_filter _ (emRs.new hk))
        · have e3:k=3:=by unfold kindN at e;split at e <;> omega
          rw [h3 e3];rfl
        · have h1:=List.length_filter_le (keepT (kindN k)) (newTs kids)
          rw [news_len2] at h1
          omega
theorem emRs.new:∀ {ts:List Raw},emRs ts→emRs (newTs ts)
  | [],h=>h
  | t::ts,h=>by
    unfold emRs at h
    unfold newTs emRs
    exact ⟨emR.new h.1,emRs.new h.2⟩
end
mutual
theorem emR_raw:∀ {t:Shp},emB t=true→erB t=false→rowS t→emR (rawS t)
  | .mk k pts kids,he,hr,hw=>by
    unfold emB at he
    unfold erB at hr
    unfold rowS at hw
    rw [Bool.and_eq_true,decide_eq_true_eq] at he
    have h2:=emRs_raw he.1 hr hw.2
    unfold rawS emR
    refine ⟨by omega,fun e=>?_,by rw [rawSs_len];exact hw.1,h2⟩
    subst e
    cases kids with
    | nil=>rfl
    | cons s ss =>
      obtain ⟨k1,pts1,kids1⟩:=s
      have h4:=he.1
      unfold emBs emB at h4
      simp only [Bool.and_eq_true,decide_eq_true_eq] at h4
      unfold erBs ptsS at hr
      simp [h4.1.2] at hr
theorem emRs_raw:∀ {k:Int} {ts:List Shp},emBs ts=true→erBs k ts=false→rowSs ts→emRs (rawSs ts)
  | _,[],_,_,_=>by unfold rawSs emRs;trivial
  | k,t::ts,he,hr,hw=>by
    unfold emBs at he
    unfold erBs at hr
    unfold rowSs at hw
    rw [Bool.and_eq_true] at he
    simp only [Bool.or_eq_false_iff] at hr
    unfold rawSs emRs
    exact ⟨emR_raw he.1 hr.1.2 hw.1,emRs_raw he.2 hr.2 hw.2⟩
end
mutual
theorem okS_em:∀ {t:Shp},emB t=true→rowS t→okS t
  | .mk k pts kids,he,hw=>by
    unfold emB at he
    unfold rowS at hw
    rw [Bool.and_eq_true,decide_eq_true_eq] at he
    unfold okS
    exact ⟨by omega,hw.1,okSs_em he.1 hw.2⟩
theorem okSs_em:∀ {ts:List Shp},emBs ts=true→rowSs ts→okSs ts
  | [],_,_=>by unfold okSs;trivial
  | t::ts,he,hw=>by
    unfold emBs at he
    unfold rowSs at hw
    rw [Bool.and_eq_true] at he
    unfold okSs
    exact ⟨okS_em he.1 hw.1,okSs_em he.2 hw.2⟩
end
theorem kind_new (t:Raw):kindOf (newT t)=kindN (kindOf t):=by
  obtain ⟨k,d,n,f,kids⟩:=t
  unfold newT
  split
  · next h=>exact h.symm
  · split
    · next h=>exact h.symm
    · unfold nodeT
      split <;> rfl
theorem kind_data (t:Raw):kindOf (dataT t)=kindOf t:=by obtain ⟨k,d,n,f,kids⟩:=t;rfl
theorem kind_formed {t:Shp} {dp:Int} (h:fmB t dp=true):0≤kindS t∧kindS t≤6:=by
  obtain ⟨k,pts,kids⟩:=t
  unfold fmB at h
  show 0≤k∧k≤6
  rw [Bool.and_eq_true,Bool.and_eq_true] at h
  have h2:=h.2.2
  split at h2
  · omega
  · simp only [Bool.and_eq_true,decide_eq_true_eq] at h2
    exact h2.2.1
theorem kind_raw (t:Shp):kindOf (rawS t)=kindS t:=by obtain ⟨k,pts,kids⟩:=t;rfl
theorem rect_law {t:Shp} (hf:fmB t 100=true) (he:emB t=true) (hr:erB t=false) (hw:rowS t) :
    okS t∧emR (rawS t)∧emR (newT (rawS t))∧emR (forceT 0 (newT (rawS t)))∧emR (dataT (forceT 0 (newT (rawS t))))∧emR (newT (dataT (forceT 0 (newT (rawS t)))))∧kindOf (dataT (forceT 0 (newT (rawS t))))=kindS t:=by
  have h1:=emR_raw he hr hw
  have h2:=h1.new
  have h3:=h2.force 0
  have h4:=h3.data
  refine ⟨okS_em he hw,h1,h2,h3,h4,h4.new,?_⟩
  rw [kind_data,kind_force,kind_new,kind_raw]
  have:=kind_formed hf
  unfold kindN
  split <;> omega
end
section
open Go.RowKit
def GPost (h:Nat) (B:Nat→Prop) (W:World) (t:Raw) (e:Ending) (w':World):Prop:=∃ (k:Int) (ty b:Nat),e=.returned (.agg #[.int .i64 k,.iface ty (.pointer (some ⟨b,0,none⟩))])∧DGeo h (fun b=>B b∨Fr W w' b) w' (.agg #[.int .i64 k,.iface ty (.pointer (some ⟨b,0,none⟩))]) t∧W.grownBy w' none
def HC (h:Nat) (fE:Nat) (xs:Value→Array Value):Prop:=∀ (B:Nat→Prop) (W:World) (k:Int) (ty b:Nat) (t:Raw),DGeo h B W (.agg #[.int .i64 k,.iface ty (.pointer (some ⟨b,0,none⟩))]) t→emR t→(∀ b,B b→b<W.heap.size)→Calls Tryz.prog fE (xs (.agg #[.int .i64 k,.iface ty (.pointer (some ⟨b,0,none⟩))])) W (GPost h B W (forceT 0 t))
theorem GClose {h:Nat} {B:Nat→Prop} {W w:World} {v x0 x1:Value} {t:Raw} (hB:∀ b,B b→b<W.heap.size) (g:W.grownBy w none) (hd:DGeo h (fun b=>B b∨(W.heap.size+2≤b∧b<w.heap.size)) w v t) :
    DGeo h (fun b=>B b∨Fr W ((w.setCell ⟨W.heap.size+1,0,none⟩ x0).setCell ⟨W.heap.size+1,1,none⟩ x1) b) ((w.setCell ⟨W.heap.size+1,0,none⟩ x0).setCell ⟨W.heap.size+1,1,none⟩ x1) v t∧W.grownBy ((w.setCell ⟨W.heap.size+1,0,none⟩ x0).setCell ⟨W.heap.size+1,1,none⟩ x1) none:=by
  have hn:¬ (B (W.heap.size+1)∨(W.heap.size+2≤W.heap.size+1∧W.heap.size+1<w.heap.size)):=fun hx=>by
    rcases hx with hx | hx
    · have:=hB _ hx;omega
    · omega
  refine ⟨((DGeo.dk h).toDK0.keep (.set (q:=⟨W.heap.size+1,1,none⟩) hn x1) ((DGeo.dk h).toDK0.keep (.set (q:=⟨W.heap.size+1,0,none⟩) hn x0) hd)) |> (DGeo.dk h).toDK0.weak (fun b hb=>?_),gt_set_r (gt_set_r g _ _ (Nat.le_succ _)) _ _ (Nat.le_succ _)⟩
  rcases hb with hb | hb
  · exact .inl hb
  · exact .inr ⟨by omega,by simp [World.setCell];exact hb.2⟩
theorem GPost.back {h:Nat} {B:Nat→Prop} {W w w':World} {t:Raw} {e:Ending} (hs:W.heap.size+2≤w.heap.size) (hp:GPost h B w t e w'):∃ (k:Int) (ty b:Nat),e=.returned (.agg #[.int .i64 k,.iface ty (.pointer (some ⟨b,0,none⟩))])∧DGeo h (fun b=>B b∨(W.heap.size+2≤b∧b<w'.heap.size)) w' (.agg #[.int .i64 k,.iface ty (.pointer (some ⟨b,0,none⟩))]) t∧w.grownBy w' none:=by
  obtain ⟨k,ty,b,rfl,hd,hg⟩:=hp
  refine ⟨k,ty,b,rfl,(DGeo.dk h).toDK0.weak (fun b hb=>?_) hd,hg⟩
  rcases hb with hb | hb
  · exact .inl hb
  · exact .inr ⟨Nat.le_trans hs hb.1,hb.2⟩
theorem Force2D_em (h:Nat):HC h 295 (fun g=>#[g]):=by
  intro B W k ty b t hd hem hB
  show Calls Tryz.prog 295 #[.agg #[.int .i64 k,.iface ty (.pointer (some ⟨b,0,none⟩))]] W (GPost h B W (forceT 0 t))
  have HF:Hid (∀ w,W.grownBy w none→Calls Tryz.prog 170 #[.agg #[.int .i64 k,.iface ty (.pointer (some ⟨b,0,none⟩))],.int .u8 0] w (GPost h B w (forceT 0 t))):=fun w g=>
    (GeoFC h B w _ t 0 ((DGeo.dk h).toDK0.mono g hd) hem.okT (by omega) fun b hb=>Nat.lt_of_lt_of_le (hB b hb) g.size).mono fun e w' ⟨v',he,hd',hg⟩=>by
      obtain ⟨k2,ty2,b2,rfl⟩:=hd'.form
      exact ⟨k2,ty2,b2,he,hd',hg⟩
  have HG:=Lib.hid (gt_alloc_r (World.grownBy_alloc W (.cells #[.int .i64 k,.iface ty (.pointer (some ⟨b,0,none⟩))] 57) none) (.cells #[.int .i64 0,.nilIface] 57))
  have HB:Hid (∀ w,((W.alloc (.cells #[.int .i64 k,.iface ty (.pointer (some ⟨b,0,none⟩))] 57)).alloc (.cells #[.int .i64 0,.nilIface] 57)).grownBy w none→(w.cell? ⟨W.heap.size,0,none⟩=some (.int .i64 k)∧w.cell? ⟨W.heap.size,1,none⟩=some (.iface ty (.pointer (some ⟨b,0,none⟩))))∧(w.cell? ⟨W.heap.size+1,0,none⟩=some (.int .i64 0)∧w.cell? ⟨W.heap.size+1,1,none⟩=some .nilIface)∧w.frozen? ⟨W.heap.size+1,0,none⟩=false∧w.frozen? ⟨W.heap.size+1,1,none⟩=false∧W.heap.size+2≤w.heap.size):=fun w g=>by
    have hb:=g.block (W.heap.size+1) (by simp) (by simp)
    refine ⟨⟨g.cell (by simp) (by simp),g.cell (by simp) (by simp)⟩,⟨g.cell (by simp) (by simp),g.cell (by simp) (by simp)⟩,?_,?_,by have:=g.size;simp at this;omega⟩
    · rw [World.frozen?_of_block hb];simp
    · rw [World.frozen?_of_block hb];simp
  have HBb:=Lib.hid hB
  clear hd hem hB
  go_enter Tryz.func295,Tryz.ntmps295
  go_wp2_with (first
    | (go_at_call 170;refine (HF.out _ HG.out).mono ?_;intro e w2 hp;obtain ⟨k2,ty2,b2,rfl,hd2,hg2⟩:=GPost.back (W:=W) (by simp) hp;have HD2:=Lib.hid hd2;clear hd2 hp;obtain ⟨_,⟨r0,r1⟩,rf0,rf1,_⟩:=HB.out _ hg2))
  refine bodyPost_ret (by simp [results,Tryz.results295,go_sem,r0,r1];try rfl) rfl ?_
  obtain ⟨h1,h2⟩:=GClose (x0:=.int .i64 k2) (x1:=.iface ty2 (.pointer (some ⟨b2,0,none⟩))) HBb.out (gt_trans HG.out hg2 (.inl rfl)) HD2.out
  exact ⟨_,_,_,rfl,h1,h2⟩
theorem convexHull_em (h:Nat):HC h 251 (fun g=>#[g]):=by
  intro B W k ty b t hd hem hB
  show Calls Tryz.prog 251 #[.agg #[.int .i64 k,.iface ty (.pointer (some ⟨b,0,none⟩))]] W (GPost h B W (forceT 0 t))
  have HE:Hid (∀ w,W.grownBy w none→Calls Tryz.prog 47 #[.agg #[.int .i64 k,.iface ty (.pointer (some ⟨b,0,none⟩))]] w (EPost w true)):=fun w g=>GeoEC h B w _ t ((DGeo.dk h).toDK0.mono g hd) hem.emT
  have HF:Hid (∀ w,W.grownBy w none→Calls Tryz.prog 295 #[.agg #[.int .i64 k,.iface ty (.pointer (some ⟨b,0,none⟩))]] w (GPost h B w (forceT 0 t))):=fun w g=>Force2D_em h B w k ty b t ((DGeo.dk h).toDK0.mono g hd) hem fun b hb=>Nat.lt_of_lt_of_le (hB b hb) g.size
  have HG:=Lib.hid (gt_alloc_r (World.grownBy_alloc W (.cells #[.int .i64 k,.iface ty (.pointer (some ⟨b,0,none⟩))] 57) none) (.cells #[.int .i64 0,.nilIface] 57))
  have HB:Hid (∀ w,((W.alloc (.cells #[.int .i64 k,.iface ty (.pointer (some ⟨b,0,none⟩))] 57)).alloc (.cells #[.int .i64 0,.nilIface] 57)).grownBy w none→(w.cell? ⟨W.heap.size,0,none⟩=some (.int .i64 k)∧w.cell? ⟨W.heap.size,1,none⟩=some (.iface ty (.pointer (some ⟨b,0,none⟩))))∧(w.cell? ⟨W.heap.size+1,0,none⟩=some (.int .i64 0)∧w.cell? ⟨W.heap.size+1,1,none⟩=some .nilIface)∧w.frozen? ⟨W.heap.size+1,0,none⟩=false∧w.frozen? ⟨W.heap.size+1,1,none⟩=false∧W.heap.size+2≤w.heap.size):=fun w g=>by
    have hb:=g.block (W.heap.size+1) (by simp) (by simp)
    refine ⟨⟨g.cell (by simp) (by simp),g.cell (by simp) (by simp)⟩,⟨g.cell (by simp) (by simp),g.cell (by simp) (by simp)⟩,?_,?_,by have:=g.size;simp at this;omega⟩
    · rw [World.frozen?_of_block hb];simp
    · rw [World.frozen?_of_block hb];simp
  have HBb:=Lib.hid hB
  clear hd hem hB
  go_enter Tryz.func251,Tryz.ntmps251
  go_wp2_with (first
    | (go_at_call 47;refine (HE.out _ HG.out).mono ?_;rintro e w1 ⟨rfl,hg1⟩;have G1:=gt_trans HG.out hg1 (.inl rfl);obtain ⟨⟨q0,q1⟩,⟨s0,s1⟩,sf0,sf1,hs1⟩:=HB.out _ hg1)
    | (go_at_call 295;refine (HF.out _ G1).mono ?_;intro e w2 hp;obtain ⟨k2,ty2,b2,rfl,hd2,hg2⟩:=GPost.back (W:=W) hs1 hp;have HD2:=Lib.hid hd2;clear hd2 hp;obtain ⟨_,⟨r0,r1⟩,rf0,rf1,_⟩:=HB.out _ (gt_trans hg1 hg2 (.inl rfl))))
  refine bodyPost_ret (by simp [results,Tryz.results251,go_sem,r0,r1];try rfl) rfl ?_
  obtain ⟨h1,h2⟩:=GClose (x0:=.int .i64 k2) (x1:=.iface ty2 (.pointer (some ⟨b2,0,none⟩))) HBb.out (gt_trans G1 hg2 (.inl rfl)) HD2.out
  exact ⟨_,_,_,rfl,h1,h2⟩
theorem ConvexHull_em (h:Nat):HC h 207 (fun g=>#[g]):=by
  intro B W k ty b t hd hem hB
  show Calls Tryz.prog 207 #[.agg #[.int .i64 k,.iface ty (.pointer (some ⟨b,0,none⟩))]] W (GPost h B W (forceT 0 t))
  have HF:Hid (∀ w,W.grownBy w none→Calls Tryz.prog 251 #[.agg #[.int .i64 k,.iface ty (.pointer (some ⟨b,0,none⟩))]] w (GPost h B w (forceT 0 t))):=fun w g=>convexHull_em h B w k ty b t ((DGeo.dk h).toDK0.mono g hd) hem fun b hb=>Nat.lt_of_lt_of_le (hB b hb) g.size
  have HG:=Lib.hid (gt_alloc_r (World.grownBy_alloc W (.cells #[.int .i64 k,.iface ty (.pointer (some ⟨b,0,none⟩))] 57) none) (.cells #[.int .i64 0,.nilIface] 57))
  have HB:Hid (∀ w,((W.alloc (.cells #[.int .i64 k,.iface ty (.pointer (some ⟨b,0,none⟩))] 57)).alloc (.cells #[.int .i64 0,.nilIface] 57)).grownBy w none→(w.cell? ⟨W.heap.size,0,none⟩=some (.int .i64 k)∧w.cell? ⟨W.heap.size,1,none⟩=some (.iface ty (.pointer (some ⟨b,0,none⟩))))∧(w.cell? ⟨W.heap.size+1,0,none⟩=some (.int .i64 0)∧w.cell? ⟨W.heap.size+1,1,none⟩=some .nilIface)∧w.frozen? ⟨W.heap.size+1,0,none⟩=false∧w.frozen? ⟨W.heap.size+1,1,none⟩=false∧W.heap.size+2≤w.heap.size):=fun w g=>by
    have hb:=g.block (W.heap.size+1) (by simp) (by simp)
    refine ⟨⟨g.cell (by simp) (by simp),g.cell (by simp) (by simp)⟩,⟨g.cell (by simp) (by simp),g.cell (by simp) (by simp)⟩,?_,?_,by have:=g.size;simp at this;omega⟩
    · rw [World.frozen?_of_block hb];simp
    · rw [World.frozen?_of_block hb];simp
  have HBb:=Lib.hid hB
  clear hd hem hB
  go_enter Tryz.func207,Tryz.ntmps207
  go_wp2_with (first
    | (go_at_call 251;refine (HF.out _ HG.out).mono ?_;intro e w2 hp;obtain ⟨k2,ty2,b2,rfl,hd2,hg2⟩:=GPost.back (W:=W) (by simp) hp;have HD2:=Lib.hid hd2;clear hd2 hp;obtain ⟨_,⟨r0,r1⟩,rf0,rf1,_⟩:=HB.out _ hg2))
  refine bodyPost_ret (by simp [results,Tryz.results207,go_sem,r0,r1];try rfl) rfl ?_
  obtain ⟨h1,h2⟩:=GClose (x0:=.int .i64 k2) (x1:=.iface ty2 (.pointer (some ⟨b2,0,none⟩))) HBb.out (gt_trans HG.out hg2 (.inl rfl)) HD2.out
  exact ⟨_,_,_,rfl,h1,h2⟩
theorem rotated_em (h:Nat) (m:Value):HC h 165 (fun g=>#[g,m]):=by
  intro B W k ty b t hd hem hB
  show Calls Tryz.prog 165 #[.agg #[.int .i64 k,.iface ty (.pointer (some ⟨b,0,none⟩))],m] W (GPost h B W (forceT 0 t))
  have HF:Hid (∀ w,W.grownBy w none→Calls Tryz.prog 207 #[.agg #[.int .i64 k,.iface ty (.pointer (some ⟨b,0,none⟩))]] w (GPost h B w (forceT 0 t))):=fun w g=>ConvexHull_em h B w k ty b t ((DGeo.dk h).toDK0.mono g hd) hem fun b hb=>Nat.lt_of_lt_of_le (hB b hb) g.size
  have HE:Hid (∀ (B':Nat→Prop) w v,DGeo h B' w v (forceT 0 t)→Calls Tryz.prog 47 #[v] w (EPost w true)):=fun B' w v hd=>GeoEC h B' w v _ hd (hem.force 0).emT
  have HG:=Lib.hid (gt_alloc_r (World.grownBy_alloc W (.cells #[.int .i64 k,.iface ty (.pointer (some ⟨b,0,none⟩))] 57) none) (.cells #[.int .i64 0,.nilIface] 57))
  have HB:Hid (∀ w,((W.alloc (.cells #[.int .i64 k,.iface ty (.pointer (some ⟨b,0,none⟩))] 57)).alloc (.cells #[.int .i64 0,.nilIface] 57)).grownBy w none→(w.cell? ⟨W.heap.size,0,none⟩=some (.int .i64 k)∧w.cell? ⟨W.heap.size,1,none⟩=some (.iface ty (.pointer (some ⟨b,0,none⟩))))∧(w.cell? ⟨W.heap.size+1,0,none⟩=some (.int .i64 0)∧w.cell? ⟨W.heap.size+1,1,none⟩=some .nilIface)∧w.frozen? ⟨W.heap.size+1,0,none⟩=false∧w.frozen? ⟨W.heap.size+1,1,none⟩=false∧W.heap.size+2≤w.heap.size):=fun w g=>by
    have hb:=g.block (W.heap.size+1) (by simp) (by simp)
    refine ⟨⟨g.cell (by simp) (by simp),g.cell (by simp) (by simp)⟩,⟨g.cell (by simp) (by simp),g.cell (by simp) (by simp)⟩,?_,?_,by have:=g.size;simp at this;omega⟩
    · rw [World.frozen?_of_block hb];simp
    · rw [World.frozen?_of_block hb];simp
  have HBb:=Lib.hid hB
  clear hd hem hB
  go_enter Tryz.func165,Tryz.ntmps165
  go_wp2_with (first
    | (go_at_call 207;refine (HF.out _ HG.out).mono ?_;intro e w2 hp;obtain ⟨k2,ty2,b2,rfl,hd2,hg2⟩:=GPost.back (W:=W) (by simp) hp;have HD2:=Lib.hid hd2;clear hd2 hp;obtain ⟨_,⟨s0,s1⟩,sf0,sf1,hs1⟩:=HB.out _ hg2)
    | (go_at_call 47;(refine (HE.out _ _ _ ((DGeo.dk h).toDK0.mono (World.grownBy_alloc _ _ _) HD2.out)).mono ?_);rintro e w3 ⟨rfl,hg3⟩;go_loud (have g23:=gt_trans (World.grownBy_alloc w2 (.cells #[.int .i64 k2,.iface ty2 (.pointer (some ⟨b2,0,none⟩))] 57) none) hg3 (.inl rfl));go_loud (have HD3:=Lib.hid ((DGeo.dk h).toDK0.mono g23 HD2.out));go_loud (have p0:=hg3.cell (a:=⟨w2.heap.size,0,none⟩) (v:=.int .i64 k2) (by simp) (by simp));go_loud (have p1:=hg3.cell (a:=⟨w2.heap.size,1,none⟩) (v:=.iface ty2 (.pointer (some ⟨b2,0,none⟩))) (by simp) (by simp));go_loud (obtain ⟨_,⟨r0,r1⟩,rf0,rf1,_⟩:=HB.out _ (gt_trans hg2 g23 (.inl rfl)))))
  refine bodyPost_ret (by simp [results,Tryz.results165,go_sem,r0,r1];try rfl) rfl ?_
  obtain ⟨h1,h2⟩:=GClose (x0:=.int .i64 k2) (x1:=.iface ty2 (.pointer (some ⟨b2,0,none⟩))) HBb.out (gt_trans (gt_trans HG.out hg2 (.inl rfl)) g23 (.inl rfl)) ((DGeo.dk h).toDK0.weak (fun b hb=>hb.imp id fun hb=>⟨hb.1,Nat.lt_of_lt_of_le hb.2 g23.size⟩) HD3.out)
  exact ⟨_,_,_,rfl,h1,h2⟩
theorem RotArea_em (h:Nat):HC h 93 (fun g=>#[g]):=by
  intro B W k ty b t hd hem hB
  show Calls Tryz.prog 93 #[.agg #[.int .i64 k,.iface ty (.pointer (some ⟨b,0,none⟩))]] W (GPost h B W (forceT 0 t))
  have HF:Hid (∀ (m:Value) w,W.grownBy w none→Calls Tryz.prog 165 #[.agg #[.int .i64 k,.iface ty (.pointer (some ⟨b,0,none⟩))],m] w (GPost h B w (forceT 0 t))):=fun m w g=>rotated_em h m B w k ty b t ((DGeo.dk h).toDK0.mono g hd) hem fun b hb=>Nat.lt_of_lt_of_le (hB b hb) g.size
  have HG:=Lib.hid (gt_alloc_r (World.grownBy_alloc W (.cells #[.int .i64 k,.iface ty (.pointer (some ⟨b,0,none⟩))] 57) none) (.cells #[.int .i64 0,.nilIface] 57))
  have HB:Hid (∀ w,((W.alloc (.cells #[.int .i64 k,.iface ty (.pointer (some ⟨b,0,none⟩))] 57)).alloc (.cells #[.int .i64 0,.nilIface] 57)).grownBy w none→(w.cell? ⟨W.heap.size,0,none⟩=some (.int .i64 k)∧w.cell? ⟨W.heap.size,1,none⟩=some (.iface ty (.pointer (some ⟨b,0,none⟩))))∧(w.cell? ⟨W.heap.size+1,0,none⟩=some (.int .i64 0)∧w.cell? ⟨W.heap.size+1,1,none⟩=some .nilIface)∧w.frozen? ⟨W.heap.size+1,0,none⟩=false∧w.frozen? ⟨W.heap.size+1,1,none⟩=false∧W.heap.size+2≤w.heap.size):=fun w g=>by
    have hb:=g.block (W.heap.size+1) (by simp) (by simp)
    refine ⟨⟨g.cell (by simp) (by simp),g.cell (by simp) (by simp)⟩,⟨g.cell (by simp) (by simp),g.cell (by simp) (by simp)⟩,?_,?_,by have:=g.size;simp at this;omega⟩
    · rw [World.frozen?_of_block hb];simp
    · rw [World.frozen?_of_block hb];simp
  have HBb:=Lib.hid hB
  clear hd hem hB
  go_enter Tryz.func93,Tryz.ntmps93
  go_wp2_with (first
    | (go_at_call 165;refine (HF.out _ _ HG.out).mono ?_;intro e w2 hp;obtain ⟨k2,ty2,b2,rfl,hd2,hg2⟩:=GPost.back (W:=W) (by simp) hp;have HD2:=Lib.hid hd2;clear hd2 hp;obtain ⟨_,⟨r0,r1⟩,rf0,rf1,_⟩:=HB.out _ hg2))
  refine bodyPost_ret (by simp [results,Tryz.results93,go_sem,r0,r1];try rfl) rfl ?_
  obtain ⟨h1,h2⟩:=GClose (x0:=.int .i64 k2) (x1:=.iface ty2 (.pointer (some ⟨b2,0,none⟩))) HBb.out (gt_trans HG.out hg2 (.inl rfl)) HD2.out
  exact ⟨_,_,_,rfl,h1,h2⟩
theorem RotWidth_em (h:Nat):HC h 92 (fun g=>#[g]):=by
  intro B W k ty b t hd hem hB
  show Calls Tryz.prog 92 #[.agg #[.int .i64 k,.iface ty (.pointer (some ⟨b,0,none⟩))]] W (GPost h B W (forceT 0 t))
  have HF:Hid (∀ (m:Value) w,W.grownBy w none→Calls Tryz.prog 165 #[.agg #[.int .i64 k,.iface ty (.pointer (some ⟨b,0,none⟩))],m] w (GPost h B w (forceT 0 t))):=fun m w g=>rotated_em h m B w k ty b t ((DGeo.dk h).toDK0.mono g hd) hem fun b hb=>Nat.lt_of_lt_of_le (hB b hb) g.size
  have HG:=Lib.hid (gt_alloc_r (World.grownBy_alloc W (.cells #[.int .i64 k,.iface ty (.pointer (some ⟨b,0,none⟩))] 57) none) (.cells #[.int .i64 0,.nilIface] 57))
  have HB:Hid (∀ w,((W.alloc (.cells #[.int .i64 k,.iface ty (.pointer (some ⟨b,0,none⟩))] 57)).alloc (.cells #[.int .i64 0,.nilIface] 57)).grownBy w none→(w.cell? ⟨W.heap.size,0,none⟩=some (.int .i64 k)∧w.cell? ⟨W.heap.size,1,none⟩=some (.iface ty (.pointer (some ⟨b,0,none⟩))))∧(w.cell? ⟨W.heap.size+1,0,none⟩=some (.int .i64 0)∧w.cell? ⟨W.heap.size+1,1,none⟩=some .nilIface)∧w.frozen? ⟨W.heap.size+1,0,none⟩=false∧w.frozen? ⟨W.heap.size+1,1,none⟩=false∧W.heap.size+2≤w.heap.size):=fun w g=>by
    have hb:=g.block (W.heap.size+1) (by simp) (by simp)
    refine ⟨⟨g.cell (by simp) (by simp),g.cell (by simp) (by simp)⟩,⟨g.cell (by simp) (by simp),g.cell (by simp) (by simp)⟩,?_,?_,by have:=g.size;simp at this;omega⟩
    · rw [World.frozen?_of_block hb];simp
    · rw [World.frozen?_of_block hb];simp
  have HBb:=Lib.hid hB
  clear hd hem hB
  go_enter Tryz.func92,Tryz.ntmps92
  go_wp2_with (first
    | (go_at_call 165;refine (HF.out _ _ HG.out).mono ?_;intro e w2 hp;obtain ⟨k2,ty2,b2,rfl,hd2,hg2⟩:=GPost.back (W:=W) (by simp) hp;have HD2:=Lib.hid hd2;clear hd2 hp;obtain ⟨_,⟨r0,r1⟩,rf0,rf1,_⟩:=HB.out _ hg2))
  refine bodyPost_ret (by simp [results,Tryz.results92,go_sem,r0,r1];try rfl) rfl ?_
  obtain ⟨h1,h2⟩:=GClose (x0:=.int .i64 k2) (x1:=.iface ty2 (.pointer (some ⟨b2,0,none⟩))) HBb.out (gt_trans HG.out hg2 (.inl rfl)) HD2.out
  exact ⟨_,_,_,rfl,h1,h2⟩
end
end Go.Proofs.YtlpaecafpbbbkaaGreatDoor
