/- Containers of the package as plain data. -/
import Derived.Deep.RegionLaw
import Derived.Test.YtlpaecafpbbbkaaGreatDoorRCT21
set_option linter.unusedVariables false
set_option linter.unusedSimpArgs false
set_option maxRecDepth 100000
set_option maxHeartbeats 24000000
namespace Go.Proofs.YtlpaecafpbbbkaaGreatDoor
section
open Go.RowKit
theorem MlNum_any (p:Option Addr) (n c r:Nat) (W:World):Calls Tryz.prog 135 #[.agg #[.slice p n c,.int .u8 r]] W fun e w'=>e=.returned (.int .i64 n)∧W.grownBy w' none:=by
  go_enter Tryz.func135,Tryz.ntmps135
  go_wp2_with fail
  go_ret
  exact ⟨rfl,World.grownBy_alloc _ _ _⟩
theorem MlAt_any (a:Addr) (n c r k:Nat) (er:Nat) (ep:Option Addr) (en ec:Nat) (hk:k<n) (hn:n≤2513169434843) (W:World) (h0:W.cell? (a.add (k*2))=some (.int .u8 er)) (h1:W.cell? ⟨(a.add (k*2)).block,(a.add (k*2)).off+1,none⟩=some (.slice ep en ec)) :
    Calls Tryz.prog 136 #[.agg #[.slice (some a) n c,.int .u8 r],.int .i64 k] W fun e w'=>e=.returned (.agg #[.int .u8 er,.slice ep en ec])∧W.grownBy w' none:=by
  have hb0:a.block<W.heap.size:=by have:=World.block_lt_of_cell? W _ h0;rw [add_block] at this;exact this
  have hb1:a.block<W.heap.size+1:=by omega
  have hb2:a.block<W.heap.size+1+1:=by omega
  have hb3:(a.add (k*2)).block<W.heap.size:=by rw [add_block];omega
  have hb4:(a.add (k*2)).block<W.heap.size+1:=by rw [add_block];omega
  have hb5:(a.add (k*2)).block<W.heap.size+1+1:=by rw [add_block];omega
  have hki:(k:Int)<(n:Int):=by omega
  have hk0:(0:Int)≤(k:Int):=by omega
  go_enter Tryz.func136,Tryz.ntmps136
  go_wp2_with fail
  go_returns
  exact ⟨rfl,gt_alloc_r (World.grownBy_alloc _ _ _) _⟩
theorem plMl_of {D:(Nat→Prop)→World→Value→Raw→Prop} (K:DK D) (hfm:∀ {B:Nat→Prop} {W:World} {v:Value} {t:Raw},D B W v t→∃ (er:Nat) (ep:Option Addr) (en ec:Nat),v=.agg #[.int .u8 er,.slice ep en ec]) (h:Nat) (HP:PC D 76 h) (HCt:CC (DNode 5 D) 150):PC (DNode 5 D) 80 (h+1):=by
  intro B W v t hd hok hB
  have HCT0:=HCt B W v t hd
  obtain ⟨r,f,kids,p,c,rfl,hr,rfl,hc1,hc2,hrow⟩:=hd
  have hdr:dimR (.mk 5 (r:Nat) 0 f kids)=r:=by show ((r:Nat):Int).toNat=r;omega
  rw [hdr] at HCT0
  unfold okT at hok
  obtain ⟨_,hkl,hoks⟩:=hok
  have e:dataT (.mk 5 (r:Nat) 0 f kids)=.mk 5 (r:Nat) 0 (fun _=>0) (dataTs kids):=rfl
  rw [e]
  clear e
  obtain ⟨n,hn⟩ : ∃ n,n=kids.length:=⟨_,rfl⟩
  obtain ⟨kids2,hk2⟩ : ∃ k2,k2=dataTs kids:=⟨_,rfl⟩
  have hn2:kids2.length=n:=by rw [hk2,dataTs_len,hn]
  have HGt:Hid (∀ i,kids2[i]?=kids[i]?.map dataT):=fun i=>by rw [hk2];exact dataTs_get kids i
  rw [←hn] at hkl HCT0 ⊢
  rw [←hk2]
  have HCT:=Lib.hid (fun (w:World) (g:W.grownBy w none)=>(by
    have h2:=HCt B w (.agg #[.slice p kids.length c,.int .u8 r]) (.mk 5 (r:Nat) 0 f kids) ⟨r,f,kids,p,c,rfl,hr,rfl,hc1,hc2,hrow.mono K g⟩
    rw [hdr,←hn] at h2
    exact h2:Calls Tryz.prog 150 #[.agg #[.slice p n c,.int .u8 r]] w fun e w'=>e=.returned (.int .u8 r)∧w.grownBy w' none))
  have HG:=Lib.hid (gt_alloc_r (World.grownBy_alloc W (.cells #[.slice p n c,.int .u8 r] 104) none) (.cells #[.int .i64 0,.int .i64 0,.slice none 0 0,.slice none 0 0] 33))
  have HC:Hid (∀ w,((W.alloc (.cells #[.slice p n c,.int .u8 r] 104)).alloc (.cells #[.int .i64 0,.int .i64 0,.slice none 0 0,.slice none 0 0] 33)).grownBy w none→(w.cell? ⟨W.heap.size,0,none⟩=some (.slice p n c)∧w.cell? ⟨W.heap.size,1,none⟩=some (.int .u8 r))∧(w.cell? ⟨W.heap.size+1,0,none⟩=some (.int .i64 0)∧w.cell? ⟨W.heap.size+1,1,none⟩=some (.int .i64 0)∧w.cell? ⟨W.heap.size+1,2,none⟩=some (.slice none 0 0)∧w.cell? ⟨W.heap.size+1,3,none⟩=some (.slice none 0 0))∧∀ j,w.frozen? ⟨W.heap.size+1,j,none⟩=false):=fun w g=>by
    have hb:=g.block (W.heap.size+1) (by simp) (by simp)
    refine ⟨⟨g.cell (by simp) (by simp),g.cell (by simp) (by simp)⟩,⟨g.cell (by simp) (by simp),g.cell (by simp) (by simp),g.cell (by simp) (by simp),g.cell (by simp) (by simp)⟩,fun j=>?_⟩
    rw [World.frozen?_of_block hb];simp
  have HK:Hid (∀ w,W.grownBy w none→∀ k,k<n→∃ (a:Addr) (t:Raw) (er:Nat) (ep:Option Addr) (en ec:Nat),p=some a∧kids2[k]?=some t∧w.cell? (a.add (k*2))=some (.int .u8 er)∧w.cell? ⟨(a.add (k*2)).block,(a.add (k*2)).off+1,none⟩=some (.slice ep en ec) ∧
      ∀ w',w.grownBy w' none→Calls Tryz.prog 76 #[.agg #[.int .u8 er,.slice ep en ec]] w' fun e w2=>∃ k6 d6 p6 n6 cap6 q6 m6 cq6,e=.returned (.agg #[.int .i64 k6,.int .i64 d6,.slice p6 n6 cap6,.slice q6 m6 cq6])∧KD (Fr w' w2) h w2 (.agg #[.int .i64 k6,.int .i64 d6,.slice p6 n6 cap6,.slice q6 m6 cq6]) t∧w'.grownBy w2 none):=fun w g k hk=>by
    obtain ⟨a,rfl⟩:=hrow.1 (by omega)
    have hi:kids[k]?=some (kids[k]'(by omega)):=List.getElem?_eq_getElem (by omega)
    obtain ⟨_,h2⟩:=hrow.2 a rfl
    obtain ⟨c0,c1,q0,q1,hd⟩:=h2 k _ hi
    obtain ⟨er,ep,en,ec,hv⟩:=hfm hd
    simp only [Value.agg.injEq,Array.mk.injEq,List.cons.injEq,and_true] at hv
    obtain ⟨rfl,rfl⟩:=hv
    refine ⟨a,dataT (kids[k]'(by omega)),er,ep,en,ec,rfl,(HGt.out k).trans (by rw [hi];rfl),g.cell q0 (by simp),g.cell q1 (by simp),fun w' g'=>?_⟩
    have gw:=gt_trans g g' (.inl rfl)
    refine (HP B w' _ _ (K.mono gw hd) (okTs_mem hoks hi) (fun b hb=>Nat.lt_of_lt_of_le (hB b hb) gw.size)).mono ?_
    rintro e w2 ⟨v',he,hk,hg⟩
    obtain ⟨k6,d6,n6,f6,kids6,p6,cap6,q6,cq6,_,hv⟩:=hk.form
    exact ⟨k6,d6,p6,n6,cap6,q6,_,cq6,by rw [he,hv],by rw [←hv];exact hk,hg⟩
  have HRl:Hid (∀ j,j≤n→(kids2.take j).length=j):=fun j hj=>by rw [List.length_take];omega
  have HRt:Hid (∀ j t,kids2[j]?=some t→kids2.take (j+1)=kids2.take j++[t]):=fun j t h=>by
    obtain ⟨hlt,rfl⟩:=List.getElem?_eq_some_iff.1 h
    rw [List.take_succ_eq_append_getElem hlt]
  have HRe:Hid (kids2.take n=kids2):=by show kids2.take n=kids2;rw [←hn2,List.take_length]
  have HNm:=Lib.hid (fun w=>MlNum_any p n c r w)
  clear hrow HP hn hn2 hk2 hoks hB hdr HCt HCT0 hc1 hc2 hfm
  go_enter Tryz.func80,Tryz.ntmps80
  go_wp2_with (first
    | (go_at_call 150;refine (HCT.out _ HG.out).mono ?_;rintro e w1 ⟨rfl,hg1⟩;obtain ⟨⟨k0,k1⟩,_,_⟩:=HC.out _ hg1;have hz1:W.heap.size<w1.heap.size:=(by have:=hg1.size;simp at this;omega);have hz2:W.heap.size+1<w1.heap.size:=(by have:=hg1.size;simp at this;omega)))
  obtain ⟨pn,cn,hx,I0⟩:=KidB.of_num (f:=fun _=>0) (n:=0) (NumB.new (gt_trans HG.out hg1 (.inl rfl)) 5 r) h (fun _=>Nat.zero_lt_succ _)
  injection hx with hx1 hx2 hx3
  subst hx1 hx3
  have HI0:=Lib.hid I0
  clear I0
  have HBx:Hid (∀ wr,Und W (w1.alloc (.cells #[.int .i64 5,.int .i64 r,.slice none 0 0,.slice none 0 0] 33)) (w1.heap.size+1) w1.heap.size wr→(wr.cell? ⟨W.heap.size,0,none⟩=some (.slice p n c)∧wr.cell? ⟨W.heap.size,1,none⟩=some (.int .u8 r))∧(wr.cell? ⟨W.heap.size+1,0,none⟩=some (.int .i64 0)∧wr.cell? ⟨W.heap.size+1,1,none⟩=some (.int .i64 0)∧wr.cell? ⟨W.heap.size+1,2,none⟩=some (.slice none 0 0)∧wr.cell? ⟨W.heap.size+1,3,none⟩=some (.slice none 0 0))∧∀ j,wr.frozen? ⟨W.heap.size+1,j,none⟩=false):=fun wr u=>by
    obtain ⟨⟨e0,e1⟩,⟨f0,f1,f2,f3⟩,fz⟩:=HC.out (w1.alloc (.cells #[.int .i64 5,.int .i64 r,.slice none 0 0,.slice none 0 0] 33)) (gt_alloc_r hg1 _)
    have kp:∀ b j x,b<w1.heap.size→(w1.alloc (.cells #[.int .i64 5,.int .i64 r,.slice none 0 0,.slice none 0 0] 33)).cell? ⟨b,j,none⟩=some x→wr.cell? ⟨b,j,none⟩=some x:=fun b j x hb h=>u.keep _ _ (by show b<_;omega) (by show b≠_;omega) h
    exact ⟨⟨kp _ _ _ hz1 e0,kp _ _ _ hz1 e1⟩,⟨kp _ _ _ hz2 f0,kp _ _ _ hz2 f1,kp _ _ _ hz2 f2,kp _ _ _ hz2 f3⟩,fun j=>by rw [u.kf _ j (by omega) (by omega)];exact fz j⟩
  clear HC k0 k1
  go_loopw [4] (fun i wr=>∃ (k:Nat) (y:Value) (cs:List Value),k≤n∧i=.int .i64 k∧KidB W (w1.alloc (.cells #[.int .i64 5,.int .i64 r,.slice none 0 0,.slice none 0 0] 33)) (w1.heap.size+1) w1.heap.size wr h 5 r none 0 0 (fun _=>0) y (kids2.take k) cs) (fun i _=>n - (intOf i).toNat)
  case atStart=>exact ⟨0,_,_,by omega,rfl,by rw [List.take_zero];exact HI0.out⟩
  case round =>
    clear HI0
    obtain ⟨k,y,cs,hk,rfl,I⟩:=hrel
    rename World=>wr
    obtain ⟨⟨k0,k1⟩,⟨r0,r1,r2,r3⟩,rf⟩:=HBx.out _ I.u
    have hll:=HRl.out k hk
    obtain ⟨py,cy,rfl,_⟩:=own_form I.kr.1
    rw [hll] at I
    have hbig:=I.u.big
    have hzA:W.heap.size<wr.heap.size:=by omega
    have hzB:W.heap.size+1<wr.heap.size:=by omega
    have hzC:w1.heap.size<wr.heap.size:=by omega
    by_cases hkn:k<n
    · obtain ⟨a,t,er,ep,en,ec,rfl,hti,q0,q1,hpp⟩:=HK.out wr I.u.g k hkn
      have HPp:=Lib.hid hpp
      have HRj:=Lib.hid (HRt.out k t hti)
      have HI:=Lib.hid I
      have HAt:=Lib.hid (fun w (g:wr.grownBy w none)=>MlAt_any a n c r k er ep en ec hkn hkl w (g.cell q0 (by simp)) (g.cell q1 (by simp)))
      have HOw:Hid (∀ w,wr.grownBy w none→w.ownsRow (w1.heap.size+1) 33 4 (.slice py k cy) k cs):=fun w g=>by
        have hh:=(HI.out.kept g).kr.1
        rw [hll] at hh
        exact hh
      have HS:Hid (∀ w,wr.grownBy w none→w.cell? ⟨W.heap.size,0,none⟩=some (.slice (some a) n c)∧w.cell? ⟨W.heap.size,1,none⟩=some (.int .u8 r)∧w.cell? ⟨w1.heap.size,3,none⟩=some (.slice py k cy)):=fun w g=>⟨g.cell k0 (by simp),g.cell k1 (by simp),(HI.out.kept g).o3⟩
      have HX7:Hid (∀ w6 w7,wr.grownBy w6 none→w6.grownBy w7 (Value.slice py k cy).ownBlock→w7.cell? ⟨w1.heap.size,3,none⟩=some (.slice py k cy)∧w7.frozen? ⟨w1.heap.size,3,none⟩=false):=fun w6 w7 g g'=>by
        have hi:=HI.out.kept g
        have hne:some w1.heap.size≠(Value.slice py k cy).ownBlock:=fun e=>by have:=(hi.kr.1.lt _ e.symm).1;omega
        exact ⟨g'.cell hi.o3 hne,by rw [World.frozen?_of_block (g'.block w1.heap.size (by have:=hi.u.big;omega) hne)];exact hi.u.of_ 3⟩
      have HSn:Hid (∀ (wa wb wc wd:World) (d0 d1 d2 d3:Value) (gg cap:Nat),wr.grownBy wa none→wa.grownBy wb none→wb.grownBy wc none→KD (Fr wa wb) h wb (.agg #[d0,d1,d2,d3]) t→wd.ownsRow (w1.heap.size+1) 33 4 (.slice (some ⟨gg,0,none⟩) (k+1) cap) (k+1) (cs++[d0,d1,d2,d3])→wc.grownBy wd (Value.slice py k cy).ownBlock→((Value.slice py k cy).ownBlock=some gg∨gg=wc.heap.size) →
          KidB W (w1.alloc (.cells #[.int .i64 5,.int .i64 r,.slice none 0 0,.slice none 0 0] 33)) (w1.heap.size+1) w1.heap.size (wd.setCell ⟨w1.heap.size,3,none⟩ (.slice (some ⟨gg,0,none⟩) (k+1) cap)) h 5 r none 0 0 (fun _=>0) (.slice (some ⟨gg,0,none⟩) (k+1) cap) (kids2.take k++[t]) (cs++[d0,d1,d2,d3])):=fun wa wb wc wd d0 d1 d2 d3 gg cap g1 g2 g3 hk hown g4 hg=>by
        have hh:=HI.out.snoc g1 g2 g3 hk (gg:=gg) (cap:=cap) (by rw [hll];exact hown) g4 hg
        rw [hll] at hh
        exact hh
      clear I hpp hti
      go_wp2_with (first
        | (go_at_call 135;refine (HNm.out _).mono ?_;rintro e w2 ⟨rfl,hg2⟩;obtain ⟨b0,b1,b3⟩:=HS.out _ hg2;have hzD:w1.heap.size<w2.heap.size:=(by have:=hg2.size;omega)))
      have hgd:=gt_trans hg2 (gt_drew_r (gt_refl w2 none)) (.inl rfl)
      go_region_law (first
        | (rw [if_pos (by simp [Region.wanted])];go_simp;go_at_call 136;(with_reducible refine (HAt.out _ ?_).mono ?_);exact hgd;rintro e w3 ⟨rfl,hg3⟩;have G3:=gt_trans hgd hg3 (.inl rfl);obtain ⟨c0,c1,c3⟩:=HS.out _ G3)
        | (rw [if_pos (by simp [Region.wanted])];go_simp;go_at_call 76;(with_reducible refine (HPp.out _ G3).mono ?_);rintro e w5 ⟨k6,d6,p6,n6,cap6,q6,m6,cq6,rfl,hk5,hg5⟩;have Hk5:=Lib.hid hk5;clear hk5;have G6:=gt_trans G3 hg5 (.inl rfl);obtain ⟨d0,d1,d3⟩:=HS.out _ G6;have hzE:w1.heap.size<w5.heap.size:=(by have:=G6.size;omega))
        | (refine app_cells2_step (size:=4) (n:=k) (xs:=cs) (base:=w1.heap.size+1) rfl _ _ _ rfl Tryz.underlying31 (.agg #[.int .i64 0,.int .i64 0,.slice none 0 0,.slice none 0 0]) 64 infoG rfl (Nat.succ_pos 3) rfl rfl rfl _ (HOw.out _ (gt_alloc_r G6 _)) rfl (one4 _ _ _ _ _ _ _ _) (Nat.succ_pos 0) (by have:=G6.size;simp;omega) (by omega) (by omega) ?_;intro gg cap7 w7 hown7 hg7 hat7;obtain ⟨u3,uf⟩:=HX7.out _ _ (gt_alloc_r G6 _) hg7;have HFin:=Lib.hid (HSn.out _ _ _ _ _ _ _ _ _ _ G3 hg5 (World.grownBy_alloc _ _ _) Hk5.out hown7 hg7 hat7);clear hown7 hg7 hat7))
      all_goals
        go_wp2_with fail
        exact ⟨⟨k+1,_,_,by omega,by go_num,by rw [HRj.out];exact HFin.out⟩,by simp [intOf];omega⟩
    · obtain rfl:k=n:=by omega
      rw [HRe.out] at I
      have HI:=Lib.hid I
      clear I
      go_wp2_with (first
        | (go_at_call 135;refine (HNm.out _).mono ?_;rintro e w2 ⟨rfl,hg2⟩;have I2:=HI.out.kept hg2;have o0:=I2.o0;have o1:=I2.o1;have o2:=I2.o2;have o3:=I2.o3;obtain ⟨_,⟨s0,s1,s2,s3⟩,sf⟩:=HBx.out _ I2.u;have sf0:=sf 0;have sf1:=sf 1;have sf2:=sf 2;have sf3:=sf 3;have HE:=Lib.hid (I2.end_ (W.heap.size+1) (by omega) (by omega));clear I2))
      go_wp2_with fail
      refine bodyPost_ret (by simp [results,Tryz.results80,go_sem,s0,s1,s2,s3];try rfl) rfl ?_
      exact ⟨_,rfl,HE.out.1,HE.out.2⟩
theorem MpNum_any (p:Option Addr) (n c r:Nat) (W:World):Calls Tryz.prog 137 #[.agg #[.slice p n c,.int .u8 r]] W fun e w'=>e=.returned (.int .i64 n)∧W.grownBy w' none:=by
  go_enter Tryz.func137,Tryz.ntmps137
  go_wp2_with fail
  go_ret
  exact ⟨rfl,World.grownBy_alloc _ _ _⟩
theorem MpAt_any (a:Addr) (n c r k:Nat) (ep:Option Addr) (en ec er:Nat) (hk:k<n) (hn:n≤2513169434843) (W:World) (h0:W.cell? (a.add (k*2))=some (.slice ep en ec)) (h1:W.cell? ⟨(a.add (k*2)).block,(a.add (k*2)).off+1,none⟩=some (.int .u8 er)) :
    Calls Tryz.prog 138 #[.agg #[.slice (some a) n c,.int .u8 r],.int .i64 k] W fun e w'=>e=.returned (.agg #[.slice ep en ec,.int .u8 er])∧W.grownBy w' none:=by
  have hb0:a.block<W.heap.size:=by have:=World.block_lt_of_cell? W _ h0;rw [add_block] at this;exact this
  have hb1:a.block<W.heap.size+1:=by omega
  have hb2:a.block<W.heap.size+1+1:=by omega
  have hb3:(a.add (k*2)).block<W.heap.size:=by rw [add_block];omega
  have hb4:(a.add (k*2)).block<W.heap.size+1:=by rw [add_block];omega
  have hb5:(a.add (k*2)).block<W.heap.size+1+1:=by rw [add_block];omega
  have hki:(k:Int)<(n:Int):=by omega
  have hk0:(0:Int)≤(k:Int):=by omega
  go_enter Tryz.func138,Tryz.ntmps138
  go_wp2_with fail
  go_returns
  exact ⟨rfl,gt_alloc_r (World.grownBy_alloc _ _ _) _⟩
theorem plMp_of {D:(Nat→Prop)→World→Value→Raw→Prop} (K:DK D) (hfm:∀ {B:Nat→Prop} {W:World} {v:Value} {t:Raw},D B W v t→∃ (ep:Option Addr) (en ec er:Nat),v=.agg #[.slice ep en ec,.int .u8 er]) (h:Nat) (HP:PC D 77 h) (HCt:CC (DNode 6 D) 151):PC (DNode 6 D) 81 (h+1):=by
  intro B W v t hd hok hB
  have HCT0:=HCt B W v t hd
  obtain ⟨r,f,kids,p,c,rfl,hr,rfl,hc1,hc2,hrow⟩:=hd
  have hdr:dimR (.mk 6 (r:Nat) 0 f kids)=r:=by show ((r:Nat):Int).toNat=r;omega
  rw [hdr] at HCT0
  unfold okT at hok
  obtain ⟨_,hkl,hoks⟩:=hok
  have e:dataT (.mk 6 (r:Nat) 0 f kids)=.mk 6 (r:Nat) 0 (fun _=>0) (dataTs kids):=rfl
  rw [e]
  clear e
  obtain ⟨n,hn⟩ : ∃ n,n=kids.length:=⟨_,rfl⟩
  obtain ⟨kids2,hk2⟩ : ∃ k2,k2=dataTs kids:=⟨_,rfl⟩
  have hn2:kids2.length=n:=by rw [hk2,dataTs_len,hn]
  have HGt:Hid (∀ i,kids2[i]?=kids[i]?.map dataT):=fun i=>by rw [hk2];exact dataTs_get kids i
  rw [←hn] at hkl HCT0 ⊢
  rw [←hk2]
  have HCT:=Lib.hid (fun (w:World) (g:W.grownBy w none)=>(by
    have h2:=HCt B w (.agg #[.slice p kids.length c,.int .u8 r]) (.mk 6 (r:Nat) 0 f kids) ⟨r,f,kids,p,c,rfl,hr,rfl,hc1,hc2,hrow.mono K g⟩
    rw [hdr,←hn] at h2
    exact h2:Calls Tryz.prog 151 #[.agg #[.slice p n c,.int .u8 r]] w fun e w'=>e=.returned (.int .u8 r)∧w.grownBy w' none))
  have HG:=Lib.hid (gt_alloc_r (World.grownBy_alloc W (.cells #[.slice p n c,.int .u8 r] 108) none) (.cells #[.int .i64 0,.int .i64 0,.slice none 0 0,.slice none 0 0] 33))
  have HC:Hid (∀ w,((W.alloc (.cells #[.slice p n c,.int .u8 r] 108)).alloc (.cells #[.int .i64 0,.int .i64 0,.slice none 0 0,.slice none 0 0] 33)).grownBy w none→(w.cell? ⟨W.heap.size,0,none⟩=some (.slice p n c)∧w.cell? ⟨W.heap.size,1,none⟩=some (.int .u8 r))∧(w.cell? ⟨W.heap.size+1,0,none⟩=some (.int .i64 0)∧w.cell? ⟨W.heap.size+1,1,none⟩=some (.int .i64 0)∧w.cell? ⟨W.heap.size+1,2,none⟩=some (.slice none 0 0)∧w.cell? ⟨W.heap.size+1,3,none⟩=some (.slice none 0 0))∧∀ j,w.frozen? ⟨W.heap.size+1,j,none⟩=false):=fun w g=>by
    have hb:=g.block (W.heap.size+1) (by simp) (by simp)
    refine ⟨⟨g.cell (by simp) (by simp),g.cell (by simp) (by simp)⟩,⟨g.cell (by simp) (by simp),g.cell (by simp) (by simp),g.cell (by simp) (by simp),g.cell (by simp) (by simp)⟩,fun j=>?_⟩
    rw [World.frozen?_of_block hb];simp
  have HK:Hid (∀ w,W.grownBy w none→∀ k,k<n→∃ (a:Addr) (t:Raw) (ep:Option Addr) (en ec er:Nat),p=some a∧kids2[k]?=some t∧w.cell? (a.add (k*2))=some (.slice ep en ec)∧w.cell? ⟨(a.add (k*2)).block,(a.add (k*2)).off+1,none⟩=some (.int .u8 er) ∧
      ∀ w',w.grownBy w' none→Calls Tryz.prog 77 #[.agg #[.slice ep en ec,.int .u8 er]] w' fun e w2=>∃ k6 d6 p6 n6 cap6 q6 m6 cq6,e=.returned (.agg #[.int .i64 k6,.int .i64 d6,.slice p6 n6 cap6,.slice q6 m6 cq6])∧KD (Fr w' w2) h w2 (.agg #[.int .i64 k6,.int .i64 d6,.slice p6 n6 cap6,.slice q6 m6 cq6]) t∧w'.grownBy w2 none):=fun w g k hk=>by
    obtain ⟨a,rfl⟩:=hrow.1 (by omega)
    have hi:kids[k]?=some (kids[k]'(by omega)):=List.getElem?_eq_getElem (by omega)
    obtain ⟨_,h2⟩:=hrow.2 a rfl
    obtain ⟨c0,c1,q0,q1,hd⟩:=h2 k _ hi
    obtain ⟨ep,en,ec,er,hv⟩:=hfm hd
    simp only [Value.agg.injEq,Array.mk.injEq,List.cons.injEq,and_true] at hv
    obtain ⟨rfl,rfl⟩:=hv
    refine ⟨a,dataT (kids[k]'(by omega)),ep,en,ec,er,rfl,(HGt.out k).trans (by rw [hi];rfl),g.cell q0 (by simp),g.cell q1 (by simp),fun w' g'=>?_⟩
    have gw:=gt_trans g g' (.inl rfl)
    refine (HP B w' _ _ (K.mono gw hd) (okTs_mem hoks hi) (fun b hb=>Nat.lt_of_lt_of_le (hB b hb) gw.size)).mono ?_
    rintro e w2 ⟨v',he,hk,hg⟩
    obtain ⟨k6,d6,n6,f6,kids6,p6,cap6,q6,cq6,_,hv⟩:=hk.form
    exact ⟨k6,d6,p6,n6,cap6,q6,_,cq6,by rw [he,hv],by rw [←hv];exact hk,hg⟩
  have HRl:Hid (∀ j,j≤n→(kids2.take j).length=j):=fun j hj=>by rw [List.length_take];omega
  have HRt:Hid (∀ j t,kids2[j]?=some t→kids2.take (j+1)=kids2.take j++[t]):=fun j t h=>by
    obtain ⟨hlt,rfl⟩:=List.getElem?_eq_some_iff.1 h
    rw [List.take_succ_eq_append_getElem hlt]
  have HRe:Hid (kids2.take n=kids2):=by show kids2.take n=kids2;rw [←hn2,List.take_length]
  have HNm:=Lib.hid (fun w=>MpNum_any p n c r w)
  clear hrow HP hn hn2 hk2 hoks hB hdr HCt HCT0 hc1 hc2 hfm
  go_enter Tryz.func81,Tryz.ntmps81
  go_wp2_with (first
    | (go_at_call 151;refine (HCT.out _ HG.out).mono ?_;rintro e w1 ⟨rfl,hg1⟩;obtain ⟨⟨k0,k1⟩,_,_⟩:=HC.out _ hg1;have hz1:W.heap.size<w1.heap.size:=(by have:=hg1.size;simp at this;omega);have hz2:W.heap.size+1<w1.heap.size:=(by have:=hg1.size;simp at this;omega)))
  obtain ⟨pn,cn,hx,I0⟩:=KidB.of_num (f:=fun _=>0) (n:=0) (NumB.new (gt_trans HG.out hg1 (.inl rfl)) 6 r) h (fun _=>Nat.zero_lt_succ _)
  injection hx with hx1 hx2 hx3
  subst hx1 hx3
  have HI0:=Lib.hid I0
  clear I0
  have HBx:Hid (∀ wr,Und W (w1.alloc (.cells #[.int .i64 6,.int .i64 r,.slice none 0 0,.slice none 0 0] 33)) (w1.heap.size+1) w1.heap.size wr→(wr.cell? ⟨W.heap.size,0,none⟩=some (.slice p n c)∧wr.cell? ⟨W.heap.size,1,none⟩=some (.int .u8 r))∧(wr.cell? ⟨W.heap.size+1,0,none⟩=some (.int .i64 0)∧wr.cell? ⟨W.heap.size+1,1,none⟩=some (.int .i64 0)∧wr.cell? ⟨W.heap.size+1,2,none⟩=some (.slice none 0 0)∧wr.cell? ⟨W.heap.size+1,3,none⟩=some (.slice none 0 0))∧∀ j,wr.frozen? ⟨W.heap.size+1,j,none⟩=false):=fun wr u=>by
    obtain ⟨⟨e0,e1⟩,⟨f0,f1,f2,f3⟩,fz⟩:=HC.out (w1.alloc (.cells #[.int .i64 6,.int .i64 r,.slice none 0 0,.slice none 0 0] 33)) (gt_alloc_r hg1 _)
    have kp:∀ b j x,b<w1.heap.size→(w1.alloc (.cells #[.int .i64 6,.int .i64 r,.slice none 0 0,.slice none 0 0] 33)).cell? ⟨b,j,none⟩=some x→wr.cell? ⟨b,j,none⟩=some x:=fun b j x hb h=>u.keep _ _ (by show b<_;omega) (by show b≠_;omega) h
    exact ⟨⟨kp _ _ _ hz1 e0,kp _ _ _ hz1 e1⟩,⟨kp _ _ _ hz2 f0,kp _ _ _ hz2 f1,kp _ _ _ hz2 f2,kp _ _ _ hz2 f3⟩,fun j=>by rw [u.kf _ j (by omega) (by omega)];exact fz j⟩
  clear HC k0 k1
  go_loopw [4] (fun i wr=>∃ (k:Nat) (y:Value) (cs:List Value),k≤n∧i=.int .i64 k∧KidB W (w1.alloc (.cells #[.int .i64 6,.int .i64 r,.slice none 0 0,.slice none 0 0] 33)) (w1.heap.size+1) w1.heap.size wr h 6 r none 0 0 (fun _=>0) y (kids2.take k) cs) (fun i _=>n - (intOf i).toNat)
  case atStart=>exact ⟨0,_,_,by omega,rfl,by rw [List.take_zero];exact HI0.out⟩
  case round =>
    clear HI0
    obtain ⟨k,y,cs,hk,rfl,I⟩:=hrel
    rename World=>wr
    obtain ⟨⟨k0,k1⟩,⟨r0,r1,r2,r3⟩,rf⟩:=HBx.out _ I.u
    have hll:=HRl.out k hk
    obtain ⟨py,cy,rfl,_⟩:=own_form I.kr.1
    rw [hll] at I
    have hbig:=I.u.big
    have hzA:W.heap.size<wr.heap.size:=by omega
    have hzB:W.heap.size+1<wr.heap.size:=by omega
    have hzC:w1.heap.size<wr.heap.size:=by omega
    by_cases hkn:k<n
    · obtain ⟨a,t,ep,en,ec,er,rfl,hti,q0,q1,hpp⟩:=HK.out wr I.u.g k hkn
      have HPp:=Lib.hid hpp
      have HRj:=Lib.hid (HRt.out k t hti)
      have HI:=Lib.hid I
      have HAt:=Lib.hid (fun w (g:wr.grownBy w none)=>MpAt_any a n c r k ep en ec er hkn hkl w (g.cell q0 (by simp)) (g.cell q1 (by simp)))
      have HOw:Hid (∀ w,wr.grownBy w none→w.ownsRow (w1.heap.size+1) 33 4 (.slice py k cy) k cs):=fun w g=>by
        have hh:=(HI.out.kept g).kr.1
        rw [hll] at hh
        exact hh
      have HS:Hid (∀ w,wr.grownBy w none→w.cell? ⟨W.heap.size,0,none⟩=some (.slice (some a) n c)∧w.cell? ⟨W.heap.size,1,none⟩=some (.int .u8 r)∧w.cell? ⟨w1.heap.size,3,none⟩=some (.slice py k cy)):=fun w g=>⟨g.cell k0 (by simp),g.cell k1 (by simp),(HI.out.kept g).o3⟩
      have HX7:Hid (∀ w6 w7,wr.grownBy w6 none→w6.grownBy w7 (Value.slice py k cy).ownBlock→w7.cell? ⟨w1.heap.size,3,none⟩=some (.slice py k cy)∧w7.frozen? ⟨w1.heap.size,3,none⟩=false):=fun w6 w7 g g'=>by
        have hi:=HI.out.kept g
        have hne:some w1.heap.size≠(Value.slice py k cy).ownBlock:=fun e=>by have:=(hi.kr.1.lt _ e.symm).1;omega
        exact ⟨g'.cell hi.o3 hne,by rw [World.frozen?_of_block (g'.block w1.heap.size (by have:=hi.u.big;omega) hne)];exact hi.u.of_ 3⟩
      have HSn:Hid (∀ (wa wb wc wd:World) (d0 d1 d2 d3:Value) (gg cap:Nat),wr.grownBy wa none→wa.grownBy wb none→wb.grownBy wc none→KD (Fr wa wb) h wb (.agg #[d0,d1,d2,d3]) t→wd.ownsRow (w1.heap.size+1) 33 4 (.slice (some ⟨gg,0,none⟩) (k+1) cap) (k+1) (cs++[d0,d1,d2,d3])→wc.grownBy wd (Value.slice py k cy).ownBlock→((Value.slice py k cy).ownBlock=some gg∨gg=wc.heap.size) →
          KidB W (w1.alloc (.cells #[.int .i64 6,.int .i64 r,.slice none 0 0,.slice none 0 0] 33)) (w1.heap.size+1) w1.heap.size (wd.setCell ⟨w1.heap.size,3,none⟩ (.slice (some ⟨gg,0,none⟩) (k+1) cap)) h 6 r none 0 0 (fun _=>0) (.slice (some ⟨gg,0,none⟩) (k+1) cap) (kids2.take k++[t]) (cs++[d0,d1,d2,d3])):=fun wa wb wc wd d0 d1 d2 d3 gg cap g1 g2 g3 hk hown g4 hg=>by
        have hh:=HI.out.snoc g1 g2 g3 hk (gg:=gg) (cap:=cap) (by rw [hll];exact hown) g4 hg
        rw [hll] at hh
        exact hh
      clear I hpp hti
      go_wp2_with (first
        | (go_at_call 137;refine (HNm.out _).mono ?_;rintro e w2 ⟨rfl,hg2⟩;obtain ⟨b0,b1,b3⟩:=HS.out _ hg2;have hzD:w1.heap.size<w2.heap.size:=(by have:=hg2.size;omega)))
      have hgd:=gt_trans hg2 (gt_drew_r (gt_refl w2 none)) (.inl rfl)
      go_region_law (first
        | (rw [if_pos (by simp [Region.wanted])];go_simp;go_at_call 138;(with_reducible refine (HAt.out _ ?_).mono ?_);exact hgd;rintro e w3 ⟨rfl,hg3⟩;have G3:=gt_trans hgd hg3 (.inl rfl);obtain ⟨c0,c1,c3⟩:=HS.out _ G3)
        | (rw [if_pos (by simp [Region.wanted])];go_simp;go_at_call 77;(with_reducible refine (HPp.out _ G3).mono ?_);rintro e w5 ⟨k6,d6,p6,n6,cap6,q6,m6,cq6,rfl,hk5,hg5⟩;have Hk5:=Lib.hid hk5;clear hk5;have G6:=gt_trans G3 hg5 (.inl rfl);obtain ⟨d0,d1,d3⟩:=HS.out _ G6;have hzE:w1.heap.size<w5.heap.size:=(by have:=G6.size;omega))
        | (refine app_cells2_step (size:=4) (n:=k) (xs:=cs) (base:=w1.heap.size+1) rfl _ _ _ rfl Tryz.underlying31 (.agg #[.int .i64 0,.int .i64 0,.slice none 0 0,.slice none 0 0]) 64 infoG rfl (Nat.succ_pos 3) rfl rfl rfl _ (HOw.out _ (gt_alloc_r G6 _)) rfl (one4 _ _ _ _ _ _ _ _) (Nat.succ_pos 0) (by have:=G6.size;simp;omega) (by omega) (by omega) ?_;intro gg cap7 w7 hown7 hg7 hat7;obtain ⟨u3,uf⟩:=HX7.out _ _ (gt_alloc_r G6 _) hg7;have HFin:=Lib.hid (HSn.out _ _ _ _ _ _ _ _ _ _ G3 hg5 (World.grownBy_alloc _ _ _) Hk5.out hown7 hg7 hat7);clear hown7 hg7 hat7))
      all_goals
        go_wp2_with fail
        exact ⟨⟨k+1,_,_,by omega,by go_num,by rw [HRj.out];exact HFin.out⟩,by simp [intOf];omega⟩
    · obtain rfl:k=n:=by omega
      rw [HRe.out] at I
      have HI:=Lib.hid I
      clear I
      go_wp2_with (first
        | (go_at_call 137;refine (HNm.out _).mono ?_;rintro e w2 ⟨rfl,hg2⟩;have I2:=HI.out.kept hg2;have o0:=I2.o0;have o1:=I2.o1;have o2:=I2.o2;have o3:=I2.o3;obtain ⟨_,⟨s0,s1,s2,s3⟩,sf⟩:=HBx.out _ I2.u;have sf0:=sf 0;have sf1:=sf 1;have sf2:=sf 2;have sf3:=sf 3;have HE:=Lib.hid (I2.end_ (W.heap.size+1) (by omega) (by omega));clear I2))
      go_wp2_with fail
      refine bodyPost_ret (by simp [results,Tryz.results81,go_sem,s0,s1,s2,s3];try rfl) rfl ?_
      exact ⟨_,rfl,HE.out.1,HE.out.2⟩
theorem GcNum_any (p:Option Addr) (n c r:Nat) (W:World):Calls Tryz.prog 120 #[.agg #[.slice p n c,.int .u8 r]] W fun e w'=>e=.returned (.int .i64 n)∧W.grownBy w' none:=by
  go_enter Tryz.func120,Tryz.ntmps120
  go_wp2_with fail
  go_ret
  exact ⟨rfl,World.grownBy_alloc _ _ _⟩
theorem GcAt_any (a:Addr) (n c r k:Nat) (ek:Int) (ety eb:Nat) (hk:k<n) (hn:n≤2513169434843) (W:World) (h0:W.cell? (a.add (k*2))=some (.int .i64 ek)) (h1:W.cell? ⟨(a.add (k*2)).block,(a.add (k*2)).off+1,none⟩=some (.iface ety (.pointer (some ⟨eb,0,none⟩)))) :
    Calls Tryz.prog 121 #[.agg #[.slice (some a) n c,.int .u8 r],.int .i64 k] W fun e w'=>e=.returned (.agg #[.int .i64 ek,.iface ety (.pointer (some ⟨eb,0,none⟩))])∧W.grownBy w' none:=by
  have hb0:a.block<W.heap.size:=by have:=World.block_lt_of_cell? W _ h0;rw [add_block] at this;exact this
  have hb1:a.block<W.heap.size+1:=by omega
  have hb2:a.block<W.heap.size+1+1:=by omega
  have hb3:(a.add (k*2)).block<W.heap.size:=by rw [add_block];omega
  have hb4:(a.add (k*2)).block<W.heap.size+1:=by rw [add_block];omega
  have hb5:(a.add (k*2)).block<W.heap.size+1+1:=by rw [add_block];omega
  have hki:(k:Int)<(n:Int):=by omega
  have hk0:(0:Int)≤(k:Int):=by omega
  go_enter Tryz.func121,Tryz.ntmps121
  go_wp2_with fail
  go_returns
  exact ⟨rfl,gt_alloc_r (World.grownBy_alloc _ _ _) _⟩
theorem plGc_of {D:(Nat→Prop)→World→Value→Raw→Prop} (K:DK D) (hfm:∀ {B:Nat→Prop} {W:World} {v:Value} {t:Raw},D B W v t→∃ (ek:Int) (ety eb:Nat),v=.agg #[.int .i64 ek,.iface ety (.pointer (some ⟨eb,0,none⟩))]) (h:Nat) (HP:PC D 32 h) (HCt:CC (DNode 0 D) 152):PC (DNode 0 D) 82 (h+1):=by
  intro B W v t hd hok hB
  have HCT0:=HCt B W v t hd
  obtain ⟨r,f,kids,p,c,rfl,hr,rfl,hc1,hc2,hrow⟩:=hd
  have hdr:dimR (.mk 0 (r:Nat) 0 f kids)=r:=by show ((r:Nat):Int).toNat=r;omega
  rw [hdr] at HCT0
  unfold okT at hok
  obtain ⟨_,hkl,hoks⟩:=hok
  have e:dataT (.mk 0 (r:Nat) 0 f kids)=.mk 0 (r:Nat) 0 (fun _=>0) (dataTs kids):=rfl
  rw [e]
  clear e
  obtain ⟨n,hn⟩ : ∃ n,n=kids.length:=⟨_,rfl⟩
  obtain ⟨kids2,hk2⟩ : ∃ k2,k2=dataTs kids:=⟨_,rfl⟩
  have hn2:kids2.length=n:=by rw [hk2,dataTs_len,hn]
  have HGt:Hid (∀ i,kids2[i]?=kids[i]?.map dataT):=fun i=>by rw [hk2];exact dataTs_get kids i
  rw [←hn] at hkl HCT0 ⊢
  rw [←hk2]
  have HCT:=Lib.hid (fun (w:World) (g:W.grownBy w none)=>(by
    have h2:=HCt B w (.agg #[.slice p kids.length c,.int .u8 r]) (.mk 0 (r:Nat) 0 f kids) ⟨r,f,kids,p,c,rfl,hr,rfl,hc1,hc2,hrow.mono K g⟩
    rw [hdr,←hn] at h2
    exact h2:Calls Tryz.prog 152 #[.agg #[.slice p n c,.int .u8 r]] w fun e w'=>e=.returned (.int .u8 r)∧w.grownBy w' none))
  have HG:=Lib.hid (gt_alloc_r (World.grownBy_alloc W (.cells #[.slice p n c,.int .u8 r] 112) none) (.cells #[.int .i64 0,.int .i64 0,.slice none 0 0,.slice none 0 0] 33))
  have HC:Hid (∀ w,((W.alloc (.cells #[.slice p n c,.int .u8 r] 112)).alloc (.cells #[.int .i64 0,.int .i64 0,.slice none 0 0,.slice none 0 0] 33)).grownBy w none→(w.cell? ⟨W.heap.size,0,none⟩=some (.slice p n c)∧w.cell? ⟨W.heap.size,1,none⟩=some (.int .u8 r))∧(w.cell? ⟨W.heap.size+1,0,none⟩=some (.int .i64 0)∧w.cell? ⟨W.heap.size+1,1,none⟩=some (.int .i64 0)∧w.cell? ⟨W.heap.size+1,2,none⟩=some (.slice none 0 0)∧w.cell? ⟨W.heap.size+1,3,none⟩=some (.slice none 0 0))∧∀ j,w.frozen? ⟨W.heap.size+1,j,none⟩=false):=fun w g=>by
    have hb:=g.block (W.heap.size+1) (by simp) (by simp)
    refine ⟨⟨g.cell (by simp) (by simp),g.cell (by simp) (by simp)⟩,⟨g.cell (by simp) (by simp),g.cell (by simp) (by simp),g.cell (by simp) (by simp),g.cell (by simp) (by simp)⟩,fun j=>?_⟩
    rw [World.frozen?_of_block hb];simp
  have HK:Hid (∀ w,W.grownBy w none→∀ k,k<n→∃ (a:Addr) (t:Raw) (ek:Int) (ety eb:Nat),p=some a∧kids2[k]?=some t∧w.cell? (a.add (k*2))=some (.int .i64 ek)∧w.cell? ⟨(a.add (k*2)).block,(a.add (k*2)).off+1,none⟩=some (.iface ety (.pointer (some ⟨eb,0,none⟩))) ∧
      ∀ w',w.grownBy w' none→Calls Tryz.prog 32 #[.agg #[.int .i64 ek,.iface ety (.pointer (some ⟨eb,0,none⟩))]] w' fun e w2=>∃ k6 d6 p6 n6 cap6 q6 m6 cq6,e=.returned (.agg #[.int .i64 k6,.int .i64 d6,.slice p6 n6 cap6,.slice q6 m6 cq6])∧KD (Fr w' w2) h w2 (.agg #[.int .i64 k6,.int .i64 d6,.slice p6 n6 cap6,.slice q6 m6 cq6]) t∧w'.grownBy w2 none):=fun w g k hk=>by
    obtain ⟨a,rfl⟩:=hrow.1 (by omega)
    have hi:kids[k]?=some (kids[k]'(by omega)):=List.getElem?_eq_getElem (by omega)
    obtain ⟨_,h2⟩:=hrow.2 a rfl
    obtain ⟨c0,c1,q0,q1,hd⟩:=h2 k _ hi
    obtain ⟨ek,ety,eb,hv⟩:=hfm hd
    simp only [Value.agg.injEq,Array.mk.injEq,List.cons.injEq,and_true] at hv
    obtain ⟨rfl,rfl⟩:=hv
    refine ⟨a,dataT (kids[k]'(by omega)),ek,ety,eb,rfl,(HGt.out k).trans (by rw [hi];rfl),g.cell q0 (by simp),g.cell q1 (by simp),fun w' g'=>?_⟩
    have gw:=gt_trans g g' (.inl rfl)
    refine (HP B w' _ _ (K.mono gw hd) (okTs_mem hoks hi) (fun b hb=>Nat.lt_of_lt_of_le (hB b hb) gw.size)).mono ?_
    rintro e w2 ⟨v',he,hk,hg⟩
    obtain ⟨k6,d6,n6,f6,kids6,p6,cap6,q6,cq6,_,hv⟩:=hk.form
    exact ⟨k6,d6,p6,n6,cap6,q6,_,cq6,by rw [he,hv],by rw [←hv];exact hk,hg⟩
  have HRl:Hid (∀ j,j≤n→(kids2.take j).length=j):=fun j hj=>by rw [List.length_take];omega
  have HRt:Hid (∀ j t,kids2[j]?=some t→kids2.take (j+1)=kids2.take j++[t]):=fun j t h=>by
    obtain ⟨hlt,rfl⟩:=List.getElem?_eq_some_iff.1 h
    rw [List.take_succ_eq_append_getElem hlt]
  have HRe:Hid (kids2.take n=kids2):=by show kids2.take n=kids2;rw [←hn2,List.take_length]
  have HNm:=Lib.hid (fun w=>GcNum_any p n c r w)
  clear hrow HP hn hn2 hk2 hoks hB hdr HCt HCT0 hc1 hc2 hfm
  go_enter Tryz.func82,Tryz.ntmps82
  go_wp2_with (first
    | (go_at_call 152;refine (HCT.out _ HG.out).mono ?_;rintro e w1 ⟨rfl,hg1⟩;obtain ⟨⟨k0,k1⟩,_,_⟩:=HC.out _ hg1;have hz1:W.heap.size<w1.heap.size:=(by have:=hg1.size;simp at this;omega);have hz2:W.heap.size+1<w1.heap.size:=(by have:=hg1.size;simp at this;omega)))
  obtain ⟨pn,cn,hx,I0⟩:=KidB.of_num (f:=fun _=>0) (n:=0) (NumB.new (gt_trans HG.out hg1 (.inl rfl)) 0 r) h (fun _=>Nat.zero_lt_succ _)
  injection hx with hx1 hx2 hx3
  subst hx1 hx3
  have HI0:=Lib.hid I0
  clear I0
  have HBx:Hid (∀ wr,Und W (w1.alloc (.cells #[.int .i64 0,.int .i64 r,.slice none 0 0,.slice none 0 0] 33)) (w1.heap.size+1) w1.heap.size wr→(wr.cell? ⟨W.heap.size,0,none⟩=some (.slice p n c)∧wr.cell? ⟨W.heap.size,1,none⟩=some (.int .u8 r))∧(wr.cell? ⟨W.heap.size+1,0,none⟩=some (.int .i64 0)∧wr.cell? ⟨W.heap.size+1,1,none⟩=some (.int .i64 0)∧wr.cell? ⟨W.heap.size+1,2,none⟩=some (.slice none 0 0)∧wr.cell? ⟨W.heap.size+1,3,none⟩=some (.slice none 0 0))∧∀ j,wr.frozen? ⟨W.heap.size+1,j,none⟩=false):=fun wr u=>by
    obtain ⟨⟨e0,e1⟩,⟨f0,f1,f2,f3⟩,fz⟩:=HC.out (w1.alloc (.cells #[.int .i64 0,.int .i64 r,.slice none 0 0,.slice none 0 0] 33)) (gt_alloc_r hg1 _)
    have kp:∀ b j x,b<w1.heap.size→(w1.alloc (.cells #[.int .i64 0,.int .i64 r,.slice none 0 0,.slice none 0 0] 33)).cell? ⟨b,j,none⟩=some x→wr.cell? ⟨b,j,none⟩=some x:=fun b j x hb h=>u.keep _ _ (by show b<_;omega) (by show b≠_;omega) h
    exact ⟨⟨kp _ _ _ hz1 e0,kp _ _ _ hz1 e1⟩,⟨kp _ _ _ hz2 f0,kp _ _ _ hz2 f1,kp _ _ _ hz2 f2,kp _ _ _ hz2 f3⟩,fun j=>by rw [u.kf _ j (by omega) (by omega)];exact fz j⟩
  clear HC k0 k1
  go_loopw [4] (fun i wr=>∃ (k:Nat) (y:Value) (cs:List Value),k≤n∧i=.int .i64 k∧KidB W (w1.alloc (.cells #[.int .i64 0,.int .i64 r,.slice none 0 0,.slice none 0 0] 33)) (w1.heap.size+1) w1.heap.size wr h 0 r none 0 0 (fun _=>0) y (kids2.take k) cs) (fun i _=>n - (intOf i).toNat)
  case atStart=>exact ⟨0,_,_,by omega,rfl,by rw [List.take_zero];exact HI0.out⟩
  case round =>
    clear HI0
    obtain ⟨k,y,cs,hk,rfl,I⟩:=hrel
    rename World=>wr
    obtain ⟨⟨k0,k1⟩,⟨r0,r1,r2,r3⟩,rf⟩:=HBx.out _ I.u
    have hll:=HRl.out k hk
    obtain ⟨py,cy,rfl,_⟩:=own_form I.kr.1
    rw [hll] at I
    have hbig:=I.u.big
    have hzA:W.heap.size<wr.heap.size:=by omega
    have hzB:W.heap.size+1<wr.heap.size:=by omega
    have hzC:w1.heap.size<wr.heap.size:=by omega
    by_cases hkn:k<n
    · obtain ⟨a,t,ek,ety,eb,rfl,hti,q0,q1,hpp⟩:=HK.out wr I.u.g k hkn
      have HPp:=Lib.hid hpp
      have HRj:=Lib.hid (HRt.out k t hti)
      have HI:=Lib.hid I
      have HAt:=Lib.hid (fun w (g:wr.grownBy w none)=>GcAt_any a n c r k ek ety eb hkn hkl w (g.cell q0 (by simp)) (g.cell q1 (by simp)))
      have HOw:Hid (∀ w,wr.grownBy w none→w.ownsRow (w1.heap.size+1) 33 4 (.slice py k cy) k cs):=fun w g=>by
        have hh:=(HI.out.kept g).kr.1
        rw [hll] at hh
        exact hh
      have HS:Hid (∀ w,wr.grownBy w none→w.cell? ⟨W.heap.size,0,none⟩=some (.slice (some a) n c)∧w.cell? ⟨W.heap.size,1,none⟩=some (.int .u8 r)∧w.cell? ⟨w1.heap.size,3,none⟩=some (.slice py k cy)):=fun w g=>⟨g.cell k0 (by simp),g.cell k1 (by simp),(HI.out.kept g).o3⟩
      have HX7:Hid (∀ w6 w7,wr.grownBy w6 none→w6.grownBy w7 (Value.slice py k cy).ownBlock→w7.cell? ⟨w1.heap.size,3,none⟩=some (.slice py k cy)∧w7.frozen? ⟨w1.heap.size,3,none⟩=false):=fun w6 w7 g g'=>by
        have hi:=HI.out.kept g
        have hne:some w1.heap.size≠(Value.slice py k cy).ownBlock:=fun e=>by have:=(hi.kr.1.lt _ e.symm).1;omega
        exact ⟨g'.cell hi.o3 hne,by rw [World.frozen?_of_block (g'.block w1.heap.size (by have:=hi.u.big;omega) hne)];exact hi.u.of_ 3⟩
      have HSn:Hid (∀ (wa wb wc wd:World) (d0 d1 d2 d3:Value) (gg cap:Nat),wr.grownBy wa none→wa.grownBy wb none→wb.grownBy wc none→KD (Fr wa wb) h wb (.agg #[d0,d1,d2,d3]) t→wd.ownsRow (w1.heap.size+1) 33 4 (.slice (some ⟨gg,0,none⟩) (k+1) cap) (k+1) (cs++[d0,d1,d2,d3])→wc.grownBy wd (Value.slice py k cy).ownBlock→((Value.slice py k cy).ownBlock=some gg∨gg=wc.heap.size) →
          KidB W (w1.alloc (.cells #[.int .i64 0,.int .i64 r,.slice none 0 0,.slice none 0 0] 33)) (w1.heap.size+1) w1.heap.size (wd.setCell ⟨w1.heap.size,3,none⟩ (.slice (some ⟨gg,0,none⟩) (k+1) cap)) h 0 r none 0 0 (fun _=>0) (.slice (some ⟨gg,0,none⟩) (k+1) cap) (kids2.take k++[t]) (cs++[d0,d1,d2,d3])):=fun wa wb wc wd d0 d1 d2 d3 gg cap g1 g2 g3 hk hown g4 hg=>by
        have hh:=HI.out.snoc g1 g2 g3 hk (gg:=gg) (cap:=cap) (by rw [hll];exact hown) g4 hg
        rw [hll] at hh
        exact hh
      clear I hpp hti
      go_wp2_with (first
        | (go_at_call 120;refine (HNm.out _).mono ?_;rintro e w2 ⟨rfl,hg2⟩;obtain ⟨b0,b1,b3⟩:=HS.out _ hg2;have hzD:w1.heap.size<w2.heap.size:=(by have:=hg2.size;omega)))
      have hgd:=gt_trans hg2 (gt_drew_r (gt_refl w2 none)) (.inl rfl)
      go_region_law (first
        | (rw [if_pos (by simp [Region.wanted])];go_simp;go_at_call 121;(with_reducible refine (HAt.out _ ?_).mono ?_);exact hgd;rintro e w3 ⟨rfl,hg3⟩;have G3:=gt_trans hgd hg3 (.inl rfl);obtain ⟨c0,c1,c3⟩:=HS.out _ G3)
        | (rw [if_pos (by simp [Region.wanted])];go_simp;go_at_call 32;(with_reducible refine (HPp.out _ G3).mono ?_);rintro e w5 ⟨k6,d6,p6,n6,cap6,q6,m6,cq6,rfl,hk5,hg5⟩;have Hk5:=Lib.hid hk5;clear hk5;have G6:=gt_trans G3 hg5 (.inl rfl);obtain ⟨d0,d1,d3⟩:=HS.out _ G6;have hzE:w1.heap.size<w5.heap.size:=(by have:=G6.size;omega))
        | (refine app_cells2_step (size:=4) (n:=k) (xs:=cs) (base:=w1.heap.size+1) rfl _ _ _ rfl Tryz.underlying31 (.agg #[.int .i64 0,.int .i64 0,.slice none 0 0,.slice none 0 0]) 64 infoG rfl (Nat.succ_pos 3) rfl rfl rfl _ (HOw.out _ (gt_alloc_r G6 _)) rfl (one4 _ _ _ _ _ _ _ _) (Nat.succ_pos 0) (by have:=G6.size;simp;omega) (by omega) (by omega) ?_;intro gg cap7 w7 hown7 hg7 hat7;obtain ⟨u3,uf⟩:=HX7.out _ _ (gt_alloc_r G6 _) hg7;have HFin:=Lib.hid (HSn.out _ _ _ _ _ _ _ _ _ _ G3 hg5 (World.grownBy_alloc _ _ _) Hk5.out hown7 hg7 hat7);clear hown7 hg7 hat7))
      all_goals
        go_wp2_with fail
        exact ⟨⟨k+1,_,_,by omega,by go_num,by rw [HRj.out];exact HFin.out⟩,by simp [intOf];omega⟩
    · obtain rfl:k=n:=by omega
      rw [HRe.out] at I
      have HI:=Lib.hid I
      clear I
      go_wp2_with (first
        | (go_at_call 120;refine (HNm.out _).mono ?_;rintro e w2 ⟨rfl,hg2⟩;have I2:=HI.out.kept hg2;have o0:=I2.o0;have o1:=I2.o1;have o2:=I2.o2;have o3:=I2.o3;obtain ⟨_,⟨s0,s1,s2,s3⟩,sf⟩:=HBx.out _ I2.u;have sf0:=sf 0;have sf1:=sf 1;have sf2:=sf 2;have sf3:=sf 3;have HE:=Lib.hid (I2.end_ (W.heap.size+1) (by omega) (by omega));clear I2))
      go_wp2_with fail
      refine bodyPost_ret (by simp [results,Tryz.results82,go_sem,s0,s1,s2,s3];try rfl) rfl ?_
      exact ⟨_,rfl,HE.out.1,HE.out.2⟩
end
end Go.Proofs.YtlpaecafpbbbkaaGreatDoor
