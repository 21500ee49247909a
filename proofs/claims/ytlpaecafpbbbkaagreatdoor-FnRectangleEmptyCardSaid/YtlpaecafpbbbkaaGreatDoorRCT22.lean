/- Several points as plain data: plainMultiPoint. -/
import Derived.Deep.RegionLaw
import Derived.Test.YtlpaecafpbbbkaaGreatDoorRCT21
set_option linter.unusedVariables false
set_option linter.unusedSimpArgs false
set_option maxRecDepth 100000
set_option maxHeartbeats 24000000
namespace Go.Proofs.YtlpaecafpbbbkaaGreatDoor
section
open Go.RowKit
theorem MptNum_any (p:Option Addr) (n c r:Nat) (W:World):Calls Tryz.prog 148 #[.agg #[.slice p n c,.int .u8 r]] W fun e w'=>e=.returned (.int .i64 n)∧W.grownBy w' none:=by
  go_enter Tryz.func148,Tryz.ntmps148
  go_wp2_with fail
  go_ret
  exact ⟨rfl,World.grownBy_alloc _ _ _⟩
theorem MptAt_any (a:Addr) (n c r k:Nat) (x y z m pr:Nat) (pb:Bool) (hk:k<n) (hn:n≤2513169434843) (W:World) (h0:W.cell? (a.add (k*6))=some (.float .f64 x)) (h1:W.cell? ⟨(a.add (k*6)).block,(a.add (k*6)).off+1,none⟩=some (.float .f64 y))
    (h2:W.cell? ⟨(a.add (k*6)).block,(a.add (k*6)).off+2,none⟩=some (.float .f64 z)) (h3:W.cell? ⟨(a.add (k*6)).block,(a.add (k*6)).off+3,none⟩=some (.float .f64 m)) (h4:W.cell? ⟨(a.add (k*6)).block,(a.add (k*6)).off+4,none⟩=some (.int .u8 pr)) (h5:W.cell? ⟨(a.add (k*6)).block,(a.add (k*6)).off+5,none⟩=some (.bool pb)) :
    Calls Tryz.prog 149 #[.agg #[.slice (some a) n c,.int .u8 r],.int .i64 k] W fun e w'=>e=.returned (.agg #[.float .f64 x,.float .f64 y,.float .f64 z,.float .f64 m,.int .u8 pr,.bool pb])∧W.grownBy w' none:=by
  have hb0:a.block<W.heap.size:=by have:=World.block_lt_of_cell? W _ h0;rw [add_block] at this;exact this
  have hb1:a.block<W.heap.size+1:=by omega
  have hb2:a.block<W.heap.size+1+1:=by omega
  have hb3:(a.add (k*6)).block<W.heap.size:=by rw [add_block];omega
  have hb4:(a.add (k*6)).block<W.heap.size+1:=by rw [add_block];omega
  have hb5:(a.add (k*6)).block<W.heap.size+1+1:=by rw [add_block];omega
  have hki:(k:Int)<(n:Int):=by omega
  have hk0:(0:Int)≤(k:Int):=by omega
  have hsf:=run_store_flt Tryz.prog
  go_enter Tryz.func149,Tryz.ntmps149
  go_wp2_with fail
  go_returns
  exact ⟨rfl,gt_alloc_r (World.grownBy_alloc _ _ _) _⟩
theorem plMpt_any (r n c:Nat) (hr:r<4) (hn2:n≤2513169434843) (p:Option Addr) (kids:List Raw) (hn:kids.length=n) (W:World) (hpr:PR W p (kids.map ptR))
    (HP:∀ s ∈ kids,∀ w,Calls Tryz.prog 74 #[(ptR s).v] w fun e w'=>∃ v',e=.returned v'∧KD (Fr w w') 1 w' v' s∧w.grownBy w' none) :
    Calls Tryz.prog 78 #[.agg #[.slice p n c,.int .u8 r]] W fun e w'=>∃ v',e=.returned v'∧KD (Fr W w') 2 w' v' (.mk 4 (r:Nat) 0 (fun _=>0) kids)∧W.grownBy w' none:=by
  have HG:=Lib.hid (gt_alloc_r (World.grownBy_alloc W (.cells #[.slice p n c,.int .u8 r] 101) none) (.cells #[.int .i64 0,.int .i64 0,.slice none 0 0,.slice none 0 0] 33))
  have HC:Hid (∀ w,((W.alloc (.cells #[.slice p n c,.int .u8 r] 101)).alloc (.cells #[.int .i64 0,.int .i64 0,.slice none 0 0,.slice none 0 0] 33)).grownBy w none→(w.cell? ⟨W.heap.size,0,none⟩=some (.slice p n c)∧w.cell? ⟨W.heap.size,1,none⟩=some (.int .u8 r))∧(w.cell? ⟨W.heap.size+1,0,none⟩=some (.int .i64 0)∧w.cell? ⟨W.heap.size+1,1,none⟩=some (.int .i64 0)∧w.cell? ⟨W.heap.size+1,2,none⟩=some (.slice none 0 0)∧w.cell? ⟨W.heap.size+1,3,none⟩=some (.slice none 0 0))∧∀ j,w.frozen? ⟨W.heap.size+1,j,none⟩=false):=fun w g=>by
    have hb:=g.block (W.heap.size+1) (by simp) (by simp)
    refine ⟨⟨g.cell (by simp) (by simp),g.cell (by simp) (by simp)⟩,⟨g.cell (by simp) (by simp),g.cell (by simp) (by simp),g.cell (by simp) (by simp),g.cell (by simp) (by simp)⟩,fun j=>?_⟩
    rw [World.frozen?_of_block hb];simp
  have HK:Hid (∀ w,W.grownBy w none→∀ k,k<n→∃ (a:Addr) (t:Raw) (x y z m er:Nat) (eb:Bool),p=some a∧kids[k]?=some t∧w.cell? (a.add (k*6))=some (.float .f64 x)∧w.cell? ⟨(a.add (k*6)).block,(a.add (k*6)).off+1,none⟩=some (.float .f64 y)∧w.cell? ⟨(a.add (k*6)).block,(a.add (k*6)).off+2,none⟩=some (.float .f64 z)∧w.cell? ⟨(a.add (k*6)).block,(a.add (k*6)).off+3,none⟩=some (.float .f64 m)∧w.cell? ⟨(a.add (k*6)).block,(a.add (k*6)).off+4,none⟩=some (.int .u8 er)∧w.cell? ⟨(a.add (k*6)).block,(a.add (k*6)).off+5,none⟩=some (.bool eb) ∧
      ∀ w',Calls Tryz.prog 74 #[.agg #[.float .f64 x,.float .f64 y,.float .f64 z,.float .f64 m,.int .u8 er,.bool eb]] w' fun e w2=>∃ k6 d6 p6 n6 cap6 q6 m6 cq6,e=.returned (.agg #[.int .i64 k6,.int .i64 d6,.slice p6 n6 cap6,.slice q6 m6 cq6])∧KD (Fr w' w2) 1 w2 (.agg #[.int .i64 k6,.int .i64 d6,.slice p6 n6 cap6,.slice q6 m6 cq6]) t∧w'.grownBy w2 none):=fun w g k hk=>by
    have hpr2:=hpr.mono g
    have hi:kids[k]?=some (kids[k]'(by omega)):=List.getElem?_eq_getElem (by omega)
    obtain ⟨a,ha⟩:=hpr2.some_ (by rw [List.length_map];omega)
    obtain ⟨q0,q1,q2,q3,q4,q5⟩:=hpr2.at_ a ha k (ptR (kids[k]'(by omega))) (by rw [List.getElem?_map,hi];rfl)
    exact ⟨a,_,_,_,_,_,_,_,ha,hi,q0,q1,q2,q3,q4,q5,fun w'=>(HP _ (List.mem_of_getElem? hi) w').mono fun e w2 ⟨v',he,hk,hg⟩=>by
      obtain ⟨k6,d6,n6,f6,kids6,p6,cap6,q6,cq6,_,hv⟩:=hk.form
      exact ⟨k6,d6,p6,n6,cap6,q6,_,cq6,by rw [he,hv],by rw [←hv];exact hk,hg⟩⟩
  have HRl:Hid (∀ j,j≤n→(kids.take j).length=j):=fun j hj=>by rw [List.length_take];omega
  have HRt:Hid (∀ j t,kids[j]?=some t→kids.take (j+1)=kids.take j++[t]):=fun j t h=>by
    obtain ⟨hlt,rfl⟩:=List.getElem?_eq_some_iff.1 h
    rw [List.take_succ_eq_append_getElem hlt]
  have HRe:Hid (kids.take n=kids):=by show kids.take n=kids;rw [←hn,List.take_length]
  have HNm:=Lib.hid (fun w=>MptNum_any p n c r w)
  clear hpr HP hn
  have hsf:=run_store_flt Tryz.prog
  go_enter Tryz.func78,Tryz.ntmps78
  go_wp2_with (first
    | (go_at_call 147;refine (MPCT_any r n c p _).mono ?_;rintro e w1 ⟨rfl,hg1⟩;obtain ⟨⟨k0,k1⟩,_,_⟩:=HC.out _ hg1;have hz1:W.heap.size<w1.heap.size:=(by have:=hg1.size;simp at this;omega);have hz2:W.heap.size+1<w1.heap.size:=(by have:=hg1.size;simp at this;omega)))
  obtain ⟨pn,cn,hx,I0⟩:=KidB.of_num (f:=fun _=>0) (n:=0) (NumB.new (gt_trans HG.out hg1 (.inl rfl)) 4 r) 1 (fun _=>Nat.zero_lt_succ _)
  injection hx with hx1 hx2 hx3
  subst hx1 hx3
  have HI0:=Lib.hid I0
  clear I0
  have HBx:Hid (∀ wr,Und W (w1.alloc (.cells #[.int .i64 4,.int .i64 r,.slice none 0 0,.slice none 0 0] 33)) (w1.heap.size+1) w1.heap.size wr→(wr.cell? ⟨W.heap.size,0,none⟩=some (.slice p n c)∧wr.cell? ⟨W.heap.size,1,none⟩=some (.int .u8 r))∧(wr.cell? ⟨W.heap.size+1,0,none⟩=some (.int .i64 0)∧wr.cell? ⟨W.heap.size+1,1,none⟩=some (.int .i64 0)∧wr.cell? ⟨W.heap.size+1,2,none⟩=some (.slice none 0 0)∧wr.cell? ⟨W.heap.size+1,3,none⟩=some (.slice none 0 0))∧∀ j,wr.frozen? ⟨W.heap.size+1,j,none⟩=false):=fun wr u=>by
    obtain ⟨⟨e0,e1⟩,⟨f0,f1,f2,f3⟩,fz⟩:=HC.out (w1.alloc (.cells #[.int .i64 4,.int .i64 r,.slice none 0 0,.slice none 0 0] 33)) (gt_alloc_r hg1 _)
    have kp:∀ b j x,b<w1.heap.size→(w1.alloc (.cells #[.int .i64 4,.int .i64 r,.slice none 0 0,.slice none 0 0] 33)).cell? ⟨b,j,none⟩=some x→wr.cell? ⟨b,j,none⟩=some x:=fun b j x hb h=>u.keep _ _ (by show b<_;omega) (by show b≠_;omega) h
    exact ⟨⟨kp _ _ _ hz1 e0,kp _ _ _ hz1 e1⟩,⟨kp _ _ _ hz2 f0,kp _ _ _ hz2 f1,kp _ _ _ hz2 f2,kp _ _ _ hz2 f3⟩,fun j=>by rw [u.kf _ j (by omega) (by omega)];exact fz j⟩
  clear HC k0 k1
  go_loopw [4] (fun i wr=>∃ (k:Nat) (y:Value) (cs:List Value),k≤n∧i=.int .i64 k∧KidB W (w1.alloc (.cells #[.int .i64 4,.int .i64 r,.slice none 0 0,.slice none 0 0] 33)) (w1.heap.size+1) w1.heap.size wr 1 4 r none 0 0 (fun _=>0) y (kids.take k) cs) (fun i _=>n - (intOf i).toNat)
  case atStart=>exact ⟨0,_,_,by omega,rfl,by rw [List.take_zero];exact HI0.out⟩
  case round =>
    clear HI0
    obtain ⟨k,y,cs,hk,rfl,I⟩:=hrel
    rename World=>wr
    obtain ⟨⟨k0,k1⟩,⟨r0,r1,r2,r3⟩,rf⟩:=HBx.out _ I.u
    have hll:=HRl.out k hk
    obtain ⟨py,cy,rfl,_⟩:=own_form I.kr.1
    rw [hll] at I
    have hbig:=I.u.big
    have hzA:W.heap.size<wr.heap.size:=by omega
    have hzB:W.heap.size+1<wr.heap.size:=by omega
    have hzC:w1.heap.size<wr.heap.size:=by omega
    by_cases hkn:k<n
    · obtain ⟨a,t,x,yy,z,m,er,eb,rfl,hti,q0,q1,q2,q3,q4,q5,hpp⟩:=HK.out wr I.u.g k hkn
      have HPp:=Lib.hid hpp
      have HRj:=Lib.hid (HRt.out k t hti)
      have HI:=Lib.hid I
      have HAt:=Lib.hid (fun w (g:wr.grownBy w none)=>MptAt_any a n c r k x yy z m er eb hkn hn2 w (g.cell q0 (by simp)) (g.cell q1 (by simp)) (g.cell q2 (by simp)) (g.cell q3 (by simp)) (g.cell q4 (by simp)) (g.cell q5 (by simp)))
      have HOw:Hid (∀ w,wr.grownBy w none→w.ownsRow (w1.heap.size+1) 33 4 (.slice py k cy) k cs):=fun w g=>by
        have hh:=(HI.out.kept g).kr.1
        rw [hll] at hh
        exact hh
      have HS:Hid (∀ w,wr.grownBy w none→w.cell? ⟨W.heap.size,0,none⟩=some (.slice (some a) n c)∧w.cell? ⟨W.heap.size,1,none⟩=some (.int .u8 r)∧w.cell? ⟨w1.heap.size,3,none⟩=some (.slice py k cy)):=fun w g=>⟨g.cell k0 (by simp),g.cell k1 (by simp),(HI.out.kept g).o3⟩
      have HX7:Hid (∀ w6 w7,wr.grownBy w6 none→w6.grownBy w7 (Value.slice py k cy).ownBlock→w7.cell? ⟨w1.heap.size,3,none⟩=some (.slice py k cy)∧w7.frozen? ⟨w1.heap.size,3,none⟩=false):=fun w6 w7 g g'=>by
        have hi:=HI.out.kept g
        have hne:some w1.heap.size≠(Value.slice py k cy).ownBlock:=fun e=>by have:=(hi.kr.1.lt _ e.symm).1;omega
        exact ⟨g'.cell hi.o3 hne,by rw [World.frozen?_of_block (g'.block w1.heap.size (by have:=hi.u.big;omega) hne)];exact hi.u.of_ 3⟩
      have HSn:Hid (∀ (wa wb wc wd:World) (d0 d1 d2 d3:Value) (gg cap:Nat),wr.grownBy wa none→wa.grownBy wb none→wb.grownBy wc none→KD (Fr wa wb) 1 wb (.agg #[d0,d1,d2,d3]) t→wd.ownsRow (w1.heap.size+1) 33 4 (.slice (some ⟨gg,0,none⟩) (k+1) cap) (k+1) (cs++[d0,d1,d2,d3])→wc.grownBy wd (Value.slice py k cy).ownBlock→((Value.slice py k cy).ownBlock=some gg∨gg=wc.heap.size) →
          KidB W (w1.alloc (.cells #[.int .i64 4,.int .i64 r,.slice none 0 0,.slice none 0 0] 33)) (w1.heap.size+1) w1.heap.size (wd.setCell ⟨w1.heap.size,3,none⟩ (.slice (some ⟨gg,0,none⟩) (k+1) cap)) 1 4 r none 0 0 (fun _=>0) (.slice (some ⟨gg,0,none⟩) (k+1) cap) (kids.take k++[t]) (cs++[d0,d1,d2,d3])):=fun wa wb wc wd d0 d1 d2 d3 gg cap g1 g2 g3 hk hown g4 hg=>by
        have hh:=HI.out.snoc g1 g2 g3 hk (gg:=gg) (cap:=cap) (by rw [hll];exact hown) g4 hg
        rw [hll] at hh
        exact hh
      clear I hpp hti
      go_wp2_with (first
        | (go_at_call 148;refine (HNm.out _).mono ?_;rintro e w2 ⟨rfl,hg2⟩;obtain ⟨b0,b1,b3⟩:=HS.out _ hg2;have hzD:w1.heap.size<w2.heap.size:=(by have:=hg2.size;omega)))
      have hgd:=gt_trans hg2 (gt_drew_r (gt_refl w2 none)) (.inl rfl)
      go_region_law (first
        | (rw [if_pos (by simp [Region.wanted])];go_simp;go_at_call 149;(with_reducible refine (HAt.out _ ?_).mono ?_);exact hgd;rintro e w3 ⟨rfl,hg3⟩;have G3:=gt_trans hgd hg3 (.inl rfl);obtain ⟨c0,c1,c3⟩:=HS.out _ G3)
        | (rw [if_pos (by simp [Region.wanted])];go_simp;go_at_call 74;(with_reducible refine (HPp.out _).mono ?_);rintro e w5 ⟨k6,d6,p6,n6,cap6,q6,m6,cq6,rfl,hk5,hg5⟩;have Hk5:=Lib.hid hk5;clear hk5;have G6:=gt_trans G3 hg5 (.inl rfl);obtain ⟨d0,d1,d3⟩:=HS.out _ G6;have hzE:w1.heap.size<w5.heap.size:=(by have:=G6.size;omega))
        | (refine app_cells2_step (size:=4) (n:=k) (xs:=cs) (base:=w1.heap.size+1) rfl _ _ _ rfl Tryz.underlying31 (.agg #[.int .i64 0,.int .i64 0,.slice none 0 0,.slice none 0 0]) 64 infoG rfl (Nat.succ_pos 3) rfl rfl rfl _ (HOw.out _ (gt_alloc_r G6 _)) rfl (one4 _ _ _ _ _ _ _ _) (Nat.succ_pos 0) (by have:=G6.size;simp;omega) (by omega) (by omega) ?_;intro gg cap7 w7 hown7 hg7 hat7;obtain ⟨u3,uf⟩:=HX7.out _ _ (gt_alloc_r G6 _) hg7;have HFin:=Lib.hid (HSn.out _ _ _ _ _ _ _ _ _ _ G3 hg5 (World.grownBy_alloc _ _ _) Hk5.out hown7 hg7 hat7);clear hown7 hg7 hat7))
      all_goals
        go_wp2_with fail
        exact ⟨⟨k+1,_,_,by omega,by go_num,by rw [HRj.out];exact HFin.out⟩,by simp [intOf];omega⟩
    · obtain rfl:k=n:=by omega
      rw [HRe.out] at I
      have HI:=Lib.hid I
      clear I
      go_wp2_with (first
        | (go_at_call 148;refine (HNm.out _).mono ?_;rintro e w2 ⟨rfl,hg2⟩;have I2:=HI.out.kept hg2;have o0:=I2.o0;have o1:=I2.o1;have o2:=I2.o2;have o3:=I2.o3;obtain ⟨_,⟨s0,s1,s2,s3⟩,sf⟩:=HBx.out _ I2.u;have sf0:=sf 0;have sf1:=sf 1;have sf2:=sf 2;have sf3:=sf 3;have HE:=Lib.hid (I2.end_ (W.heap.size+1) (by omega) (by omega));clear I2))
      go_wp2_with fail
      refine bodyPost_ret (by simp [results,Tryz.results78,go_sem,s0,s1,s2,s3];try rfl) rfl ?_
      exact ⟨_,rfl,HE.out.1,HE.out.2⟩
end
end Go.Proofs.YtlpaecafpbbbkaaGreatDoor
