/- The package's points: plain data, and what makes them. -/
import Derived.Lib.MinMax
import Derived.Test.YtlpaecafpbbbkaaGreatDoorRCT8
set_option linter.unusedVariables false
set_option linter.unusedSimpArgs false
set_option maxRecDepth 100000
set_option maxHeartbeats 24000000
namespace Go.Proofs.YtlpaecafpbbbkaaGreatDoor
section
open Go.RowKit
structure Pt where
  x:Nat
  y:Nat
  z:Nat
  m:Nat
  r:Nat
  b:Bool
def Pt.v (p:Pt):Value:=.agg #[.float .f64 p.x,.float .f64 p.y,.float .f64 p.z,.float .f64 p.m,.int .u8 p.r,.bool p.b]
def Pt.cs (p:Pt):List Value:=[.float .f64 p.x,.float .f64 p.y,.float .f64 p.z,.float .f64 p.m,.int .u8 p.r,.bool p.b]
structure Pt.Ok (p:Pt):Prop where
  x:p.x<18446744073709551616
  y:p.y<18446744073709551616
  z:p.z<18446744073709551616
  m:p.m<18446744073709551616
  r:p.r<4
def ptE (r:Nat):Pt:=⟨0,0,0,0,r,false⟩
def Pt.force (p:Pt) (r':Nat):Pt:=if p.b=true then ⟨p.x,p.y,if p.r % 2=r' % 2 then p.z else 0,if p.r / 2=r' / 2 then p.m else 0,r',true⟩ else ptE r'
def ptOf (r n:Nat) (f:Nat→Nat):Pt:=if n / widN r=0 then ptE r else ⟨plX r f 0,plY r f 0,plZ r f 0,plM r f 0,r,true⟩
theorem NewEmptyPoint_any (r:Nat) (W:World):Calls Tryz.prog 103 #[.int .u8 r] W fun e w'=>e=.returned (ptE r).v∧W.grownBy w' none:=by
  have ev:(ptE r).v=.agg #[.float .f64 0,.float .f64 0,.float .f64 0,.float .f64 0,.int .u8 r,.bool false]:=rfl
  rw [ev]
  clear ev
  have hsf:=run_store_flt Tryz.prog
  go_enter Tryz.func103,Tryz.ntmps103
  go_wp2_with fail
  go_returns
  exact ⟨rfl,World.grownBy_alloc _ _ _⟩
theorem NewPoint_any (x y z m r:Nat) (W:World):Calls Tryz.prog 105 #[.agg #[.float .f64 x,.float .f64 y,.float .f64 z,.float .f64 m,.int .u8 r]] W fun e w'=>e=.returned (.agg #[.float .f64 x,.float .f64 y,.float .f64 z,.float .f64 m,.int .u8 r,.bool true])∧W.grownBy w' none:=by
  have hsf:=run_store_flt Tryz.prog
  go_enter Tryz.func105,Tryz.ntmps105
  go_wp2_with fail
  go_returns
  exact ⟨rfl,gt_alloc_r (World.grownBy_alloc _ _ _) _⟩
theorem PtCT_any (x y z m r:Nat) (b:Bool) (W:World):Calls Tryz.prog 140 #[.agg #[.float .f64 x,.float .f64 y,.float .f64 z,.float .f64 m,.int .u8 r,.bool b]] W fun e w'=>e=.returned (.int .u8 r)∧W.grownBy w' none:=by
  have hsf:=run_store_flt Tryz.prog
  go_enter Tryz.func140,Tryz.ntmps140
  go_wp2_with fail
  go_ret
  exact ⟨rfl,World.grownBy_alloc _ _ _⟩
theorem point_any (d:Int) (r:Nat) (hr:d % 4=r) (p q:Option Addr) (n cap m c2:Nat) (f:Nat→Nat) (hn:n≤2513169434843) (W:World) (hf:FVal W p n f) :
    Calls Tryz.prog 48 #[.agg #[.int .i64 1,.int .i64 d,.slice p n cap,.slice q m c2]] W fun e w'=>e=.returned (ptOf r n f).v∧W.grownBy w' none:=by
  have hr4:r<4:=by omega
  have HS:=Lib.hid (fun w (g:W.grownBy w none)=>sequence_any d r hr p n cap f hn w (hf.mono g))
  have HO:=Lib.hid (fun w=>dimOf_r d r hr w)
  have HE:Hid (∀ w,Calls Tryz.prog 103 #[.int .u8 r] w fun e w'=>e=.returned (.agg #[.float .f64 0,.float .f64 0,.float .f64 0,.float .f64 0,.int .u8 r,.bool false])∧w.grownBy w' none):=fun w=>NewEmptyPoint_any r w
  have hw:=widN_pos r
  have hdiv:(n - n % widN r) / widN r=n / widN r:=by
    have:=Nat.mod_add_div n (widN r)
    have e:n - n % widN r=widN r*(n / widN r):=by omega
    rw [e,Nat.mul_div_cancel_left _ (by omega)]
  have HL:=Lib.hid (fun w a=>Length_any r (n - n % widN r) hr4 (some a) (n - n % widN r) (Nat.le_trans (Nat.sub_le _ _) hn) w)
  rw [hdiv] at HL
  have HGt:=Lib.hid (fun (hL:¬ n / widN r=0) w a (hf:FVal w (some a) (n - n % widN r) f)=>(Get_any r (n - n % widN r) 0 a f hr4 (Nat.le_trans (Nat.sub_le _ _) hn) (by
      have:=Nat.mod_add_div n (widN r)
      have h1:1≤n / widN r:=Nat.one_le_iff_ne_zero.2 hL
      have h3:=Nat.mul_le_mul_left (widN r) h1
      rw [Nat.mul_one] at h3
      rw [Nat.zero_mul,Nat.zero_add]
      omega) w hf:Calls Tryz.prog 106 #[.agg #[.int .u8 r,.slice (some a) (n - n % widN r) (n - n % widN r)],.int .i64 0] w fun e w'=>e=.returned (.agg #[.float .f64 (plX r f 0),.float .f64 (plY r f 0),.float .f64 (plZ r f 0),.float .f64 (plM r f 0),.int .u8 r])∧w.grownBy w' none))
  generalize n - n % widN r=N at HS HL HGt
  have HG:=Lib.hid (gt_alloc_r (World.grownBy_alloc W (.cells #[.int .i64 1,.int .i64 d,.slice p n cap,.slice q m c2] 33) none) (.cells #[.float .f64 0,.float .f64 0,.float .f64 0,.float .f64 0,.int .u8 0,.bool false] 87))
  have HA:Hid (∀ w,((W.alloc (.cells #[.int .i64 1,.int .i64 d,.slice p n cap,.slice q m c2] 33)).alloc (.cells #[.float .f64 0,.float .f64 0,.float .f64 0,.float .f64 0,.int .u8 0,.bool false] 87)).grownBy w none→w.cell? ⟨W.heap.size,0,none⟩=some (.int .i64 1)∧w.cell? ⟨W.heap.size,1,none⟩=some (.int .i64 d)):=fun w g=>⟨g.cell (by simp) (by simp),g.cell (by simp) (by simp)⟩
  have HC:Hid (∀ w,((W.alloc (.cells #[.int .i64 1,.int .i64 d,.slice p n cap,.slice q m c2] 33)).alloc (.cells #[.float .f64 0,.float .f64 0,.float .f64 0,.float .f64 0,.int .u8 0,.bool false] 87)).grownBy w none→(w.cell? ⟨W.heap.size+1,0,none⟩=some (.float .f64 0)∧w.cell? ⟨W.heap.size+1,1,none⟩=some (.float .f64 0)∧w.cell? ⟨W.heap.size+1,2,none⟩=some (.float .f64 0)∧w.cell? ⟨W.heap.size+1,3,none⟩=some (.float .f64 0)∧w.cell? ⟨W.heap.size+1,4,none⟩=some (.int .u8 0)∧w.cell? ⟨W.heap.size+1,5,none⟩=some (.bool false))∧∀ j,w.frozen? ⟨W.heap.size+1,j,none⟩=false):=fun w g=>by
    have hb:=g.block (W.heap.size+1) (by simp) (by simp)
    refine ⟨⟨g.cell (by simp) (by simp),g.cell (by simp) (by simp),g.cell (by simp) (by simp),g.cell (by simp) (by simp),g.cell (by simp) (by simp),g.cell (by simp) (by simp)⟩,fun j=>?_⟩
    rw [World.frozen?_of_block hb];simp
  by_cases hL:n / widN r=0
  · have ev:(ptOf r n f).v=.agg #[.float .f64 0,.float .f64 0,.float .f64 0,.float .f64 0,.int .u8 r,.bool false]:=by unfold Pt.v ptOf;rw [if_pos hL];rfl
    rw [ev]
    obtain ⟨Li,hLi⟩ : ∃ Li:Int,Li=((n / widN r:Nat):Int):=⟨_,rfl⟩
    rw [←hLi] at HL
    have hb:(Li==0)=true:=by rw [hLi,hL];rfl
    clear hLi hL ev HGt hf hr hdiv hw
    have hsf:=run_store_flt Tryz.prog
    go_enter Tryz.func48,Tryz.ntmps48
    go_wp2_with (first
      | (go_at_call 101;refine (HS.out _ HG.out).mono ?_;rintro e w1 ⟨a,rfl,hv,ha,hbl,hg1⟩;have hg1':=gt_alloc_r hg1 (.cells #[.int .u8 r,.slice (some a) N N] 91);obtain ⟨k0,k1⟩:=HA.out _ hg1')
      | (go_at_call 102;refine (HL.out _ _).mono ?_;rintro e w2 ⟨rfl,hg2⟩;have hg2':=gt_trans hg1' hg2 (.inl rfl);clear k0 k1;obtain ⟨k0,k1⟩:=HA.out _ hg2')
      | (go_at_call 104;refine (HO.out _).mono ?_;rintro e w3 ⟨rfl,rfl⟩)
      | (go_at_call 103;refine (HE.out _).mono ?_;rintro e w4 ⟨rfl,hg4⟩;have hg4':=gt_trans hg2' hg4 (.inl rfl);obtain ⟨⟨x0,x1,x2,x3,x4,x5⟩,xf⟩:=HC.out _ hg4';have f0:=xf 0;have f1:=xf 1;have f2:=xf 2;have f3:=xf 3;have f4:=xf 4;have f5:=xf 5))
    refine bodyPost_ret (by simp [results,Tryz.results48,go_sem,x0,x1,x2,x3,x4,x5];try rfl) rfl ?_
    refine ⟨rfl,?_⟩
    have gs:∀ (w:World) (jj:Nat) (y:Value),W.grownBy w none→W.grownBy (w.setCell ⟨W.heap.size+1,jj,none⟩ y) none:=fun w jj y g=>gt_set_r g _ _ (Nat.le_succ _)
    exact gs _ _ _ (gs _ _ _ (gs _ _ _ (gs _ _ _ (gs _ _ _ (gs _ _ _ (gt_trans HG.out hg4' (.inl rfl)))))))
  · have ev:(ptOf r n f).v=.agg #[.float .f64 (plX r f 0),.float .f64 (plY r f 0),.float .f64 (plZ r f 0),.float .f64 (plM r f 0),.int .u8 r,.bool true]:=by unfold Pt.v ptOf;rw [if_neg hL]
    rw [ev]
    have HG2:=Lib.hid (HGt.out hL)
    obtain ⟨Li,hLi⟩ : ∃ Li:Int,Li=((n / widN r:Nat):Int):=⟨_,rfl⟩
    rw [←hLi] at HL
    have hb:(Li==0)=false:=by rw [hLi,beq_eq_false_iff_ne];exact fun h=>hL (by exact_mod_cast h)
    clear hLi hL ev HGt hf hr hdiv hw
    generalize plX r f 0=px at HG2 ⊢
    generalize plY r f 0=py at HG2 ⊢
    generalize plZ r f 0=pz at HG2 ⊢
    generalize plM r f 0=pm at HG2 ⊢
    have hsf:=run_store_flt Tryz.prog
    go_enter Tryz.func48,Tryz.ntmps48
    go_wp2_with (first
      | (go_at_call 101;refine (HS.out _ HG.out).mono ?_;rintro e w1 ⟨a,rfl,hv,ha,hbl,hg1⟩;have Hv:=Lib.hid hv;clear hv;have hg1':=gt_alloc_r hg1 (.cells #[.int .u8 r,.slice (some a) N N] 91);obtain ⟨k0,k1⟩:=HA.out _ hg1')
      | (go_at_call 102;refine (HL.out _ _).mono ?_;rintro e w2 ⟨rfl,hg2⟩;have hg2':=gt_trans hg1' hg2 (.inl rfl);have s0:w2.cell? ⟨w1.heap.size,0,none⟩=some (.int .u8 r):=hg2.cell (by simp) (by simp);have s1:w2.cell? ⟨w1.heap.size,1,none⟩=some (.slice (some a) N N):=hg2.cell (by simp) (by simp))
      | (go_at_call 106;refine (HG2.out _ _ (Hv.out.mono (gt_trans (World.grownBy_alloc w1 _ none) hg2 (.inl rfl)))).mono ?_;rintro e w3 ⟨rfl,hg3⟩)
      | (go_at_call 105;refine (NewPoint_any _ _ _ _ _ _).mono ?_;rintro e w4 ⟨rfl,hg4⟩;have hg4':=gt_trans (gt_trans hg2' hg3 (.inl rfl)) hg4 (.inl rfl);obtain ⟨⟨x0,x1,x2,x3,x4,x5⟩,xf⟩:=HC.out _ hg4';have f0:=xf 0;have f1:=xf 1;have f2:=xf 2;have f3:=xf 3;have f4:=xf 4;have f5:=xf 5))
    refine bodyPost_ret (by simp [results,Tryz.results48,go_sem,x0,x1,x2,x3,x4,x5];try rfl) rfl ?_
    refine ⟨rfl,?_⟩
    have gs:∀ (w:World) (jj:Nat) (y:Value),W.grownBy w none→W.grownBy (w.setCell ⟨W.heap.size+1,jj,none⟩ y) none:=fun w jj y g=>gt_set_r g _ _ (Nat.le_succ _)
    exact gs _ _ _ (gs _ _ _ (gs _ _ _ (gs _ _ _ (gs _ _ _ (gs _ _ _ (gt_trans HG.out hg4' (.inl rfl)))))))
theorem ptForce_val (x y z m r r':Nat):(Pt.force ⟨x,y,z,m,r,true⟩ r').v=.agg #[.float .f64 x,.float .f64 y,.float .f64 (if r % 2=r' % 2 then z else 0),.float .f64 (if r / 2=r' / 2 then m else 0),.int .u8 r',.bool true]:=by
  unfold Pt.force Pt.v
  rw [if_pos rfl]
theorem PtForce_empty (x y z m r r':Nat) (W:World) :
    Calls Tryz.prog 213 #[.agg #[.float .f64 x,.float .f64 y,.float .f64 z,.float .f64 m,.int .u8 r,.bool false],.int .u8 r'] W fun e w'=>e=.returned (ptE r').v∧W.grownBy w' none:=by
  have ev:(ptE r').v=.agg #[.float .f64 0,.float .f64 0,.float .f64 0,.float .f64 0,.int .u8 r',.bool false]:=rfl
  have HE:Hid (∀ w,Calls Tryz.prog 103 #[.int .u8 r'] w fun e w'=>e=.returned (.agg #[.float .f64 0,.float .f64 0,.float .f64 0,.float .f64 0,.int .u8 r',.bool false])∧w.grownBy w' none):=fun w=>NewEmptyPoint_any r' w
  rw [ev]
  clear ev
  have HG:=Lib.hid (gt_alloc_r (World.grownBy_alloc W (.cells #[.float .f64 x,.float .f64 y,.float .f64 z,.float .f64 m,.int .u8 r,.bool false] 87) none) (.cells #[.float .f64 0,.float .f64 0,.float .f64 0,.float .f64 0,.int .u8 0,.bool false] 87))
  have HC:Hid (∀ w,((W.alloc (.cells #[.float .f64 x,.float .f64 y,.float .f64 z,.float .f64 m,.int .u8 r,.bool false] 87)).alloc (.cells #[.float .f64 0,.float .f64 0,.float .f64 0,.float .f64 0,.int .u8 0,.bool false] 87)).grownBy w none→(w.cell? ⟨W.heap.size+1,0,none⟩=some (.float .f64 0)∧w.cell? ⟨W.heap.size+1,1,none⟩=some (.float .f64 0)∧w.cell? ⟨W.heap.size+1,2,none⟩=some (.float .f64 0)∧w.cell? ⟨W.heap.size+1,3,none⟩=some (.float .f64 0)∧w.cell? ⟨W.heap.size+1,4,none⟩=some (.int .u8 0)∧w.cell? ⟨W.heap.size+1,5,none⟩=some (.bool false))∧∀ j,w.frozen? ⟨W.heap.size+1,j,none⟩=false):=fun w g=>by
    have hb:=g.block (W.heap.size+1) (by simp) (by simp)
    refine ⟨⟨g.cell (by simp) (by simp),g.cell (by simp) (by simp),g.cell (by simp) (by simp),g.cell (by simp) (by simp),g.cell (by simp) (by simp),g.cell (by simp) (by simp)⟩,fun j=>?_⟩
    rw [World.frozen?_of_block hb];simp
  have hsf:=run_store_flt Tryz.prog
  go_enter Tryz.func213,Tryz.ntmps213
  go_wp2_with (go_at_call 103;refine (HE.out _).mono ?_;rintro e w4 ⟨rfl,hg4⟩;obtain ⟨⟨x0,x1,x2,x3,x4,x5⟩,xf⟩:=HC.out _ hg4;have f0:=xf 0;have f1:=xf 1;have f2:=xf 2;have f3:=xf 3;have f4:=xf 4;have f5:=xf 5)
  refine bodyPost_ret (by simp [results,Tryz.results213,go_sem,x0,x1,x2,x3,x4,x5];try rfl) rfl ?_
  refine ⟨rfl,?_⟩
  have gs:∀ (w:World) (jj:Nat) (y:Value),W.grownBy w none→W.grownBy (w.setCell ⟨W.heap.size+1,jj,none⟩ y) none:=fun w jj y g=>gt_set_r g _ _ (Nat.le_succ _)
  exact gs _ _ _ (gs _ _ _ (gs _ _ _ (gs _ _ _ (gs _ _ _ (gs _ _ _ (gt_trans HG.out hg4 (.inl rfl)))))))
structure F6 (w:World) (A x y z m r:Nat):Prop where
  y0:w.cell? ⟨A,0,none⟩=some (.float .f64 x)
  y1:w.cell? ⟨A,1,none⟩=some (.float .f64 y)
  y2:w.cell? ⟨A,2,none⟩=some (.float .f64 z)
  y3:w.cell? ⟨A,3,none⟩=some (.float .f64 m)
  y4:w.cell? ⟨A,4,none⟩=some (.int .u8 r)
  y5:w.cell? ⟨A,5,none⟩=some (.bool true)
  x0:w.cell? ⟨A+1,0,none⟩=some (.float .f64 0)
  x1:w.cell? ⟨A+1,1,none⟩=some (.float .f64 0)
  x2:w.cell? ⟨A+1,2,none⟩=some (.float .f64 0)
  x3:w.cell? ⟨A+1,3,none⟩=some (.float .f64 0)
  x4:w.cell? ⟨A+1,4,none⟩=some (.int .u8 0)
  x5:w.cell? ⟨A+1,5,none⟩=some (.bool false)
  yf:∀ j,w.frozen? ⟨A,j,none⟩=false
  xf:∀ j,w.frozen? ⟨A+1,j,none⟩=false
theorem F6.drew {w:World} {A x y z m r:Nat} (h:F6 w A x y z m r) (n:Nat):F6 (w.drewN n) A x y z m r :=
  ⟨h.y0,h.y1,h.y2,h.y3,h.y4,h.y5,h.x0,h.x1,h.x2,h.x3,h.x4,h.x5,h.yf,h.xf⟩
theorem F6.setz {w:World} {A x y z m r:Nat} (h:F6 w A x y z m r):F6 (w.setCell ⟨A,2,none⟩ (.float .f64 0)) A x y 0 m r:=by
  refine ⟨?_,?_,World.cell?_setCell_same (v:=.float .f64 0) (h:=h.y2),?_,?_,?_,?_,?_,?_,?_,?_,?_,fun j=>?_,fun j=>?_⟩
  · rw [World.cell?_setCell_other (h:=by simp)];exact h.y0
  · rw [World.cell?_setCell_other (h:=by simp)];exact h.y1
  · rw [World.cell?_setCell_other (h:=by simp)];exact h.y3
  · rw [World.cell?_setCell_other (h:=by simp)];exact h.y4
  · rw [World.cell?_setCell_other (h:=by simp)];exact h.y5
  · rw [World.cell?_setCell_other (h:=by simp)];exact h.x0
  · rw [World.cell?_setCell_other (h:=by simp)];exact h.x1
  · rw [World.cell?_setCell_other (h:=by simp)];exact h.x2
  · rw [World.cell?_setCell_other (h:=by simp)];exact h.x3
  · rw [World.cell?_setCell_other (h:=by simp)];exact h.x4
  · rw [World.cell?_setCell_other (h:=by simp)];exact h.x5
  · rw [World.frozen?_setCell];exact h.yf j
  · rw [World.frozen?_setCell];exact h.xf j
theorem PtForce_full (x y z m r r':Nat) (hr:r<4) (hr':r'<4) (W:World) :
    Calls Tryz.prog 213 #[.agg #[.float .f64 x,.float .f64 y,.float .f64 z,.float .f64 m,.int .u8 r,.bool true],.int .u8 r'] W fun e w'=>e=.returned (Pt.force ⟨x,y,z,m,r,true⟩ r').v∧W.grownBy w' none:=by
  rw [ptForce_val]
  obtain ⟨s1,h1⟩ : ∃ s1:Bool,s1=decide (r % 2=1):=⟨_,rfl⟩
  obtain ⟨s2,h2⟩ : ∃ s2:Bool,s2=decide (r' % 2=1):=⟨_,rfl⟩
  obtain ⟨t1,k1⟩ : ∃ t1:Bool,t1=decide (r / 2=1):=⟨_,rfl⟩
  obtain ⟨t2,k2⟩ : ∃ t2:Bool,t2=decide (r' / 2=1):=⟨_,rfl⟩
  have H1:=Lib.hid (fun w=>Is3D_lit r s1 (by subst h1;rcases (by omega:r=0∨r=1∨r=2∨r=3) with rfl | rfl | rfl | rfl <;> decide) w)
  have H2:=Lib.hid (fun w=>Is3D_lit r' s2 (by subst h2;rcases (by omega:r'=0∨r'=1∨r'=2∨r'=3) with rfl | rfl | rfl | rfl <;> decide) w)
  have H3:=Lib.hid (fun w=>IsMeasured_lit r t1 (by subst k1;rcases (by omega:r=0∨r=1∨r=2∨r=3) with rfl | rfl | rfl | rfl <;> decide) w)
  have H4:=Lib.hid (fun w=>IsMeasured_lit r' t2 (by subst k2;rcases (by omega:r'=0∨r'=1∨r'=2∨r'=3) with rfl | rfl | rfl | rfl <;> decide) w)
  have ez:(if r % 2=r' % 2 then z else 0)=if s1=s2 then z else 0:=by
    have:(r % 2=r' % 2)↔s1=s2:=by subst h1;subst h2;simp only [decide_eq_decide];omega
    simp only [this]
  have em:(if r / 2=r' / 2 then m else 0)=if t1=t2 then m else 0:=by
    have:(r / 2=r' / 2)↔t1=t2:=by subst k1;subst k2;simp only [decide_eq_decide];omega
    simp only [this]
  rw [ez,em]
  clear ez em h1 h2 k1 k2 hr hr'
  have hsf:=run_store_flt Tryz.prog
  have HX:Hid (F6 ((W.alloc (.cells #[.float .f64 x,.float .f64 y,.float .f64 z,.float .f64 m,.int .u8 r,.bool true] 87)).alloc (.cells #[.float .f64 0,.float .f64 0,.float .f64 0,.float .f64 0,.int .u8 0,.bool false] 87)) W.heap.size x y z m r):=by
    refine ⟨?_,?_,?_,?_,?_,?_,?_,?_,?_,?_,?_,?_,fun j=>?_,fun j=>?_⟩ <;> simp
  have HG:=Lib.hid (gt_alloc_r (World.grownBy_alloc W (.cells #[.float .f64 x,.float .f64 y,.float .f64 z,.float .f64 m,.int .u8 r,.bool true] 87) none) (.cells #[.float .f64 0,.float .f64 0,.float .f64 0,.float .f64 0,.int .u8 0,.bool false] 87))
  have hgs:∀ (w:World) (b jj:Nat) (y:Value),W.heap.size≤b→W.grownBy w none→W.grownBy (w.setCell ⟨b,jj,none⟩ y) none:=fun w b jj y hb g=>gt_set_r g _ _ hb
  have HGs:=Lib.hid hgs
  clear hgs
  obtain ⟨zz,hzz,hz⟩ : ∃ zz,zz=(if s1=s2 then z else 0)∧((s2==s1)=false∧zz=0∨(s2==s1)=true∧zz=z):=by
    refine ⟨_,rfl,?_⟩
    cases s1 <;> cases s2 <;> simp
  obtain ⟨mm,hmm,hm⟩ : ∃ mm,mm=(if t1=t2 then m else 0)∧((t2==t1)=false∧mm=0∨(t2==t1)=true∧mm=m):=by
    refine ⟨_,rfl,?_⟩
    cases t1 <;> cases t2 <;> simp
  rw [←hzz,←hmm]
  clear hzz hmm
  rcases hz with ⟨hz,hz0⟩ | ⟨hz,hz0⟩ <;> rcases hm with ⟨hm,hm0⟩ | ⟨hm,hm0⟩
  · rw [hz0,hm0]
    clear hz0 hm0
    go_enter Tryz.func213,Tryz.ntmps213
    go_wp2_with fail
    go_quiet (first | (go_at_call 142;exact Calls.quiet_of_same (H2.out _)) | (go_at_call 142;exact Calls.quiet_of_same (H1.out _)))
    have hX:=HX.out.drew nq
    have hgW:=gt_drewN_r HG.out nq
    revert hX hgW
    generalize ((W.alloc (.cells #[.float .f64 x,.float .f64 y,.float .f64 z,.float .f64 m,.int .u8 r,.bool true] 87)).alloc (.cells #[.float .f64 0,.float .f64 0,.float .f64 0,.float .f64 0,.int .u8 0,.bool false] 87)).drewN nq=w6
    intro hX hgW
    have HX6:=Lib.hid hX
    obtain ⟨y0,y1,y2,y3,y4,y5,x0,x1,x2,x3,x4,x5,yf,xf⟩:=hX
    have g2:=yf 2
    clear HX HG nq
    go_wp2_with fail
    go_quiet (first | (go_at_call 143;exact Calls.quiet_of_same (H4.out _)) | (go_at_call 143;exact Calls.quiet_of_same (H3.out _)))
    clear y0 y1 y2 y3 y4 y5 x0 x1 x2 x3 x4 x5 yf xf g2
    have hX:=HX6.out.setz.drew nq
    have hgW7:=gt_drewN_r (HGs.out w6 W.heap.size 2 (.float .f64 0) (Nat.le_refl _) hgW) nq
    revert hX hgW7
    generalize (w6.setCell ⟨W.heap.size,2,none⟩ (.float .f64 0)).drewN nq=w7
    intro hX hgW7
    obtain ⟨y0,y1,y2,y3,y4,y5,x0,x1,x2,x3,x4,x5,yf,xf⟩:=hX
    have f0:=xf 0
    have f1:=xf 1
    have f2:=xf 2
    have f3:=xf 3
    have f4:=xf 4
    have f5:=xf 5
    have g3:=yf 3
    have g4:=yf 4
    go_wp2_with fail
    refine bodyPost_ret (by simp [results,Tryz.results213,go_sem,x0,x1,x2,x3,x4,x5];try rfl) rfl ?_
    refine ⟨rfl,?_⟩
    repeat first
      | with_reducible exact hgW7
      | with_reducible refine HGs.out _ _ _ _ (Nat.le_add_right _ 1) ?_
      | with_reducible refine HGs.out _ _ _ _ (Nat.le_refl _) ?_
  · rw [hz0,hm0]
    clear hz0 hm0
    go_enter Tryz.func213,Tryz.ntmps213
    go_wp2_with fail
    go_quiet (first | (go_at_call 142;exact Calls.quiet_of_same (H2.out _)) | (go_at_call 142;exact Calls.quiet_of_same (H1.out _)))
    have hX:=HX.out.drew nq
    have hgW:=gt_drewN_r HG.out nq
    revert hX hgW
    generalize ((W.alloc (.cells #[.float .f64 x,.float .f64 y,.float .f64 z,.float .f64 m,.int .u8 r,.bool true] 87)).alloc (.cells #[.float .f64 0,.float .f64 0,.float .f64 0,.float .f64 0,.int .u8 0,.bool false] 87)).drewN nq=w6
    intro hX hgW
    have HX6:=Lib.hid hX
    obtain ⟨y0,y1,y2,y3,y4,y5,x0,x1,x2,x3,x4,x5,yf,xf⟩:=hX
    have g2:=yf 2
    clear HX HG nq
    go_wp2_with fail
    go_quiet (first | (go_at_call 143;exact Calls.quiet_of_same (H4.out _)) | (go_at_call 143;exact Calls.quiet_of_same (H3.out _)))
    clear y0 y1 y2 y3 y4 y5 x0 x1 x2 x3 x4 x5 yf xf g2
    have hX:=HX6.out.setz.drew nq
    have hgW7:=gt_drewN_r (HGs.out w6 W.heap.size 2 (.float .f64 0) (Nat.le_refl _) hgW) nq
    revert hX hgW7
    generalize (w6.setCell ⟨W.heap.size,2,none⟩ (.float .f64 0)).drewN nq=w7
    intro hX hgW7
    obtain ⟨y0,y1,y2,y3,y4,y5,x0,x1,x2,x3,x4,x5,yf,xf⟩:=hX
    have f0:=xf 0
    have f1:=xf 1
    have f2:=xf 2
    have f3:=xf 3
    have f4:=xf 4
    have f5:=xf 5
    have g3:=yf 3
    have g4:=yf 4
    go_wp2_with fail
    refine bodyPost_ret (by simp [results,Tryz.results213,go_sem,x0,x1,x2,x3,x4,x5];try rfl) rfl ?_
    refine ⟨rfl,?_⟩
    repeat first
      | with_reducible exact hgW7
      | with_reducible refine HGs.out _ _ _ _ (Nat.le_add_right _ 1) ?_
      | with_reducible refine HGs.out _ _ _ _ (Nat.le_refl _) ?_
  · rw [hz0,hm0]
    clear hz0 hm0
    go_enter Tryz.func213,Tryz.ntmps213
    go_wp2_with fail
    go_quiet (first | (go_at_call 142;exact Calls.quiet_of_same (H2.out _)) | (go_at_call 142;exact Calls.quiet_of_same (H1.out _)))
    have hX:=HX.out.drew nq
    have hgW:=gt_drewN_r HG.out nq
    revert hX hgW
    generalize ((W.alloc (.cells #[.float .f64 x,.float .f64 y,.float .f64 z,.float .f64 m,.int .u8 r,.bool true] 87)).alloc (.cells #[.float .f64 0,.float .f64 0,.float .f64 0,.float .f64 0,.int .u8 0,.bool false] 87)).drewN nq=w6
    intro hX hgW
    have HX6:=Lib.hid hX
    obtain ⟨y0,y1,y2,y3,y4,y5,x0,x1,x2,x3,x4,x5,yf,xf⟩:=hX
    have g2:=yf 2
    clear HX HG nq
    go_wp2_with fail
    go_quiet (first | (go_at_call 143;exact Calls.quiet_of_same (H4.out _)) | (go_at_call 143;exact Calls.quiet_of_same (H3.out _)))
    clear y0 y1 y2 y3 y4 y5 x0 x1 x2 x3 x4 x5 yf xf g2
    have hX:=HX6.out.drew nq
    have hgW7:=gt_drewN_r hgW nq
    revert hX hgW7
    generalize w6.drewN nq=w7
    intro hX hgW7
    obtain ⟨y0,y1,y2,y3,y4,y5,x0,x1,x2,x3,x4,x5,yf,xf⟩:=hX
    have f0:=xf 0
    have f1:=xf 1
    have f2:=xf 2
    have f3:=xf 3
    have f4:=xf 4
    have f5:=xf 5
    have g3:=yf 3
    have g4:=yf 4
    go_wp2_with fail
    refine bodyPost_ret (by simp [results,Tryz.results213,go_sem,x0,x1,x2,x3,x4,x5];try rfl) rfl ?_
    refine ⟨rfl,?_⟩
    repeat first
      | with_reducible exact hgW7
      | with_reducible refine HGs.out _ _ _ _ (Nat.le_add_right _ 1) ?_
      | with_reducible refine HGs.out _ _ _ _ (Nat.le_refl _) ?_
  · rw [hz0,hm0]
    clear hz0 hm0
    go_enter Tryz.func213,Tryz.ntmps213
    go_wp2_with fail
    go_quiet (first | (go_at_call 142;exact Calls.quiet_of_same (H2.out _)) | (go_at_call 142;exact Calls.quiet_of_same (H1.out _)))
    have hX:=HX.out.drew nq
    have hgW:=gt_drewN_r HG.out nq
    revert hX hgW
    generalize ((W.alloc (.cells #[.float .f64 x,.float .f64 y,.float .f64 z,.float .f64 m,.int .u8 r,.bool true] 87)).alloc (.cells #[.float .f64 0,.float .f64 0,.float .f64 0,.float .f64 0,.int .u8 0,.bool false] 87)).drewN nq=w6
    intro hX hgW
    have HX6:=Lib.hid hX
    obtain ⟨y0,y1,y2,y3,y4,y5,x0,x1,x2,x3,x4,x5,yf,xf⟩:=hX
    have g2:=yf 2
    clear HX HG nq
    go_wp2_with fail
    go_quiet (first | (go_at_call 143;exact Calls.quiet_of_same (H4.out _)) | (go_at_call 143;exact Calls.quiet_of_same (H3.out _)))
    clear y0 y1 y2 y3 y4 y5 x0 x1 x2 x3 x4 x5 yf xf g2
    have hX:=HX6.out.drew nq
    have hgW7:=gt_drewN_r hgW nq
    revert hX hgW7
    generalize w6.drewN nq=w7
    intro hX hgW7
    obtain ⟨y0,y1,y2,y3,y4,y5,x0,x1,x2,x3,x4,x5,yf,xf⟩:=hX
    have f0:=xf 0
    have f1:=xf 1
    have f2:=xf 2
    have f3:=xf 3
    have f4:=xf 4
    have f5:=xf 5
    have g3:=yf 3
    have g4:=yf 4
    go_wp2_with fail
    refine bodyPost_ret (by simp [results,Tryz.results213,go_sem,x0,x1,x2,x3,x4,x5];try rfl) rfl ?_
    refine ⟨rfl,?_⟩
    repeat first
      | with_reducible exact hgW7
      | with_reducible refine HGs.out _ _ _ _ (Nat.le_add_right _ 1) ?_
      | with_reducible refine HGs.out _ _ _ _ (Nat.le_refl _) ?_
end
end Go.Proofs.YtlpaecafpbbbkaaGreatDoor
