/- Points of the package with more than X and Y as plain data. Several points as plain data: plainMultiPoint. Simplify of a geometry that is a point or several points: it comes back as it is. Points and lines of the package as plain data. The reference's reader of well known binary: what is made of numbers that have been read. -/
import Derived.Deep.RegionLaw
import Derived.Test.YtlpaecafpbbbkaaGreatDoorBYT13
import Derived.Test.YtlpaecafpbbbkaaGreatDoorBYT14
import Derived.Test.YtlpaecafpbbbkaaGreatDoorBYT29
set_option linter.unusedVariables false
set_option linter.unusedSimpArgs false
set_option maxRecDepth 100000
set_option maxHeartbeats 24000000
namespace Go.Proofs.YtlpaecafpbbbkaaGreatDoor
section
open Go.RowKit
theorem plPt1 (f:Nat→Nat) (hf:∀ i,f i<18446744073709551616) (W:World):Calls Tryz.prog 74 #[.agg #[.float .f64 (f 0),.float .f64 (f 1),.float .f64 (f 2),.float .f64 0,.int .u8 1,.bool true]] W fun e w'=>∃ v',e=.returned v'∧KD (Fr W w') 1 w' v' (.mk 1 (1:Nat) 3 f [])∧W.grownBy w' none:=by
  have HG:=Lib.hid (gt_alloc_r (World.grownBy_alloc W (.cells #[.float .f64 (f 0),.float .f64 (f 1),.float .f64 (f 2),.float .f64 0,.int .u8 1,.bool true] 87) none) (.cells #[.int .i64 0,.int .i64 0,.slice none 0 0,.slice none 0 0] 33))
  have HC:Hid (∀ w,((W.alloc (.cells #[.float .f64 (f 0),.float .f64 (f 1),.float .f64 (f 2),.float .f64 0,.int .u8 1,.bool true] 87)).alloc (.cells #[.int .i64 0,.int .i64 0,.slice none 0 0,.slice none 0 0] 33)).grownBy w none→(w.cell? ⟨W.heap.size,0,none⟩=some (.float .f64 (f 0))∧w.cell? ⟨W.heap.size,1,none⟩=some (.float .f64 (f 1))∧w.cell? ⟨W.heap.size,2,none⟩=some (.float .f64 (f 2))∧w.cell? ⟨W.heap.size,3,none⟩=some (.float .f64 0)∧w.cell? ⟨W.heap.size,4,none⟩=some (.int .u8 1)∧w.cell? ⟨W.heap.size,5,none⟩=some (.bool true))∧(w.cell? ⟨W.heap.size+1,0,none⟩=some (.int .i64 0)∧w.cell? ⟨W.heap.size+1,1,none⟩=some (.int .i64 0)∧w.cell? ⟨W.heap.size+1,2,none⟩=some (.slice none 0 0)∧w.cell? ⟨W.heap.size+1,3,none⟩=some (.slice none 0 0))∧∀ j,w.frozen? ⟨W.heap.size+1,j,none⟩=false):=fun w g=>by
    have hb:=g.block (W.heap.size+1) (by simp) (by simp)
    refine ⟨⟨g.cell (by simp) (by simp),g.cell (by simp) (by simp),g.cell (by simp) (by simp),g.cell (by simp) (by simp),g.cell (by simp) (by simp),g.cell (by simp) (by simp)⟩,⟨g.cell (by simp) (by simp),g.cell (by simp) (by simp),g.cell (by simp) (by simp),g.cell (by simp) (by simp)⟩,fun j=>?_⟩
    rw [World.frozen?_of_block hb];simp
  have hsf:=run_store_flt Tryz.prog
  have HF0:=Lib.hid hf
  clear hf
  go_enter Tryz.func74,Tryz.ntmps74
  go_wp2_with (first
    | (go_at_call 140;refine (PtCT_any _ _ _ _ _ _ _).mono ?_;rintro e w1 ⟨rfl,hg1⟩;obtain ⟨⟨k0,k1,k2,k3,k4,k5⟩,_,_⟩:=HC.out _ hg1;have hz1:W.heap.size<w1.heap.size:=(by have:=hg1.size;simp at this;omega);have hz2:W.heap.size+1<w1.heap.size:=(by have:=hg1.size;simp at this;omega)))
  have HBx:Hid (∀ wr,Und W (w1.alloc (.cells #[.int .i64 1,.int .i64 1,.slice none 0 0,.slice none 0 0] 33)) (w1.heap.size+1) w1.heap.size wr→(wr.cell? ⟨W.heap.size+1,0,none⟩=some (.int .i64 0)∧wr.cell? ⟨W.heap.size+1,1,none⟩=some (.int .i64 0)∧wr.cell? ⟨W.heap.size+1,2,none⟩=some (.slice none 0 0)∧wr.cell? ⟨W.heap.size+1,3,none⟩=some (.slice none 0 0))∧∀ j,wr.frozen? ⟨W.heap.size+1,j,none⟩=false):=fun wr u=>by
    obtain ⟨_,⟨f0,f1,f2,f3⟩,fz⟩:=HC.out (w1.alloc (.cells #[.int .i64 1,.int .i64 1,.slice none 0 0,.slice none 0 0] 33)) (gt_alloc_r hg1 _)
    have kp:∀ b j x,b<w1.heap.size→(w1.alloc (.cells #[.int .i64 1,.int .i64 1,.slice none 0 0,.slice none 0 0] 33)).cell? ⟨b,j,none⟩=some x→wr.cell? ⟨b,j,none⟩=some x:=fun b j x hb h=>u.keep _ _ (by show b<_;omega) (by show b≠_;omega) h
    exact ⟨⟨kp _ _ _ hz2 f0,kp _ _ _ hz2 f1,kp _ _ _ hz2 f2,kp _ _ _ hz2 f3⟩,fun j=>by rw [u.kf _ j (by omega) (by omega)];exact fz j⟩
  have HU:Hid (∀ (wc w6 w7:World) (x:Value) (m:Nat) (xs:List Value),NumB W (w1.alloc (.cells #[.int .i64 1,.int .i64 1,.slice none 0 0,.slice none 0 0] 33)) (w1.heap.size+1) w1.heap.size wc 1 1 x m xs→wc.grownBy w6 none→w6.grownBy w7 x.ownBlock→(w7.cell? ⟨w1.heap.size,0,none⟩=some (.int .i64 1)∧w7.cell? ⟨w1.heap.size,1,none⟩=some (.int .i64 1)∧w7.cell? ⟨w1.heap.size,2,none⟩=some x∧w7.cell? ⟨w1.heap.size,3,none⟩=some (.slice none 0 0))∧w7.frozen? ⟨w1.heap.size,2,none⟩=false∧w1.heap.size<w7.heap.size∧(w7.cell? ⟨W.heap.size+1,0,none⟩=some (.int .i64 0)∧w7.cell? ⟨W.heap.size+1,1,none⟩=some (.int .i64 0)∧w7.cell? ⟨W.heap.size+1,2,none⟩=some (.slice none 0 0)∧w7.cell? ⟨W.heap.size+1,3,none⟩=some (.slice none 0 0))∧(∀ j,w7.frozen? ⟨W.heap.size+1,j,none⟩=false)∧W.heap.size+1<w7.heap.size):=fun wc w6 w7 x m xs i g g'=>by
    have hi:=i.kept g
    have hne:some w1.heap.size≠x.ownBlock:=fun e=>by have:=(hi.own.lt _ e.symm).1;omega
    have hne2:some (W.heap.size+1)≠x.ownBlock:=fun e=>by have:=(hi.own.lt _ e.symm).1;omega
    obtain ⟨⟨a0,a1,a2,a3⟩,af⟩:=HBx.out _ hi.u
    have hb:=hi.u.big
    have hs:=g'.size
    exact ⟨⟨g'.cell hi.o0 hne,g'.cell hi.o1 hne,g'.cell hi.o2 hne,g'.cell hi.o3 hne⟩,by rw [World.frozen?_of_block (g'.block w1.heap.size (by omega) hne)];exact hi.u.of_ 2,by omega,⟨g'.cell a0 hne2,g'.cell a1 hne2,g'.cell a2 hne2,g'.cell a3 hne2⟩,fun j=>by rw [World.frozen?_of_block (g'.block (W.heap.size+1) (by omega) hne2)];exact af j,by omega⟩
  have HCw:Hid (∀ (wc w6 w7:World) (x:Value) (m b:Nat) (xs:List Value),NumB W (w1.alloc (.cells #[.int .i64 1,.int .i64 1,.slice none 0 0,.slice none 0 0] 33)) (w1.heap.size+1) w1.heap.size wc 1 1 x m xs→wc.grownBy w6 none→w6.grownBy w7 x.ownBlock→x.ownBlock≠some b→∀ j v,w6.cell? ⟨b,j,none⟩=some v→w7.cell? ⟨b,j,none⟩=some v):=fun wc w6 w7 x m b xs i g g' h1 j v hv=>g'.cell hv (fun e=>h1 e.symm)
  have HCs:Hid (∀ (w:World) (y v:Value) (b j:Nat) (O:Obj),w1.heap.size<b→w.cell? ⟨b,j,none⟩=some v→((w.setCell ⟨w1.heap.size,2,none⟩ y).alloc O).cell? ⟨b,j,none⟩=some v):=fun w y v b j O hb hv=>(World.grownBy_alloc _ O none).cell (by rw [World.cell?_setCell_other (h:=fun e=>by injection e with e;omega)];exact hv) (by simp)
  go_wp2_with (first
    | (go_at_call 141;refine (PtCo_any _ _ _ _ _ _ _).mono ?_;rintro e w2 ⟨rfl,hg2⟩;have I:=(NumB.new (gt_trans HG.out hg1 (.inl rfl)) 1 1).kept hg2;have HI:=Lib.hid I;have o2:=I.o2;have hz3:w1.heap.size<w2.heap.size:=(by have:=hg2.size;simp at this;omega);have HOHI:Hid ((Value.slice none 0 0).ownBlock≠some w2.heap.size):=(fun e=>by simp [Value.ownBlock] at e);clear I)
    | (at_builtin;go_loud (refine app_cells2 (size:=1) (n:=0) (xs:=[]) (base:=w1.heap.size+1) rfl _ _ _ rfl Tryz.underlying30 (.float .f64 0) 8 infoFlt rfl (Nat.succ_pos 0) rfl rfl (by simp) _ (HI.out.kept (gt_alloc_r (World.grownBy_alloc _ _ _) _)).own rfl (by simp [Value.oneCell']) (Nat.succ_pos 1) (by simp;omega) (by omega) (by omega) ?_;intro ggA capA wA hownA hgA hatA;have GA:=gt_alloc_r (World.grownBy_alloc w2 (.cells #[.float .f64 (f 0),.float .f64 (f 1),.float .f64 (f 2),.float .f64 0,.int .u8 1] 85) none) (.cells #[.float .f64 (f 0),.float .f64 (f 1)] 26);obtain ⟨⟨p0A,p1A,uA,p3A⟩,ufA,hzA,⟨r0A,r1A,r2A,r3A⟩,rfA,rzA⟩:=HU.out _ _ _ _ _ _ HI.out GA hgA;have rf0A:=rfA 0;have rf1A:=rfA 1;have rf2A:=rfA 2;have rf3A:=rfA 3;have cA2:=HCw.out _ _ _ _ _ w2.heap.size _ HI.out GA hgA HOHI.out 2 (.float .f64 (f 2)) (by simp);have cA3:=HCw.out _ _ _ _ _ w2.heap.size _ HI.out GA hgA HOHI.out 3 (.float .f64 0) (by simp);have cA4:=HCw.out _ _ _ _ _ w2.heap.size _ HI.out GA hgA HOHI.out 4 (.int .u8 1) (by simp);have HFA:=Lib.hid (HI.out.app GA hgA hownA);have hsA:w2.heap.size<wA.heap.size:=(by have h2:=hgA.size;simp at h2;omega);have HOHFA:Hid ((Value.slice (some ⟨ggA,0,none⟩) (0+2) capA).ownBlock≠some w2.heap.size):=(fun e=>by injection e with e;have e2:ggA=w2.heap.size:=e;rcases hatA with h | h;exact HOHI.out (h.trans (congrArg some e2));simp at h;omega);clear hownA hatA))
    | (go_at_call 142;refine (Is3D_lit 1 true (by simp) _).mono ?_;rintro e wx ⟨rfl,rfl⟩)
    | (go_at_call 143;refine (IsMeasured_lit 1 false (by simp) _).mono ?_;rintro e wx ⟨rfl,rfl⟩)
    | (at_builtin;go_loud (refine app_cells2 (size:=1) (n:=0+2) (xs:=[]++[.float .f64 (f 0),.float .f64 (f 1)]) (base:=w1.heap.size+1) rfl _ _ _ rfl Tryz.underlying30 (.float .f64 0) 8 infoFlt rfl (Nat.succ_pos 0) rfl rfl (by simp) _ (HFA.out.kept (World.grownBy_alloc _ _ _)).own rfl (by simp [Value.oneCell']) (Nat.succ_pos 0) (by simp [World.setCell];omega) (by omega) (by omega) ?_;intro ggZ capZ wZ hownZ hgZ hatZ;have GZ:=World.grownBy_alloc (wA.setCell ⟨w1.heap.size,2,none⟩ (.slice (some ⟨ggA,0,none⟩) (0+2) capA)) (.cells #[.float .f64 (f 2)] 26) none;obtain ⟨⟨p0Z,p1Z,uZ,p3Z⟩,ufZ,hzZ,⟨r0Z,r1Z,r2Z,r3Z⟩,rfZ,rzZ⟩:=HU.out _ _ _ _ _ _ HFA.out GZ hgZ;have rf0Z:=rfZ 0;have rf1Z:=rfZ 1;have rf2Z:=rfZ 2;have rf3Z:=rfZ 3;have cZ2:=HCw.out _ _ _ _ _ w2.heap.size _ HFA.out GZ hgZ HOHFA.out 2 (.float .f64 (f 2)) (HCs.out _ _ _ _ 2 _ hz3 cA2);have cZ3:=HCw.out _ _ _ _ _ w2.heap.size _ HFA.out GZ hgZ HOHFA.out 3 (.float .f64 0) (HCs.out _ _ _ _ 3 _ hz3 cA3);have cZ4:=HCw.out _ _ _ _ _ w2.heap.size _ HFA.out GZ hgZ HOHFA.out 4 (.int .u8 1) (HCs.out _ _ _ _ 4 _ hz3 cA4);have HFZ:=Lib.hid (HFA.out.app GZ hgZ hownZ);have hsZ:w2.heap.size<wZ.heap.size:=(by have h2:=hgZ.size;simp [World.setCell] at h2;omega);have HOHFZ:Hid ((Value.slice (some ⟨ggZ,0,none⟩) (0+2+1) capZ).ownBlock≠some w2.heap.size):=(fun e=>by injection e with e;have e2:ggZ=w2.heap.size:=e;rcases hatZ with h | h;exact HOHFA.out (h.trans (congrArg some e2));simp [World.setCell] at h;omega);clear hownZ hatZ)))
  obtain ⟨pn,cn,hx,I2⟩:=KidB.of_num (f:=f) (n:=3) (HFZ.out.cast rfl rfl) 0 HF0.out
  injection hx with hx1 hx2 hx3
  subst hx1 hx3
  have HE:=Lib.hid (I2.end_ (W.heap.size+1) (by omega) (by omega))
  clear I2
  refine bodyPost_ret (by simp [results,Tryz.results74,go_sem,r0Z,r1Z,r2Z,r3Z];try rfl) rfl ?_
  exact ⟨_,rfl,HE.out.1,HE.out.2⟩
theorem plPt2 (f:Nat→Nat) (hf:∀ i,f i<18446744073709551616) (W:World):Calls Tryz.prog 74 #[.agg #[.float .f64 (f 0),.float .f64 (f 1),.float .f64 0,.float .f64 (f 2),.int .u8 2,.bool true]] W fun e w'=>∃ v',e=.returned v'∧KD (Fr W w') 1 w' v' (.mk 1 (2:Nat) 3 f [])∧W.grownBy w' none:=by
  have HG:=Lib.hid (gt_alloc_r (World.grownBy_alloc W (.cells #[.float .f64 (f 0),.float .f64 (f 1),.float .f64 0,.float .f64 (f 2),.int .u8 2,.bool true] 87) none) (.cells #[.int .i64 0,.int .i64 0,.slice none 0 0,.slice none 0 0] 33))
  have HC:Hid (∀ w,((W.alloc (.cells #[.float .f64 (f 0),.float .f64 (f 1),.float .f64 0,.float .f64 (f 2),.int .u8 2,.bool true] 87)).alloc (.cells #[.int .i64 0,.int .i64 0,.slice none 0 0,.slice none 0 0] 33)).grownBy w none→(w.cell? ⟨W.heap.size,0,none⟩=some (.float .f64 (f 0))∧w.cell? ⟨W.heap.size,1,none⟩=some (.float .f64 (f 1))∧w.cell? ⟨W.heap.size,2,none⟩=some (.float .f64 0)∧w.cell? ⟨W.heap.size,3,none⟩=some (.float .f64 (f 2))∧w.cell? ⟨W.heap.size,4,none⟩=some (.int .u8 2)∧w.cell? ⟨W.heap.size,5,none⟩=some (.bool true))∧(w.cell? ⟨W.heap.size+1,0,none⟩=some (.int .i64 0)∧w.cell? ⟨W.heap.size+1,1,none⟩=some (.int .i64 0)∧w.cell? ⟨W.heap.size+1,2,none⟩=some (.slice none 0 0)∧w.cell? ⟨W.heap.size+1,3,none⟩=some (.slice none 0 0))∧∀ j,w.frozen? ⟨W.heap.size+1,j,none⟩=false):=fun w g=>by
    have hb:=g.block (W.heap.size+1) (by simp) (by simp)
    refine ⟨⟨g.cell (by simp) (by simp),g.cell (by simp) (by simp),g.cell (by simp) (by simp),g.cell (by simp) (by simp),g.cell (by simp) (by simp),g.cell (by simp) (by simp)⟩,⟨g.cell (by simp) (by simp),g.cell (by simp) (by simp),g.cell (by simp) (by simp),g.cell (by simp) (by simp)⟩,fun j=>?_⟩
    rw [World.frozen?_of_block hb];simp
  have hsf:=run_store_flt Tryz.prog
  have HF0:=Lib.hid hf
  clear hf
  go_enter Tryz.func74,Tryz.ntmps74
  go_wp2_with (first
    | (go_at_call 140;refine (PtCT_any _ _ _ _ _ _ _).mono ?_;rintro e w1 ⟨rfl,hg1⟩;obtain ⟨⟨k0,k1,k2,k3,k4,k5⟩,_,_⟩:=HC.out _ hg1;have hz1:W.heap.size<w1.heap.size:=(by have:=hg1.size;simp at this;omega);have hz2:W.heap.size+1<w1.heap.size:=(by have:=hg1.size;simp at this;omega)))
  have HBx:Hid (∀ wr,Und W (w1.alloc (.cells #[.int .i64 1,.int .i64 2,.slice none 0 0,.slice none 0 0] 33)) (w1.heap.size+1) w1.heap.size wr→(wr.cell? ⟨W.heap.size+1,0,none⟩=some (.int .i64 0)∧wr.cell? ⟨W.heap.size+1,1,none⟩=some (.int .i64 0)∧wr.cell? ⟨W.heap.size+1,2,none⟩=some (.slice none 0 0)∧wr.cell? ⟨W.heap.size+1,3,none⟩=some (.slice none 0 0))∧∀ j,wr.frozen? ⟨W.heap.size+1,j,none⟩=false):=fun wr u=>by
    obtain ⟨_,⟨f0,f1,f2,f3⟩,fz⟩:=HC.out (w1.alloc (.cells #[.int .i64 1,.int .i64 2,.slice none 0 0,.slice none 0 0] 33)) (gt_alloc_r hg1 _)
    have kp:∀ b j x,b<w1.heap.size→(w1.alloc (.cells #[.int .i64 1,.int .i64 2,.slice none 0 0,.slice none 0 0] 33)).cell? ⟨b,j,none⟩=some x→wr.cell? ⟨b,j,none⟩=some x:=fun b j x hb h=>u.keep _ _ (by show b<_;omega) (by show b≠_;omega) h
    exact ⟨⟨kp _ _ _ hz2 f0,kp _ _ _ hz2 f1,kp _ _ _ hz2 f2,kp _ _ _ hz2 f3⟩,fun j=>by rw [u.kf _ j (by omega) (by omega)];exact fz j⟩
  have HU:Hid (∀ (wc w6 w7:World) (x:Value) (m:Nat) (xs:List Value),NumB W (w1.alloc (.cells #[.int .i64 1,.int .i64 2,.slice none 0 0,.slice none 0 0] 33)) (w1.heap.size+1) w1.heap.size wc 1 2 x m xs→wc.grownBy w6 none→w6.grownBy w7 x.ownBlock→(w7.cell? ⟨w1.heap.size,0,none⟩=some (.int .i64 1)∧w7.cell? ⟨w1.heap.size,1,none⟩=some (.int .i64 2)∧w7.cell? ⟨w1.heap.size,2,none⟩=some x∧w7.cell? ⟨w1.heap.size,3,none⟩=some (.slice none 0 0))∧w7.frozen? ⟨w1.heap.size,2,none⟩=false∧w1.heap.size<w7.heap.size∧(w7.cell? ⟨W.heap.size+1,0,none⟩=some (.int .i64 0)∧w7.cell? ⟨W.heap.size+1,1,none⟩=some (.int .i64 0)∧w7.cell? ⟨W.heap.size+1,2,none⟩=some (.slice none 0 0)∧w7.cell? ⟨W.heap.size+1,3,none⟩=some (.slice none 0 0))∧(∀ j,w7.frozen? ⟨W.heap.size+1,j,none⟩=false)∧W.heap.size+1<w7.heap.size):=fun wc w6 w7 x m xs i g g'=>by
    have hi:=i.kept g
    have hne:some w1.heap.size≠x.ownBlock:=fun e=>by have:=(hi.own.lt _ e.symm).1;omega
    have hne2:some (W.heap.size+1)≠x.ownBlock:=fun e=>by have:=(hi.own.lt _ e.symm).1;omega
    obtain ⟨⟨a0,a1,a2,a3⟩,af⟩:=HBx.out _ hi.u
    have hb:=hi.u.big
    have hs:=g'.size
    exact ⟨⟨g'.cell hi.o0 hne,g'.cell hi.o1 hne,g'.cell hi.o2 hne,g'.cell hi.o3 hne⟩,by rw [World.frozen?_of_block (g'.block w1.heap.size (by omega) hne)];exact hi.u.of_ 2,by omega,⟨g'.cell a0 hne2,g'.cell a1 hne2,g'.cell a2 hne2,g'.cell a3 hne2⟩,fun j=>by rw [World.frozen?_of_block (g'.block (W.heap.size+1) (by omega) hne2)];exact af j,by omega⟩
  have HCw:Hid (∀ (wc w6 w7:World) (x:Value) (m b:Nat) (xs:List Value),NumB W (w1.alloc (.cells #[.int .i64 1,.int .i64 2,.slice none 0 0,.slice none 0 0] 33)) (w1.heap.size+1) w1.heap.size wc 1 2 x m xs→wc.grownBy w6 none→w6.grownBy w7 x.ownBlock→x.ownBlock≠some b→∀ j v,w6.cell? ⟨b,j,none⟩=some v→w7.cell? ⟨b,j,none⟩=some v):=fun wc w6 w7 x m b xs i g g' h1 j v hv=>g'.cell hv (fun e=>h1 e.symm)
  have HCs:Hid (∀ (w:World) (y v:Value) (b j:Nat) (O:Obj),w1.heap.size<b→w.cell? ⟨b,j,none⟩=some v→((w.setCell ⟨w1.heap.size,2,none⟩ y).alloc O).cell? ⟨b,j,none⟩=some v):=fun w y v b j O hb hv=>(World.grownBy_alloc _ O none).cell (by rw [World.cell?_setCell_other (h:=fun e=>by injection e with e;omega)];exact hv) (by simp)
  go_wp2_with (first
    | (go_at_call 141;refine (PtCo_any _ _ _ _ _ _ _).mono ?_;rintro e w2 ⟨rfl,hg2⟩;have I:=(NumB.new (gt_trans HG.out hg1 (.inl rfl)) 1 2).kept hg2;have HI:=Lib.hid I;have o2:=I.o2;have hz3:w1.heap.size<w2.heap.size:=(by have:=hg2.size;simp at this;omega);have HOHI:Hid ((Value.slice none 0 0).ownBlock≠some w2.heap.size):=(fun e=>by simp [Value.ownBlock] at e);clear I)
    | (at_builtin;go_loud (refine app_cells2 (size:=1) (n:=0) (xs:=[]) (base:=w1.heap.size+1) rfl _ _ _ rfl Tryz.underlying30 (.float .f64 0) 8 infoFlt rfl (Nat.succ_pos 0) rfl rfl (by simp) _ (HI.out.kept (gt_alloc_r (World.grownBy_alloc _ _ _) _)).own rfl (by simp [Value.oneCell']) (Nat.succ_pos 1) (by simp;omega) (by omega) (by omega) ?_;intro ggA capA wA hownA hgA hatA;have GA:=gt_alloc_r (World.grownBy_alloc w2 (.cells #[.float .f64 (f 0),.float .f64 (f 1),.float .f64 0,.float .f64 (f 2),.int .u8 2] 85) none) (.cells #[.float .f64 (f 0),.float .f64 (f 1)] 26);obtain ⟨⟨p0A,p1A,uA,p3A⟩,ufA,hzA,⟨r0A,r1A,r2A,r3A⟩,rfA,rzA⟩:=HU.out _ _ _ _ _ _ HI.out GA hgA;have rf0A:=rfA 0;have rf1A:=rfA 1;have rf2A:=rfA 2;have rf3A:=rfA 3;have cA2:=HCw.out _ _ _ _ _ w2.heap.size _ HI.out GA hgA HOHI.out 2 (.float .f64 0) (by simp);have cA3:=HCw.out _ _ _ _ _ w2.heap.size _ HI.out GA hgA HOHI.out 3 (.float .f64 (f 2)) (by simp);have cA4:=HCw.out _ _ _ _ _ w2.heap.size _ HI.out GA hgA HOHI.out 4 (.int .u8 2) (by simp);have HFA:=Lib.hid (HI.out.app GA hgA hownA);have hsA:w2.heap.size<wA.heap.size:=(by have h2:=hgA.size;simp at h2;omega);have HOHFA:Hid ((Value.slice (some ⟨ggA,0,none⟩) (0+2) capA).ownBlock≠some w2.heap.size):=(fun e=>by injection e with e;have e2:ggA=w2.heap.size:=e;rcases hatA with h | h;exact HOHI.out (h.trans (congrArg some e2));simp at h;omega);clear hownA hatA))
    | (go_at_call 142;refine (Is3D_lit 2 false (by simp) _).mono ?_;rintro e wx ⟨rfl,rfl⟩)
    | (go_at_call 143;refine (IsMeasured_lit 2 true (by simp) _).mono ?_;rintro e wx ⟨rfl,rfl⟩)
    | (at_builtin;go_loud (refine app_cells2 (size:=1) (n:=0+2) (xs:=[]++[.float .f64 (f 0),.float .f64 (f 1)]) (base:=w1.heap.size+1) rfl _ _ _ rfl Tryz.underlying30 (.float .f64 0) 8 infoFlt rfl (Nat.succ_pos 0) rfl rfl (by simp) _ (HFA.out.kept (World.grownBy_alloc _ _ _)).own rfl (by simp [Value.oneCell']) (Nat.succ_pos 0) (by simp [World.setCell];omega) (by omega) (by omega) ?_;intro ggM capM wM hownM hgM hatM;have GM:=World.grownBy_alloc (wA.setCell ⟨w1.heap.size,2,none⟩ (.slice (some ⟨ggA,0,none⟩) (0+2) capA)) (.cells #[.float .f64 (f 2)] 26) none;obtain ⟨⟨p0M,p1M,uM,p3M⟩,ufM,hzM,⟨r0M,r1M,r2M,r3M⟩,rfM,rzM⟩:=HU.out _ _ _ _ _ _ HFA.out GM hgM;have rf0M:=rfM 0;have rf1M:=rfM 1;have rf2M:=rfM 2;have rf3M:=rfM 3;have cM2:=HCw.out _ _ _ _ _ w2.heap.size _ HFA.out GM hgM HOHFA.out 2 (.float .f64 0) (HCs.out _ _ _ _ 2 _ hz3 cA2);have cM3:=HCw.out _ _ _ _ _ w2.heap.size _ HFA.out GM hgM HOHFA.out 3 (.float .f64 (f 2)) (HCs.out _ _ _ _ 3 _ hz3 cA3);have cM4:=HCw.out _ _ _ _ _ w2.heap.size _ HFA.out GM hgM HOHFA.out 4 (.int .u8 2) (HCs.out _ _ _ _ 4 _ hz3 cA4);have HFM:=Lib.hid (HFA.out.app GM hgM hownM);have hsM:w2.heap.size<wM.heap.size:=(by have h2:=hgM.size;simp [World.setCell] at h2;omega);have HOHFM:Hid ((Value.slice (some ⟨ggM,0,none⟩) (0+2+1) capM).ownBlock≠some w2.heap.size):=(fun e=>by injection e with e;have e2:ggM=w2.heap.size:=e;rcases hatM with h | h;exact HOHFA.out (h.trans (congrArg some e2));simp [World.setCell] at h;omega);clear hownM hatM)))
  obtain ⟨pn,cn,hx,I2⟩:=KidB.of_num (f:=f) (n:=3) (HFM.out.cast rfl rfl) 0 HF0.out
  injection hx with hx1 hx2 hx3
  subst hx1 hx3
  have HE:=Lib.hid (I2.end_ (W.heap.size+1) (by omega) (by omega))
  clear I2
  refine bodyPost_ret (by simp [results,Tryz.results74,go_sem,r0M,r1M,r2M,r3M];try rfl) rfl ?_
  exact ⟨_,rfl,HE.out.1,HE.out.2⟩
theorem plPt3 (f:Nat→Nat) (hf:∀ i,f i<18446744073709551616) (W:World):Calls Tryz.prog 74 #[.agg #[.float .f64 (f 0),.float .f64 (f 1),.float .f64 (f 2),.float .f64 (f 3),.int .u8 3,.bool true]] W fun e w'=>∃ v',e=.returned v'∧KD (Fr W w') 1 w' v' (.mk 1 (3:Nat) 4 f [])∧W.grownBy w' none:=by
  have HG:=Lib.hid (gt_alloc_r (World.grownBy_alloc W (.cells #[.float .f64 (f 0),.float .f64 (f 1),.float .f64 (f 2),.float .f64 (f 3),.int .u8 3,.bool true] 87) none) (.cells #[.int .i64 0,.int .i64 0,.slice none 0 0,.slice none 0 0] 33))
  have HC:Hid (∀ w,((W.alloc (.cells #[.float .f64 (f 0),.float .f64 (f 1),.float .f64 (f 2),.float .f64 (f 3),.int .u8 3,.bool true] 87)).alloc (.cells #[.int .i64 0,.int .i64 0,.slice none 0 0,.slice none 0 0] 33)).grownBy w none→(w.cell? ⟨W.heap.size,0,none⟩=some (.float .f64 (f 0))∧w.cell? ⟨W.heap.size,1,none⟩=some (.float .f64 (f 1))∧w.cell? ⟨W.heap.size,2,none⟩=some (.float .f64 (f 2))∧w.cell? ⟨W.heap.size,3,none⟩=some (.float .f64 (f 3))∧w.cell? ⟨W.heap.size,4,none⟩=some (.int .u8 3)∧w.cell? ⟨W.heap.size,5,none⟩=some (.bool true))∧(w.cell? ⟨W.heap.size+1,0,none⟩=some (.int .i64 0)∧w.cell? ⟨W.heap.size+1,1,none⟩=some (.int .i64 0)∧w.cell? ⟨W.heap.size+1,2,none⟩=some (.slice none 0 0)∧w.cell? ⟨W.heap.size+1,3,none⟩=some (.slice none 0 0))∧∀ j,w.frozen? ⟨W.heap.size+1,j,none⟩=false):=fun w g=>by
    have hb:=g.block (W.heap.size+1) (by simp) (by simp)
    refine ⟨⟨g.cell (by simp) (by simp),g.cell (by simp) (by simp),g.cell (by simp) (by simp),g.cell (by simp) (by simp),g.cell (by simp) (by simp),g.cell (by simp) (by simp)⟩,⟨g.cell (by simp) (by simp),g.cell (by simp) (by simp),g.cell (by simp) (by simp),g.cell (by simp) (by simp)⟩,fun j=>?_⟩
    rw [World.frozen?_of_block hb];simp
  have hsf:=run_store_flt Tryz.prog
  have HF0:=Lib.hid hf
  clear hf
  go_enter Tryz.func74,Tryz.ntmps74
  go_wp2_with (first
    | (go_at_call 140;refine (PtCT_any _ _ _ _ _ _ _).mono ?_;rintro e w1 ⟨rfl,hg1⟩;obtain ⟨⟨k0,k1,k2,k3,k4,k5⟩,_,_⟩:=HC.out _ hg1;have hz1:W.heap.size<w1.heap.size:=(by have:=hg1.size;simp at this;omega);have hz2:W.heap.size+1<w1.heap.size:=(by have:=hg1.size;simp at this;omega)))
  have HBx:Hid (∀ wr,Und W (w1.alloc (.cells #[.int .i64 1,.int .i64 3,.slice none 0 0,.slice none 0 0] 33)) (w1.heap.size+1) w1.heap.size wr→(wr.cell? ⟨W.heap.size+1,0,none⟩=some (.int .i64 0)∧wr.cell? ⟨W.heap.size+1,1,none⟩=some (.int .i64 0)∧wr.cell? ⟨W.heap.size+1,2,none⟩=some (.slice none 0 0)∧wr.cell? ⟨W.heap.size+1,3,none⟩=some (.slice none 0 0))∧∀ j,wr.frozen? ⟨W.heap.size+1,j,none⟩=false):=fun wr u=>by
    obtain ⟨_,⟨f0,f1,f2,f3⟩,fz⟩:=HC.out (w1.alloc (.cells #[.int .i64 1,.int .i64 3,.slice none 0 0,.slice none 0 0] 33)) (gt_alloc_r hg1 _)
    have kp:∀ b j x,b<w1.heap.size→(w1.alloc (.cells #[.int .i64 1,.int .i64 3,.slice none 0 0,.slice none 0 0] 33)).cell? ⟨b,j,none⟩=some x→wr.cell? ⟨b,j,none⟩=some x:=fun b j x hb h=>u.keep _ _ (by show b<_;omega) (by show b≠_;omega) h
    exact ⟨⟨kp _ _ _ hz2 f0,kp _ _ _ hz2 f1,kp _ _ _ hz2 f2,kp _ _ _ hz2 f3⟩,fun j=>by rw [u.kf _ j (by omega) (by omega)];exact fz j⟩
  have HU:Hid (∀ (wc w6 w7:World) (x:Value) (m:Nat) (xs:List Value),NumB W (w1.alloc (.cells #[.int .i64 1,.int .i64 3,.slice none 0 0,.slice none 0 0] 33)) (w1.heap.size+1) w1.heap.size wc 1 3 x m xs→wc.grownBy w6 none→w6.grownBy w7 x.ownBlock→(w7.cell? ⟨w1.heap.size,0,none⟩=some (.int .i64 1)∧w7.cell? ⟨w1.heap.size,1,none⟩=some (.int .i64 3)∧w7.cell? ⟨w1.heap.size,2,none⟩=some x∧w7.cell? ⟨w1.heap.size,3,none⟩=some (.slice none 0 0))∧w7.frozen? ⟨w1.heap.size,2,none⟩=false∧w1.heap.size<w7.heap.size∧(w7.cell? ⟨W.heap.size+1,0,none⟩=some (.int .i64 0)∧w7.cell? ⟨W.heap.size+1,1,none⟩=some (.int .i64 0)∧w7.cell? ⟨W.heap.size+1,2,none⟩=some (.slice none 0 0)∧w7.cell? ⟨W.heap.size+1,3,none⟩=some (.slice none 0 0))∧(∀ j,w7.frozen? ⟨W.heap.size+1,j,none⟩=false)∧W.heap.size+1<w7.heap.size):=fun wc w6 w7 x m xs i g g'=>by
    have hi:=i.kept g
    have hne:some w1.heap.size≠x.ownBlock:=fun e=>by have:=(hi.own.lt _ e.symm).1;omega
    have hne2:some (W.heap.size+1)≠x.ownBlock:=fun e=>by have:=(hi.own.lt _ e.symm).1;omega
    obtain ⟨⟨a0,a1,a2,a3⟩,af⟩:=HBx.out _ hi.u
    have hb:=hi.u.big
    have hs:=g'.size
    exact ⟨⟨g'.cell hi.o0 hne,g'.cell hi.o1 hne,g'.cell hi.o2 hne,g'.cell hi.o3 hne⟩,by rw [World.frozen?_of_block (g'.block w1.heap.size (by omega) hne)];exact hi.u.of_ 2,by omega,⟨g'.cell a0 hne2,g'.cell a1 hne2,g'.cell a2 hne2,g'.cell a3 hne2⟩,fun j=>by rw [World.frozen?_of_block (g'.block (W.heap.size+1) (by omega) hne2)];exact af j,by omega⟩
  have HCw:Hid (∀ (wc w6 w7:World) (x:Value) (m b:Nat) (xs:List Value),NumB W (w1.alloc (.cells #[.int .i64 1,.int .i64 3,.slice none 0 0,.slice none 0 0] 33)) (w1.heap.size+1) w1.heap.size wc 1 3 x m xs→wc.grownBy w6 none→w6.grownBy w7 x.ownBlock→x.ownBlock≠some b→∀ j v,w6.cell? ⟨b,j,none⟩=some v→w7.cell? ⟨b,j,none⟩=some v):=fun wc w6 w7 x m b xs i g g' h1 j v hv=>g'.cell hv (fun e=>h1 e.symm)
  have HCs:Hid (∀ (w:World) (y v:Value) (b j:Nat) (O:Obj),w1.heap.size<b→w.cell? ⟨b,j,none⟩=some v→((w.setCell ⟨w1.heap.size,2,none⟩ y).alloc O).cell? ⟨b,j,none⟩=some v):=fun w y v b j O hb hv=>(World.grownBy_alloc _ O none).cell (by rw [World.cell?_setCell_other (h:=fun e=>by injection e with e;omega)];exact hv) (by simp)
  go_wp2_with (first
    | (go_at_call 141;refine (PtCo_any _ _ _ _ _ _ _).mono ?_;rintro e w2 ⟨rfl,hg2⟩;have I:=(NumB.new (gt_trans HG.out hg1 (.inl rfl)) 1 3).kept hg2;have HI:=Lib.hid I;have o2:=I.o2;have hz3:w1.heap.size<w2.heap.size:=(by have:=hg2.size;simp at this;omega);have HOHI:Hid ((Value.slice none 0 0).ownBlock≠some w2.heap.size):=(fun e=>by simp [Value.ownBlock] at e);clear I)
    | (at_builtin;go_loud (refine app_cells2 (size:=1) (n:=0) (xs:=[]) (base:=w1.heap.size+1) rfl _ _ _ rfl Tryz.underlying30 (.float .f64 0) 8 infoFlt rfl (Nat.succ_pos 0) rfl rfl (by simp) _ (HI.out.kept (gt_alloc_r (World.grownBy_alloc _ _ _) _)).own rfl (by simp [Value.oneCell']) (Nat.succ_pos 1) (by simp;omega) (by omega) (by omega) ?_;intro ggA capA wA hownA hgA hatA;have GA:=gt_alloc_r (World.grownBy_alloc w2 (.cells #[.float .f64 (f 0),.float .f64 (f 1),.float .f64 (f 2),.float .f64 (f 3),.int .u8 3] 85) none) (.cells #[.float .f64 (f 0),.float .f64 (f 1)] 26);obtain ⟨⟨p0A,p1A,uA,p3A⟩,ufA,hzA,⟨r0A,r1A,r2A,r3A⟩,rfA,rzA⟩:=HU.out _ _ _ _ _ _ HI.out GA hgA;have rf0A:=rfA 0;have rf1A:=rfA 1;have rf2A:=rfA 2;have rf3A:=rfA 3;have cA2:=HCw.out _ _ _ _ _ w2.heap.size _ HI.out GA hgA HOHI.out 2 (.float .f64 (f 2)) (by simp);have cA3:=HCw.out _ _ _ _ _ w2.heap.size _ HI.out GA hgA HOHI.out 3 (.float .f64 (f 3)) (by simp);have cA4:=HCw.out _ _ _ _ _ w2.heap.size _ HI.out GA hgA HOHI.out 4 (.int .u8 3) (by simp);have HFA:=Lib.hid (HI.out.app GA hgA hownA);have hsA:w2.heap.size<wA.heap.size:=(by have h2:=hgA.size;simp at h2;omega);have HOHFA:Hid ((Value.slice (some ⟨ggA,0,none⟩) (0+2) capA).ownBlock≠some w2.heap.size):=(fun e=>by injection e with e;have e2:ggA=w2.heap.size:=e;rcases hatA with h | h;exact HOHI.out (h.trans (congrArg some e2));simp at h;omega);clear hownA hatA))
    | (go_at_call 142;refine (Is3D_lit 3 true (by simp) _).mono ?_;rintro e wx ⟨rfl,rfl⟩)
    | (go_at_call 143;refine (IsMeasured_lit 3 true (by simp) _).mono ?_;rintro e wx ⟨rfl,rfl⟩)
    | (at_builtin;go_loud (refine app_cells2 (size:=1) (n:=0+2) (xs:=[]++[.float .f64 (f 0),.float .f64 (f 1)]) (base:=w1.heap.size+1) rfl _ _ _ rfl Tryz.underlying30 (.float .f64 0) 8 infoFlt rfl (Nat.succ_pos 0) rfl rfl (by simp) _ (HFA.out.kept (World.grownBy_alloc _ _ _)).own rfl (by simp [Value.oneCell']) (Nat.succ_pos 0) (by simp [World.setCell];omega) (by omega) (by omega) ?_;intro ggZ capZ wZ hownZ hgZ hatZ;have GZ:=World.grownBy_alloc (wA.setCell ⟨w1.heap.size,2,none⟩ (.slice (some ⟨ggA,0,none⟩) (0+2) capA)) (.cells #[.float .f64 (f 2)] 26) none;obtain ⟨⟨p0Z,p1Z,uZ,p3Z⟩,ufZ,hzZ,⟨r0Z,r1Z,r2Z,r3Z⟩,rfZ,rzZ⟩:=HU.out _ _ _ _ _ _ HFA.out GZ hgZ;have rf0Z:=rfZ 0;have rf1Z:=rfZ 1;have rf2Z:=rfZ 2;have rf3Z:=rfZ 3;have cZ2:=HCw.out _ _ _ _ _ w2.heap.size _ HFA.out GZ hgZ HOHFA.out 2 (.float .f64 (f 2)) (HCs.out _ _ _ _ 2 _ hz3 cA2);have cZ3:=HCw.out _ _ _ _ _ w2.heap.size _ HFA.out GZ hgZ HOHFA.out 3 (.float .f64 (f 3)) (HCs.out _ _ _ _ 3 _ hz3 cA3);have cZ4:=HCw.out _ _ _ _ _ w2.heap.size _ HFA.out GZ hgZ HOHFA.out 4 (.int .u8 3) (HCs.out _ _ _ _ 4 _ hz3 cA4);have HFZ:=Lib.hid (HFA.out.app GZ hgZ hownZ);have hsZ:w2.heap.size<wZ.heap.size:=(by have h2:=hgZ.size;simp [World.setCell] at h2;omega);have HOHFZ:Hid ((Value.slice (some ⟨ggZ,0,none⟩) (0+2+1) capZ).ownBlock≠some w2.heap.size):=(fun e=>by injection e with e;have e2:ggZ=w2.heap.size:=e;rcases hatZ with h | h;exact HOHFA.out (h.trans (congrArg some e2));simp [World.setCell] at h;omega);clear hownZ hatZ))
    | (at_builtin;go_loud (refine app_cells2 (size:=1) (n:=0+2+1) (xs:=[]++[.float .f64 (f 0),.float .f64 (f 1)]++[.float .f64 (f 2)]) (base:=w1.heap.size+1) rfl _ _ _ rfl Tryz.underlying30 (.float .f64 0) 8 infoFlt rfl (Nat.succ_pos 0) rfl rfl (by simp) _ (HFZ.out.kept (World.grownBy_alloc _ _ _)).own rfl (by simp [Value.oneCell']) (Nat.succ_pos 0) (by simp [World.setCell];omega) (by omega) (by omega) ?_;intro ggM capM wM hownM hgM hatM;have GM:=World.grownBy_alloc (wZ.setCell ⟨w1.heap.size,2,none⟩ (.slice (some ⟨ggZ,0,none⟩) (0+2+1) capZ)) (.cells #[.float .f64 (f 3)] 26) none;obtain ⟨⟨p0M,p1M,uM,p3M⟩,ufM,hzM,⟨r0M,r1M,r2M,r3M⟩,rfM,rzM⟩:=HU.out _ _ _ _ _ _ HFZ.out GM hgM;have rf0M:=rfM 0;have rf1M:=rfM 1;have rf2M:=rfM 2;have rf3M:=rfM 3;have cM2:=HCw.out _ _ _ _ _ w2.heap.size _ HFZ.out GM hgM HOHFZ.out 2 (.float .f64 (f 2)) (HCs.out _ _ _ _ 2 _ hz3 cZ2);have cM3:=HCw.out _ _ _ _ _ w2.heap.size _ HFZ.out GM hgM HOHFZ.out 3 (.float .f64 (f 3)) (HCs.out _ _ _ _ 3 _ hz3 cZ3);have cM4:=HCw.out _ _ _ _ _ w2.heap.size _ HFZ.out GM hgM HOHFZ.out 4 (.int .u8 3) (HCs.out _ _ _ _ 4 _ hz3 cZ4);have HFM:=Lib.hid (HFZ.out.app GM hgM hownM);have hsM:w2.heap.size<wM.heap.size:=(by have h2:=hgM.size;simp [World.setCell] at h2;omega);have HOHFM:Hid ((Value.slice (some ⟨ggM,0,none⟩) (0+2+1+1) capM).ownBlock≠some w2.heap.size):=(fun e=>by injection e with e;have e2:ggM=w2.heap.size:=e;rcases hatM with h | h;exact HOHFZ.out (h.trans (congrArg some e2));simp [World.setCell] at h;omega);clear hownM hatM)))
  obtain ⟨pn,cn,hx,I2⟩:=KidB.of_num (f:=f) (n:=4) (HFM.out.cast rfl rfl) 0 HF0.out
  injection hx with hx1 hx2 hx3
  subst hx1 hx3
  have HE:=Lib.hid (I2.end_ (W.heap.size+1) (by omega) (by omega))
  clear I2
  refine bodyPost_ret (by simp [results,Tryz.results74,go_sem,r0M,r1M,r2M,r3M];try rfl) rfl ?_
  exact ⟨_,rfl,HE.out.1,HE.out.2⟩
end
section
open Go.RowKit
theorem MptNum_any (p:Option Addr) (n c r:Nat) (W:World):Calls Tryz.prog 148 #[.agg #[.slice p n c,.int .u8 r]] W fun e w'=>e=.returned (.int .i64 n)∧W.grownBy w' none:=by
  go_enter Tryz.func148,Tryz.ntmps148
  go_wp2_with fail
  go_ret
  exact ⟨rfl,World.grownBy_alloc _ _ _⟩
theorem MptAt_any (a:Addr) (n c r k:Nat) (x y z m pr:Nat) (pb:Bool) (hk:k<n) (hn:n≤2000) (W:World) (h0:W.cell? (a.add (k*6))=some (.float .f64 x)) (h1:W.cell? ⟨(a.add (k*6)).block,(a.add (k*6)).off+1,none⟩=some (.float .f64 y))
    (h2:W.cell? ⟨(a.add (k*6)).block,(a.add (k*6)).off+2,none⟩=some (.float .f64 z)) (h3:W.cell? ⟨(a.add (k*6)).block,(a.add (k*6)).off+3,none⟩=some (.float .f64 m)) (h4:W.cell? ⟨(a.add (k*6)).block,(a.add (k*6)).off+4,none⟩=some (.int .u8 pr)) (h5:W.cell? ⟨(a.add (k*6)).block,(a.add (k*6)).off+5,none⟩=some (.bool pb)) :
    Calls Tryz.prog 149 #[.agg #[.slice (some a) n c,.int .u8 r],.int .i64 k] W fun e w'=>e=.returned (.agg #[.float .f64 x,.float .f64 y,.float .f64 z,.float .f64 m,.int .u8 pr,.bool pb])∧W.grownBy w' none:=by
  have hb0:a.block<W.heap.size:=by have:=World.block_lt_of_cell? W _ h0;rw [add_block] at this;exact this
  have hb1:a.block<W.heap.size+1:=by omega
  have hb2:a.block<W.heap.size+1+1:=by omega
  have hb3:(a.add (k*6)).block<W.heap.size:=by rw [add_block];omega
  have hb4:(a.add (k*6)).block<W.heap.size+1:=by rw [add_block];omega
  have hb5:(a.add (k*6)).block<W.heap.size+1+1:=by rw [add_block];omega
  have hki:(k:Int)<(n:Int):=by omega
  have hk0:(0:Int)≤(k:Int):=by omega
  have hsf:=run_store_flt Tryz.prog
  go_enter Tryz.func149,Tryz.ntmps149
  go_wp2_with fail
  go_returns
  exact ⟨rfl,gt_alloc_r (World.grownBy_alloc _ _ _) _⟩
theorem plMpt_any (r n c:Nat) (hr:r<4) (hn2:n≤2000) (p:Option Addr) (kids:List Raw) (hn:kids.length=n) (W:World) (hpr:PR W p (kids.map ptR))
    (HP:∀ s ∈ kids,∀ w,Calls Tryz.prog 74 #[(ptR s).v] w fun e w'=>∃ v',e=.returned v'∧KD (Fr w w') 1 w' v' s∧w.grownBy w' none) :
    Calls Tryz.prog 78 #[.agg #[.slice p n c,.int .u8 r]] W fun e w'=>∃ v',e=.returned v'∧KD (Fr W w') 2 w' v' (.mk 4 (r:Nat) 0 (fun _=>0) kids)∧W.grownBy w' none:=by
  have HG:=Lib.hid (gt_alloc_r (World.grownBy_alloc W (.cells #[.slice p n c,.int .u8 r] 101) none) (.cells #[.int .i64 0,.int .i64 0,.slice none 0 0,.slice none 0 0] 33))
  have HC:Hid (∀ w,((W.alloc (.cells #[.slice p n c,.int .u8 r] 101)).alloc (.cells #[.int .i64 0,.int .i64 0,.slice none 0 0,.slice none 0 0] 33)).grownBy w none→(w.cell? ⟨W.heap.size,0,none⟩=some (.slice p n c)∧w.cell? ⟨W.heap.size,1,none⟩=some (.int .u8 r))∧(w.cell? ⟨W.heap.size+1,0,none⟩=some (.int .i64 0)∧w.cell? ⟨W.heap.size+1,1,none⟩=some (.int .i64 0)∧w.cell? ⟨W.heap.size+1,2,none⟩=some (.slice none 0 0)∧w.cell? ⟨W.heap.size+1,3,none⟩=some (.slice none 0 0))∧∀ j,w.frozen? ⟨W.heap.size+1,j,none⟩=false):=fun w g=>by
    have hb:=g.block (W.heap.size+1) (by simp) (by simp)
    refine ⟨⟨g.cell (by simp) (by simp),g.cell (by simp) (by simp)⟩,⟨g.cell (by simp) (by simp),g.cell (by simp) (by simp),g.cell (by simp) (by simp),g.cell (by simp) (by simp)⟩,fun j=>?_⟩
    rw [World.frozen?_of_block hb];simp
  have HK:Hid (∀ w,W.grownBy w none→∀ k,k<n→∃ (a:Addr) (t:Raw) (x y z m er:Nat) (eb:Bool),p=some a∧kids[k]?=some t∧w.cell? (a.add (k*6))=some (.float .f64 x)∧w.cell? ⟨(a.add (k*6)).block,(a.add (k*6)).off+1,none⟩=some (.float .f64 y)∧w.cell? ⟨(a.add (k*6)).block,(a.add (k*6)).off+2,none⟩=some (.float .f64 z)∧w.cell? ⟨(a.add (k*6)).block,(a.add (k*6)).off+3,none⟩=some (.float .f64 m)∧w.cell? ⟨(a.add (k*6)).block,(a.add (k*6)).off+4,none⟩=some (.int .u8 er)∧w.cell? ⟨(a.add (k*6)).block,(a.add (k*6)).off+5,none⟩=some (.bool eb) ∧
      ∀ w',Calls Tryz.prog 74 #[.agg #[.float .f64 x,.float .f64 y,.float .f64 z,.float .f64 m,.int .u8 er,.bool eb]] w' fun e w2=>∃ k6 d6 p6 n6 cap6 q6 m6 cq6,e=.returned (.agg #[.int .i64 k6,.int .i64 d6,.slice p6 n6 cap6,.slice q6 m6 cq6])∧KD (Fr w' w2) 1 w2 (.agg #[.int .i64 k6,.int .i64 d6,.slice p6 n6 cap6,.slice q6 m6 cq6]) t∧w'.grownBy w2 none):=fun w g k hk=>by
    have hpr2:=hpr.mono g
    have hi:kids[k]?=some (kids[k]'(by omega)):=List.getElem?_eq_getElem (by omega)
    obtain ⟨a,ha⟩:=hpr2.some_ (by rw [List.length_map];omega)
    obtain ⟨q0,q1,q2,q3,q4,q5⟩:=hpr2.at_ a ha k (ptR (kids[k]'(by omega))) (by rw [List.getElem?_map,hi];rfl)
    exact ⟨a,_,_,_,_,_,_,_,ha,hi,q0,q1,q2,q3,q4,q5,fun w'=>(HP _ (List.mem_of_getElem? hi) w').mono fun e w2 ⟨v',he,hk,hg⟩=>by
      obtain ⟨k6,d6,n6,f6,kids6,p6,cap6,q6,cq6,_,hv⟩:=hk.form
      exact ⟨k6,d6,p6,n6,cap6,q6,_,cq6,by rw [he,hv],by rw [←hv];exact hk,hg⟩⟩
  have HRl:Hid (∀ j,j≤n→(kids.take j).length=j):=fun j hj=>by rw [List.length_take];omega
  have HRt:Hid (∀ j t,kids[j]?=some t→kids.take (j+1)=kids.take j++[t]):=fun j t h=>by
    obtain ⟨hlt,rfl⟩:=List.getElem?_eq_some_iff.1 h
    rw [List.take_succ_eq_append_getElem hlt]
  have HRe:Hid (kids.take n=kids):=by show kids.take n=kids;rw [←hn,List.take_length]
  have HNm:=Lib.hid (fun w=>MptNum_any p n c r w)
  clear hpr HP hn
  have hsf:=run_store_flt Tryz.prog
  go_enter Tryz.func78,Tryz.ntmps78
  go_wp2_with (first
    | (go_at_call 147;refine (MPCT_any r n c p _).mono ?_;rintro e w1 ⟨rfl,hg1⟩;obtain ⟨⟨k0,k1⟩,_,_⟩:=HC.out _ hg1;have hz1:W.heap.size<w1.heap.size:=(by have:=hg1.size;simp at this;omega);have hz2:W.heap.size+1<w1.heap.size:=(by have:=hg1.size;simp at this;omega)))
  obtain ⟨pn,cn,hx,I0⟩:=KidB.of_num (f:=fun _=>0) (n:=0) (NumB.new (gt_trans HG.out hg1 (.inl rfl)) 4 r) 1 (fun _=>Nat.zero_lt_succ _)
  injection hx with hx1 hx2 hx3
  subst hx1 hx3
  have HI0:=Lib.hid I0
  clear I0
  have HBx:Hid (∀ wr,Und W (w1.alloc (.cells #[.int .i64 4,.int .i64 r,.slice none 0 0,.slice none 0 0] 33)) (w1.heap.size+1) w1.heap.size wr→(wr.cell? ⟨W.heap.size,0,none⟩=some (.slice p n c)∧wr.cell? ⟨W.heap.size,1,none⟩=some (.int .u8 r))∧(wr.cell? ⟨W.heap.size+1,0,none⟩=some (.int .i64 0)∧wr.cell? ⟨W.heap.size+1,1,none⟩=some (.int .i64 0)∧wr.cell? ⟨W.heap.size+1,2,none⟩=some (.slice none 0 0)∧wr.cell? ⟨W.heap.size+1,3,none⟩=some (.slice none 0 0))∧∀ j,wr.frozen? ⟨W.heap.size+1,j,none⟩=false):=fun wr u=>by
    obtain ⟨⟨e0,e1⟩,⟨f0,f1,f2,f3⟩,fz⟩:=HC.out (w1.alloc (.cells #[.int .i64 4,.int .i64 r,.slice none 0 0,.slice none 0 0] 33)) (gt_alloc_r hg1 _)
    have kp:∀ b j x,b<w1.heap.size→(w1.alloc (.cells #[.int .i64 4,.int .i64 r,.slice none 0 0,.slice none 0 0] 33)).cell? ⟨b,j,none⟩=some x→wr.cell? ⟨b,j,none⟩=some x:=fun b j x hb h=>u.keep _ _ (by show b<_;omega) (by show b≠_;omega) h
    exact ⟨⟨kp _ _ _ hz1 e0,kp _ _ _ hz1 e1⟩,⟨kp _ _ _ hz2 f0,kp _ _ _ hz2 f1,kp _ _ _ hz2 f2,kp _ _ _ hz2 f3⟩,fun j=>by rw [u.kf _ j (by omega) (by omega)];exact fz j⟩
  clear HC k0 k1
  go_loopw [4] (fun i wr=>∃ (k:Nat) (y:Value) (cs:List Value),k≤n∧i=.int .i64 k∧KidB W (w1.alloc (.cells #[.int .i64 4,.int .i64 r,.slice none 0 0,.slice none 0 0] 33)) (w1.heap.size+1) w1.heap.size wr 1 4 r none 0 0 (fun _=>0) y (kids.take k) cs) (fun i _=>n - (intOf i).toNat)
  case atStart=>exact ⟨0,_,_,by omega,rfl,by rw [List.take_zero];exact HI0.out⟩
  case round =>
    clear HI0
    obtain ⟨k,y,cs,hk,rfl,I⟩:=hrel
    rename World=>wr
    obtain ⟨⟨k0,k1⟩,⟨r0,r1,r2,r3⟩,rf⟩:=HBx.out _ I.u
    have hll:=HRl.out k hk
    obtain ⟨py,cy,rfl,_⟩:=own_form I.kr.1
    rw [hll] at I
    have hbig:=I.u.big
    have hzA:W.heap.size<wr.heap.size:=by omega
    have hzB:W.heap.size+1<wr.heap.size:=by omega
    have hzC:w1.heap.size<wr.heap.size:=by omega
    by_cases hkn:k<n
    · obtain ⟨a,t,x,yy,z,m,er,eb,rfl,hti,q0,q1,q2,q3,q4,q5,hpp⟩:=HK.out wr I.u.g k hkn
      have HPp:=Lib.hid hpp
      have HRj:=Lib.hid (HRt.out k t hti)
      have HI:=Lib.hid I
      have HAt:=Lib.hid (fun w (g:wr.grownBy w none)=>MptAt_any a n c r k x yy z m er eb hkn hn2 w (g.cell q0 (by simp)) (g.cell q1 (by simp)) (g.cell q2 (by simp)) (g.cell q3 (by simp)) (g.cell q4 (by simp)) (g.cell q5 (by simp)))
      have HOw:Hid (∀ w,wr.grownBy w none→w.ownsRow (w1.heap.size+1) 33 4 (.slice py k cy) k cs):=fun w g=>by
        have hh:=(HI.out.kept g).kr.1
        rw [hll] at hh
        exact hh
      have HS:Hid (∀ w,wr.grownBy w none→w.cell? ⟨W.heap.size,0,none⟩=some (.slice (some a) n c)∧w.cell? ⟨W.heap.size,1,none⟩=some (.int .u8 r)∧w.cell? ⟨w1.heap.size,3,none⟩=some (.slice py k cy)):=fun w g=>⟨g.cell k0 (by simp),g.cell k1 (by simp),(HI.out.kept g).o3⟩
      have HX7:Hid (∀ w6 w7,wr.grownBy w6 none→w6.grownBy w7 (Value.slice py k cy).ownBlock→w7.cell? ⟨w1.heap.size,3,none⟩=some (.slice py k cy)∧w7.frozen? ⟨w1.heap.size,3,none⟩=false):=fun w6 w7 g g'=>by
        have hi:=HI.out.kept g
        have hne:some w1.heap.size≠(Value.slice py k cy).ownBlock:=fun e=>by have:=(hi.kr.1.lt _ e.symm).1;omega
        exact ⟨g'.cell hi.o3 hne,by rw [World.frozen?_of_block (g'.block w1.heap.size (by have:=hi.u.big;omega) hne)];exact hi.u.of_ 3⟩
      have HSn:Hid (∀ (wa wb wc wd:World) (d0 d1 d2 d3:Value) (gg cap:Nat),wr.grownBy wa none→wa.grownBy wb none→wb.grownBy wc none→KD (Fr wa wb) 1 wb (.agg #[d0,d1,d2,d3]) t→wd.ownsRow (w1.heap.size+1) 33 4 (.slice (some ⟨gg,0,none⟩) (k+1) cap) (k+1) (cs++[d0,d1,d2,d3])→wc.grownBy wd (Value.slice py k cy).ownBlock→((Value.slice py k cy).ownBlock=some gg∨gg=wc.heap.size) →
          KidB W (w1.alloc (.cells #[.int .i64 4,.int .i64 r,.slice none 0 0,.slice none 0 0] 33)) (w1.heap.size+1) w1.heap.size (wd.setCell ⟨w1.heap.size,3,none⟩ (.slice (some ⟨gg,0,none⟩) (k+1) cap)) 1 4 r none 0 0 (fun _=>0) (.slice (some ⟨gg,0,none⟩) (k+1) cap) (kids.take k++[t]) (cs++[d0,d1,d2,d3])):=fun wa wb wc wd d0 d1 d2 d3 gg cap g1 g2 g3 hk hown g4 hg=>by
        have hh:=HI.out.snoc g1 g2 g3 hk (gg:=gg) (cap:=cap) (by rw [hll];exact hown) g4 hg
        rw [hll] at hh
        exact hh
      clear I hpp hti
      go_wp2_with (first
        | (go_at_call 148;refine (HNm.out _).mono ?_;rintro e w2 ⟨rfl,hg2⟩;obtain ⟨b0,b1,b3⟩:=HS.out _ hg2;have hzD:w1.heap.size<w2.heap.size:=(by have:=hg2.size;omega)))
      have hgd:=gt_trans hg2 (gt_drew_r (gt_refl w2 none)) (.inl rfl)
      go_region_law (first
        | (rw [if_pos (by simp [Region.wanted])];go_simp;go_at_call 149;(with_reducible refine (HAt.out _ ?_).mono ?_);exact hgd;rintro e w3 ⟨rfl,hg3⟩;have G3:=gt_trans hgd hg3 (.inl rfl);obtain ⟨c0,c1,c3⟩:=HS.out _ G3)
        | (rw [if_pos (by simp [Region.wanted])];go_simp;go_at_call 74;(with_reducible refine (HPp.out _).mono ?_);rintro e w5 ⟨k6,d6,p6,n6,cap6,q6,m6,cq6,rfl,hk5,hg5⟩;have Hk5:=Lib.hid hk5;clear hk5;have G6:=gt_trans G3 hg5 (.inl rfl);obtain ⟨d0,d1,d3⟩:=HS.out _ G6;have hzE:w1.heap.size<w5.heap.size:=(by have:=G6.size;omega))
        | (refine app_cells2_step (size:=4) (n:=k) (xs:=cs) (base:=w1.heap.size+1) rfl _ _ _ rfl Tryz.underlying31 (.agg #[.int .i64 0,.int .i64 0,.slice none 0 0,.slice none 0 0]) 64 infoG rfl (Nat.succ_pos 3) rfl rfl rfl _ (HOw.out _ (gt_alloc_r G6 _)) rfl (one4 _ _ _ _ _ _ _ _) (Nat.succ_pos 0) (by have:=G6.size;simp;omega) (by omega) (by omega) ?_;intro gg cap7 w7 hown7 hg7 hat7;obtain ⟨u3,uf⟩:=HX7.out _ _ (gt_alloc_r G6 _) hg7;have HFin:=Lib.hid (HSn.out _ _ _ _ _ _ _ _ _ _ G3 hg5 (World.grownBy_alloc _ _ _) Hk5.out hown7 hg7 hat7);clear hown7 hg7 hat7))
      all_goals
        go_wp2_with fail
        exact ⟨⟨k+1,_,_,by omega,by go_num,by rw [HRj.out];exact HFin.out⟩,by simp [intOf];omega⟩
    · obtain rfl:k=n:=by omega
      rw [HRe.out] at I
      have HI:=Lib.hid I
      clear I
      go_wp2_with (first
        | (go_at_call 148;refine (HNm.out _).mono ?_;rintro e w2 ⟨rfl,hg2⟩;have I2:=HI.out.kept hg2;have o0:=I2.o0;have o1:=I2.o1;have o2:=I2.o2;have o3:=I2.o3;obtain ⟨_,⟨s0,s1,s2,s3⟩,sf⟩:=HBx.out _ I2.u;have sf0:=sf 0;have sf1:=sf 1;have sf2:=sf 2;have sf3:=sf 3;have HE:=Lib.hid (I2.end_ (W.heap.size+1) (by omega) (by omega));clear I2))
      go_wp2_with fail
      refine bodyPost_ret (by simp [results,Tryz.results78,go_sem,s0,s1,s2,s3];try rfl) rfl ?_
      exact ⟨_,rfl,HE.out.1,HE.out.2⟩
end
section
open Go.RowKit
theorem geoType_any (k:Int) (ty b:Nat) (W:World):Calls Tryz.prog 72 #[.agg #[.int .i64 k,.iface ty (.pointer (some ⟨b,0,none⟩))]] W fun e w'=>e=.returned (.int .i64 k)∧W.grownBy w' none:=by
  go_enter Tryz.func72,Tryz.ntmps72
  go_wp2_with fail
  go_ret
  exact ⟨rfl,World.grownBy_alloc _ _ _⟩
end
section
open Go.RowKit
theorem PlPoint:PC DPoint 74 1:=by
  intro B W v t ⟨ht,hv⟩ hok hB
  subst hv
  obtain ⟨r,n,f,rfl,hr,hn,hf⟩:=ht
  rw [ptR_of hr]
  have hw:=widN_le r hr
  rcases hn with rfl | rfl
  · have e1:ptOf r 0 f=ptE r:=by unfold ptOf;rw [if_pos (Nat.zero_div _)]
    rw [e1]
    exact plPtE r hr (fun _=>0) (fun _=>Nat.zero_lt_succ _) W
  · have e2:ptOf r (widN r) f=⟨plX r f 0,plY r f 0,plZ r f 0,plM r f 0,r,true⟩:=by unfold ptOf;rw [if_neg (by rw [Nat.div_self (by omega)];omega)]
    have e3:dataT (.mk 1 (r:Nat) (widN r) f [])=.mk 1 (r:Nat) (widN r) f []:=by unfold dataT dataTs;rw [if_neg (by omega)]
    rw [e2,e3]
    rcases (by omega:r=0∨r=1∨r=2∨r=3) with rfl | rfl | rfl | rfl
    · exact plPt0 f hf W
    · exact plPt1 f hf W
    · exact plPt2 f hf W
    · exact plPt3 f hf W
theorem plSeq_any (r n:Nat) (hr:r<4) (p:Option Addr) (f:Nat→Nat) (hn:n≤2000) (hm:n % widN r=0) (W:World) (hf:FVal W p n f) :
    Calls Tryz.prog 144 #[.agg #[.int .u8 r,.slice p n n]] W fun e w'=>∃ v',e=.returned v'∧KD (Fr W w') 1 w' v' (.mk 2 (r:Nat) n f [])∧W.grownBy w' none:=by
  rcases (by omega:r=0∨r=1∨r=2∨r=3) with rfl | rfl | rfl | rfl
  · exact plSeq_0 n p f hn hm W hf
  · exact plSeq_1 n p f hn hm W hf
  · exact plSeq_2 n p f hn hm W hf
  · exact plSeq_3 n p f hn hm W hf
theorem LineCo_any (r:Nat) (p:Option Addr) (n c:Nat) (W:World):Calls Tryz.prog 123 #[.agg #[.int .u8 r,.slice p n c]] W fun e w'=>e=.returned (.agg #[.int .u8 r,.slice p n c])∧W.grownBy w' none:=by
  go_enter Tryz.func123,Tryz.ntmps123
  go_wp2_with fail
  go_returns
  exact ⟨rfl,gt_alloc_r (World.grownBy_alloc _ _ _) _⟩
theorem FVal.anyf {W:World} {p:Option Addr} {n:Nat} {f g:Nat→Nat} (h:FVal W p n f) (he:∀ i,i<n→f i=g i) (hg:∀ i,g i<18446744073709551616):FVal W p n g :=
  ⟨h.some_,fun a ha i hi=>by rw [←he i hi];exact h.at_ a ha i hi,hg⟩
theorem PlLine:PC DLine 76 1:=by
  intro B W v t hd hok hB
  obtain ⟨r,n,f,p,rfl,hr,hm,rfl,hf,hb⟩:=hd
  have hn:n≤2000:=by unfold okT at hok;exact hok.1
  obtain ⟨f2,hf2,hff⟩ : ∃ f2,dataT (.mk 2 (r:Nat) n f [])=.mk 2 (r:Nat) n f2 []∧∀ w,W.grownBy w none→FVal w p n f2:=by
    unfold dataT dataTs
    by_cases h0:n=0
    · rw [if_pos h0]
      exact ⟨_,rfl,fun w g=>(hf.mono g).anyf (fun i hi=>by omega) (fun _=>Nat.zero_lt_succ _)⟩
    · rw [if_neg h0]
      exact ⟨_,rfl,fun w g=>hf.mono g⟩
  rw [hf2]
  have HS:Hid (∀ w,W.grownBy w none→Calls Tryz.prog 144 #[.agg #[.int .u8 r,.slice p n n]] w fun e w'=>∃ k6 d6 p6 n6 cap6 q6 m6 cq6,e=.returned (.agg #[.int .i64 k6,.int .i64 d6,.slice p6 n6 cap6,.slice q6 m6 cq6])∧KD (Fr w w') 1 w' (.agg #[.int .i64 k6,.int .i64 d6,.slice p6 n6 cap6,.slice q6 m6 cq6]) (.mk 2 (r:Nat) n f2 [])∧w.grownBy w' none):=fun w g=>(plSeq_any r n hr p f2 hn hm w (hff w g)).mono fun e w' ⟨v',he,hk,hg⟩=>by
    obtain ⟨k6,d6,n6,f6,kids6,p6,cap6,q6,cq6,_,hv⟩:=hk.form
    exact ⟨k6,d6,p6,n6,cap6,q6,_,cq6,by rw [he,hv],by rw [←hv];exact hk,hg⟩
  have HG:=Lib.hid (gt_alloc_r (World.grownBy_alloc W (.cells #[.int .u8 r,.slice p n n] 93) none) (.cells #[.int .i64 0,.int .i64 0,.slice none 0 0,.slice none 0 0] 33))
  have HC:Hid (∀ w,((W.alloc (.cells #[.int .u8 r,.slice p n n] 93)).alloc (.cells #[.int .i64 0,.int .i64 0,.slice none 0 0,.slice none 0 0] 33)).grownBy w none→(w.cell? ⟨W.heap.size+1,0,none⟩=some (.int .i64 0)∧w.cell? ⟨W.heap.size+1,1,none⟩=some (.int .i64 0)∧w.cell? ⟨W.heap.size+1,2,none⟩=some (.slice none 0 0)∧w.cell? ⟨W.heap.size+1,3,none⟩=some (.slice none 0 0))∧∀ j,w.frozen? ⟨W.heap.size+1,j,none⟩=false):=fun w g=>by
    have hb:=g.block (W.heap.size+1) (by simp) (by simp)
    refine ⟨⟨g.cell (by simp) (by simp),g.cell (by simp) (by simp),g.cell (by simp) (by simp),g.cell (by simp) (by simp)⟩,fun j=>?_⟩
    rw [World.frozen?_of_block hb];simp
  have HL:=Lib.hid (fun w=>LineCo_any r p n n w)
  clear hf hff hok hB hb hf2 hm hn
  go_enter Tryz.func76,Tryz.ntmps76
  go_wp2_with (first
    | (go_at_call 123;refine (HL.out _).mono ?_;rintro e w2 ⟨rfl,G2⟩)
    | (go_at_call 144;refine (HS.out _ (gt_trans HG.out G2 (.inl rfl))).mono ?_;rintro e w3 ⟨k6,d6,p6,n6,cap6,q6,m6,cq6,rfl,hk,hg3⟩;have Hk:=Lib.hid hk;clear hk;have G3:=gt_trans G2 hg3 (.inl rfl);obtain ⟨⟨r0,r1,r2,r3⟩,rf⟩:=HC.out _ G3;have rf0:=rf 0;have rf1:=rf 1;have rf2:=rf 2;have rf3:=rf 3))
  have hs2:W.heap.size+2≤w2.heap.size:=by have:=G2.size;simp at this;omega
  refine bodyPost_ret (by simp [results,Tryz.results76,go_sem,r0,r1,r2,r3];try rfl) rfl ?_
  have ks:∀ (w:World) (j:Nat) (y:Value),Kept (Fr w2 w3) w (w.setCell ⟨W.heap.size+1,j,none⟩ y):=fun w j y=>.set (fun hB=>by have h2:w2.heap.size≤W.heap.size+1:=hB.1;omega) y
  have gs:∀ (w:World) (j:Nat) (y:Value),W.grownBy w none→W.grownBy (w.setCell ⟨W.heap.size+1,j,none⟩ y) none:=fun w j y g=>gt_set_r g _ _ (Nat.le_succ _)
  refine ⟨_,rfl,((((Hk.out.keep (ks _ _ _)).keep (ks _ _ _)).keep (ks _ _ _)).keep (ks _ _ _)).weak fun b hb=>⟨by have:=hb.1;omega,by simp [World.setCell];exact hb.2⟩,gs _ _ _ (gs _ _ _ (gs _ _ _ (gs _ _ _ (gt_trans HG.out G3 (.inl rfl)))))⟩
end
section
open Go.RowKit
structure LF (V W w:World) (rb:Nat) (l:List UInt8) (any bad great:Bool) (p:Option Addr) (m:Nat) (f:Nat→Nat):Prop where
  s:RW V W w rb l any bad great
  f:FVal w p m f
section
variable {V W w:World} {rb:Nat} {l:List UInt8} {any bad great:Bool} {p:Option Addr} {m:Nat} {f:Nat→Nat}
theorem LF.put (h:LF V W w rb l any bad great p m f) (q:Addr) (y:Value) (hV:V.heap.size≤W.heap.size) (hq:W.heap.size≤q.block) (hp:∀ a,p=some a→a.block≠q.block):LF V W (w.setCell q y) rb l any bad great p m f :=
  ⟨h.s.put q y hV hq,h.f.keep (B:=fun b=>b≠q.block) (.set (fun hb=>hb rfl) y) hp⟩
theorem LF.fail (h:LF V W w rb l any bad great p m f) (hp:∀ a,p=some a→a.block≠rb):LF V W (w.setCell ⟨rb,2,none⟩ (.bool true)) rb l any true great p m f :=
  ⟨h.s.fail,h.f.keep (B:=fun b=>b≠rb) (.set (fun hb=>hb rfl) _) hp⟩
theorem LF.drew (h:LF V W w rb l any bad great p m f):LF V W w.drew rb l any bad great p m f :=
  ⟨h.s.kept (gt_drew_r (gt_refl w none)),h.f.mono (gt_drew_r (gt_refl w none))⟩
theorem LF.ok (h:LF V W w rb l any false false p m f) (hh:Nat) (k d:Int) (c len:Nat) (t0:Raw) (h1:m≤c) (h2:c≤maxLen) (h3:p=none→c=0) (hb:∀ a,p=some a→W.heap.size≤a.block∧a.block<w.heap.size) (ht:t0=.mk k d m f []):GPost (hh+1) V W rb any (.ok t0 l) len (.returned (.agg #[.int .i64 k,.int .i64 d,.slice p m c,.slice none 0 0])) w :=
  ⟨h.s.g,_,t0,rfl,by rw [ht];exact ⟨p,c,none,0,rfl,h.f,h1,h2,h3,Nat.le_refl _,by decide,fun _=>rfl,(fun a ha=>by cases ha),hb,fun a ha=>by cases ha⟩,rfl,h.s.r⟩
theorem LF.no (h:LF V W w rb l any true great p m f) (hh:Nat) (k d:Int) (c len:Nat) (h1:m≤c) (h2:c≤maxLen) (h3:p=none→c=0) (hb:∀ a,p=some a→W.heap.size≤a.block∧a.block<w.heap.size) (hl:4*m≤len):GPost (hh+1) V W rb any (.bad great) len (.returned (.agg #[.int .i64 k,.int .i64 d,.slice p m c,.slice none 0 0])) w :=
  ⟨h.s.g,_,.mk k d m f [],rfl,⟨p,c,none,0,rfl,h.f,h1,h2,h3,Nat.le_refl _,by decide,fun _=>rfl,(fun a ha=>by cases ha),hb,fun a ha=>by cases ha⟩,by unfold wt wts;omega,l,h.s.r⟩
end
end
end Go.Proofs.YtlpaecafpbbbkaaGreatDoor
