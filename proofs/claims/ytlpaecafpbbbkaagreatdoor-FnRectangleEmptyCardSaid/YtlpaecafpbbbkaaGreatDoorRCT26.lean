/- Points of the package with more than X and Y as plain data. Points and lines of the package as plain data. Any geometry of the package as plain data. GeomOf of shapes of any depth. SameNums, SameGeom of equal data: they answer true. The laws' own words for shapes: formed, size, figure. The figure of a shape; points and several points are small and simple. -/
import Derived.Deep.RegionHeld3
import Derived.Deep.RegionLaw
import Derived.Test.YtlpaecafpbbbkaaGreatDoorRCT1
import Derived.Test.YtlpaecafpbbbkaaGreatDoorRCT6
import Derived.Test.YtlpaecafpbbbkaaGreatDoorRCT20
import Derived.Test.YtlpaecafpbbbkaaGreatDoorRCT22
import Derived.Test.YtlpaecafpbbbkaaGreatDoorRCT23
import Derived.Test.YtlpaecafpbbbkaaGreatDoorRCT24
import Derived.Test.YtlpaecafpbbbkaaGreatDoorRCT25
set_option linter.unusedVariables false
set_option linter.unusedSimpArgs false
set_option maxRecDepth 100000
set_option maxHeartbeats 24000000
namespace Go.Proofs.YtlpaecafpbbbkaaGreatDoor
section
open Go.RowKit
theorem plPt1 (f:Nat→Nat) (hf:∀ i,f i<18446744073709551616) (W:World):Calls Tryz.prog 74 #[.agg #[.float .f64 (f 0),.float .f64 (f 1),.float .f64 (f 2),.float .f64 0,.int .u8 1,.bool true]] W fun e w'=>∃ v',e=.returned v'∧KD (Fr W w') 1 w' v' (.mk 1 (1:Nat) 3 f [])∧W.grownBy w' none:=by
  have HG:=Lib.hid (gt_alloc_r (World.grownBy_alloc W (.cells #[.float .f64 (f 0),.float .f64 (f 1),.float .f64 (f 2),.float .f64 0,.int .u8 1,.bool true] 87) none) (.cells #[.int .i64 0,.int .i64 0,.slice none 0 0,.slice none 0 0] 33))
  have HC:Hid (∀ w,((W.alloc (.cells #[.float .f64 (f 0),.float .f64 (f 1),.float .f64 (f 2),.float .f64 0,.int .u8 1,.bool true] 87)).alloc (.cells #[.int .i64 0,.int .i64 0,.slice none 0 0,.slice none 0 0] 33)).grownBy w none→(w.cell? ⟨W.heap.size,0,none⟩=some (.float .f64 (f 0))∧w.cell? ⟨W.heap.size,1,none⟩=some (.float .f64 (f 1))∧w.cell? ⟨W.heap.size,2,none⟩=some (.float .f64 (f 2))∧w.cell? ⟨W.heap.size,3,none⟩=some (.float .f64 0)∧w.cell? ⟨W.heap.size,4,none⟩=some (.int .u8 1)∧w.cell? ⟨W.heap.size,5,none⟩=some (.bool true))∧(w.cell? ⟨W.heap.size+1,0,none⟩=some (.int .i64 0)∧w.cell? ⟨W.heap.size+1,1,none⟩=some (.int .i64 0)∧w.cell? ⟨W.heap.size+1,2,none⟩=some (.slice none 0 0)∧w.cell? ⟨W.heap.size+1,3,none⟩=some (.slice none 0 0))∧∀ j,w.frozen? ⟨W.heap.size+1,j,none⟩=false):=fun w g=>by
    have hb:=g.block (W.heap.size+1) (by simp) (by simp)
    refine ⟨⟨g.cell (by simp) (by simp),g.cell (by simp) (by simp),g.cell (by simp) (by simp),g.cell (by simp) (by simp),g.cell (by simp) (by simp),g.cell (by simp) (by simp)⟩,⟨g.cell (by simp) (by simp),g.cell (by simp) (by simp),g.cell (by simp) (by simp),g.cell (by simp) (by simp)⟩,fun j=>?_⟩
    rw [World.frozen?_of_block hb];simp
  have hsf:=run_store_flt Tryz.prog
  have HF0:=Lib.hid hf
  clear hf
  go_enter Tryz.func74,Tryz.ntmps74
  go_wp2_with (first
    | (go_at_call 140;refine (PtCT_any _ _ _ _ _ _ _).mono ?_;rintro e w1 ⟨rfl,hg1⟩;obtain ⟨⟨k0,k1,k2,k3,k4,k5⟩,_,_⟩:=HC.out _ hg1;have hz1:W.heap.size<w1.heap.size:=(by have:=hg1.size;simp at this;omega);have hz2:W.heap.size+1<w1.heap.size:=(by have:=hg1.size;simp at this;omega)))
  have HBx:Hid (∀ wr,Und W (w1.alloc (.cells #[.int .i64 1,.int .i64 1,.slice none 0 0,.slice none 0 0] 33)) (w1.heap.size+1) w1.heap.size wr→(wr.cell? ⟨W.heap.size+1,0,none⟩=some (.int .i64 0)∧wr.cell? ⟨W.heap.size+1,1,none⟩=some (.int .i64 0)∧wr.cell? ⟨W.heap.size+1,2,none⟩=some (.slice none 0 0)∧wr.cell? ⟨W.heap.size+1,3,none⟩=some (.slice none 0 0))∧∀ j,wr.frozen? ⟨W.heap.size+1,j,none⟩=false):=fun wr u=>by
    obtain ⟨_,⟨f0,f1,f2,f3⟩,fz⟩:=HC.out (w1.alloc (.cells #[.int .i64 1,.int .i64 1,.slice none 0 0,.slice none 0 0] 33)) (gt_alloc_r hg1 _)
    have kp:∀ b j x,b<w1.heap.size→(w1.alloc (.cells #[.int .i64 1,.int .i64 1,.slice none 0 0,.slice none 0 0] 33)).cell? ⟨b,j,none⟩=some x→wr.cell? ⟨b,j,none⟩=some x:=fun b j x hb h=>u.keep _ _ (by show b<_;omega) (by show b≠_;omega) h
    exact ⟨⟨kp _ _ _ hz2 f0,kp _ _ _ hz2 f1,kp _ _ _ hz2 f2,kp _ _ _ hz2 f3⟩,fun j=>by rw [u.kf _ j (by omega) (by omega)];exact fz j⟩
  have HU:Hid (∀ (wc w6 w7:World) (x:Value) (m:Nat) (xs:List Value),NumB W (w1.alloc (.cells #[.int .i64 1,.int .i64 1,.slice none 0 0,.slice none 0 0] 33)) (w1.heap.size+1) w1.heap.size wc 1 1 x m xs→wc.grownBy w6 none→w6.grownBy w7 x.ownBlock→(w7.cell? ⟨w1.heap.size,0,none⟩=some (.int .i64 1)∧w7.cell? ⟨w1.heap.size,1,none⟩=some (.int .i64 1)∧w7.cell? ⟨w1.heap.size,2,none⟩=some x∧w7.cell? ⟨w1.heap.size,3,none⟩=some (.slice none 0 0))∧w7.frozen? ⟨w1.heap.size,2,none⟩=false∧w1.heap.size<w7.heap.size∧(w7.cell? ⟨W.heap.size+1,0,none⟩=some (.int .i64 0)∧w7.cell? ⟨W.heap.size+1,1,none⟩=some (.int .i64 0)∧w7.cell? ⟨W.heap.size+1,2,none⟩=some (.slice none 0 0)∧w7.cell? ⟨W.heap.size+1,3,none⟩=some (.slice none 0 0))∧(∀ j,w7.frozen? ⟨W.heap.size+1,j,none⟩=false)∧W.heap.size+1<w7.heap.size):=fun wc w6 w7 x m xs i g g'=>by
    have hi:=i.kept g
    have hne:some w1.heap.size≠x.ownBlock:=fun e=>by have:=(hi.own.lt _ e.symm).1;omega
    have hne2:some (W.heap.size+1)≠x.ownBlock:=fun e=>by have:=(hi.own.lt _ e.symm).1;omega
    obtain ⟨⟨a0,a1,a2,a3⟩,af⟩:=HBx.out _ hi.u
    have hb:=hi.u.big
    have hs:=g'.size
    exact ⟨⟨g'.cell hi.o0 hne,g'.cell hi.o1 hne,g'.cell hi.o2 hne,g'.cell hi.o3 hne⟩,by rw [World.frozen?_of_block (g'.block w1.heap.size (by omega) hne)];exact hi.u.of_ 2,by omega,⟨g'.cell a0 hne2,g'.cell a1 hne2,g'.cell a2 hne2,g'.cell a3 hne2⟩,fun j=>by rw [World.frozen?_of_block (g'.block (W.heap.size+1) (by omega) hne2)];exact af j,by omega⟩
  have HCw:Hid (∀ (wc w6 w7:World) (x:Value) (m b:Nat) (xs:List Value),NumB W (w1.alloc (.cells #[.int .i64 1,.int .i64 1,.slice none 0 0,.slice none 0 0] 33)) (w1.heap.size+1) w1.heap.size wc 1 1 x m xs→wc.grownBy w6 none→w6.grownBy w7 x.ownBlock→x.ownBlock≠some b→∀ j v,w6.cell? ⟨b,j,none⟩=some v→w7.cell? ⟨b,j,none⟩=some v):=fun wc w6 w7 x m b xs i g g' h1 j v hv=>g'.cell hv (fun e=>h1 e.symm)
  have HCs:Hid (∀ (w:World) (y v:Value) (b j:Nat) (O:Obj),w1.heap.size<b→w.cell? ⟨b,j,none⟩=some v→((w.setCell ⟨w1.heap.size,2,none⟩ y).alloc O).cell? ⟨b,j,none⟩=some v):=fun w y v b j O hb hv=>(World.grownBy_alloc _ O none).cell (by rw [World.cell?_setCell_other (h:=fun e=>by injection e with e;omega)];exact hv) (by simp)
  go_wp2_with (first
    | (go_at_call 141;refine (PtCo_any _ _ _ _ _ _ _).mono ?_;rintro e w2 ⟨rfl,hg2⟩;have I:=(NumB.new (gt_trans HG.out hg1 (.inl rfl)) 1 1).kept hg2;have HI:=Lib.hid I;have o2:=I.o2;have hz3:w1.heap.size<w2.heap.size:=(by have:=hg2.size;simp at this;omega);have HOHI:Hid ((Value.slice none 0 0).ownBlock≠some w2.heap.size):=(fun e=>by simp [Value.ownBlock] at e);clear I)
    | (at_builtin;go_loud (refine app_cells2 (size:=1) (n:=0) (xs:=[]) (base:=w1.heap.size+1) rfl _ _ _ rfl Tryz.underlying30 (.float .f64 0) 8 infoFlt rfl (Nat.succ_pos 0) rfl rfl (by simp) _ (HI.out.kept (gt_alloc_r (World.grownBy_alloc _ _ _) _)).own rfl (by simp [Value.oneCell']) (Nat.succ_pos 1) (by simp;omega) (by omega) (by omega) ?_;intro ggA capA wA hownA hgA hatA;have GA:=gt_alloc_r (World.grownBy_alloc w2 (.cells #[.float .f64 (f 0),.float .f64 (f 1),.float .f64 (f 2),.float .f64 0,.int .u8 1] 85) none) (.cells #[.float .f64 (f 0),.float .f64 (f 1)] 26);obtain ⟨⟨p0A,p1A,uA,p3A⟩,ufA,hzA,⟨r0A,r1A,r2A,r3A⟩,rfA,rzA⟩:=HU.out _ _ _ _ _ _ HI.out GA hgA;have rf0A:=rfA 0;have rf1A:=rfA 1;have rf2A:=rfA 2;have rf3A:=rfA 3;have cA2:=HCw.out _ _ _ _ _ w2.heap.size _ HI.out GA hgA HOHI.out 2 (.float .f64 (f 2)) (by simp);have cA3:=HCw.out _ _ _ _ _ w2.heap.size _ HI.out GA hgA HOHI.out 3 (.float .f64 0) (by simp);have cA4:=HCw.out _ _ _ _ _ w2.heap.size _ HI.out GA hgA HOHI.out 4 (.int .u8 1) (by simp);have HFA:=Lib.hid (HI.out.app GA hgA hownA);have hsA:w2.heap.size<wA.heap.size:=(by have h2:=hgA.size;simp at h2;omega);have HOHFA:Hid ((Value.slice (some ⟨ggA,0,none⟩) (0+2) capA).ownBlock≠some w2.heap.size):=(fun e=>by injection e with e;have e2:ggA=w2.heap.size:=e;rcases hatA with h | h;exact HOHI.out (h.trans (congrArg some e2));simp at h;omega);clear hownA hatA))
    | (go_at_call 142;refine (Is3D_lit 1 true (by simp) _).mono ?_;rintro e wx ⟨rfl,rfl⟩)
    | (go_at_call 143;refine (IsMeasured_lit 1 false (by simp) _).mono ?_;rintro e wx ⟨rfl,rfl⟩)
    | (at_builtin;go_loud (refine app_cells2 (size:=1) (n:=0+2) (xs:=[]++[.float .f64 (f 0),.float .f64 (f 1)]) (base:=w1.heap.size+1) rfl _ _ _ rfl Tryz.underlying30 (.float .f64 0) 8 infoFlt rfl (Nat.succ_pos 0) rfl rfl (by simp) _ (HFA.out.kept (World.grownBy_alloc _ _ _)).own rfl (by simp [Value.oneCell']) (Nat.succ_pos 0) (by simp [World.setCell];omega) (by omega) (by omega) ?_;intro ggZ capZ wZ hownZ hgZ hatZ;have GZ:=World.grownBy_alloc (wA.setCell ⟨w1.heap.size,2,none⟩ (.slice (some ⟨ggA,0,none⟩) (0+2) capA)) (.cells #[.float .f64 (f 2)] 26) none;obtain ⟨⟨p0Z,p1Z,uZ,p3Z⟩,ufZ,hzZ,⟨r0Z,r1Z,r2Z,r3Z⟩,rfZ,rzZ⟩:=HU.out _ _ _ _ _ _ HFA.out GZ hgZ;have rf0Z:=rfZ 0;have rf1Z:=rfZ 1;have rf2Z:=rfZ 2;have rf3Z:=rfZ 3;have cZ2:=HCw.out _ _ _ _ _ w2.heap.size _ HFA.out GZ hgZ HOHFA.out 2 (.float .f64 (f 2)) (HCs.out _ _ _ _ 2 _ hz3 cA2);have cZ3:=HCw.out _ _ _ _ _ w2.heap.size _ HFA.out GZ hgZ HOHFA.out 3 (.float .f64 0) (HCs.out _ _ _ _ 3 _ hz3 cA3);have cZ4:=HCw.out _ _ _ _ _ w2.heap.size _ HFA.out GZ hgZ HOHFA.out 4 (.int .u8 1) (HCs.out _ _ _ _ 4 _ hz3 cA4);have HFZ:=Lib.hid (HFA.out.app GZ hgZ hownZ);have hsZ:w2.heap.size<wZ.heap.size:=(by have h2:=hgZ.size;simp [World.setCell] at h2;omega);have HOHFZ:Hid ((Value.slice (some ⟨ggZ,0,none⟩) (0+2+1) capZ).ownBlock≠some w2.heap.size):=(fun e=>by injection e with e;have e2:ggZ=w2.heap.size:=e;rcases hatZ with h | h;exact HOHFA.out (h.trans (congrArg some e2));simp [World.setCell] at h;omega);clear hownZ hatZ)))
  obtain ⟨pn,cn,hx,I2⟩:=KidB.of_num (f:=f) (n:=3) (HFZ.out.cast rfl rfl) 0 HF0.out
  injection hx with hx1 hx2 hx3
  subst hx1 hx3
  have HE:=Lib.hid (I2.end_ (W.heap.size+1) (by omega) (by omega))
  clear I2
  refine bodyPost_ret (by simp [results,Tryz.results74,go_sem,r0Z,r1Z,r2Z,r3Z];try rfl) rfl ?_
  exact ⟨_,rfl,HE.out.1,HE.out.2⟩
theorem plPt2 (f:Nat→Nat) (hf:∀ i,f i<18446744073709551616) (W:World):Calls Tryz.prog 74 #[.agg #[.float .f64 (f 0),.float .f64 (f 1),.float .f64 0,.float .f64 (f 2),.int .u8 2,.bool true]] W fun e w'=>∃ v',e=.returned v'∧KD (Fr W w') 1 w' v' (.mk 1 (2:Nat) 3 f [])∧W.grownBy w' none:=by
  have HG:=Lib.hid (gt_alloc_r (World.grownBy_alloc W (.cells #[.float .f64 (f 0),.float .f64 (f 1),.float .f64 0,.float .f64 (f 2),.int .u8 2,.bool true] 87) none) (.cells #[.int .i64 0,.int .i64 0,.slice none 0 0,.slice none 0 0] 33))
  have HC:Hid (∀ w,((W.alloc (.cells #[.float .f64 (f 0),.float .f64 (f 1),.float .f64 0,.float .f64 (f 2),.int .u8 2,.bool true] 87)).alloc (.cells #[.int .i64 0,.int .i64 0,.slice none 0 0,.slice none 0 0] 33)).grownBy w none→(w.cell? ⟨W.heap.size,0,none⟩=some (.float .f64 (f 0))∧w.cell? ⟨W.heap.size,1,none⟩=some (.float .f64 (f 1))∧w.cell? ⟨W.heap.size,2,none⟩=some (.float .f64 0)∧w.cell? ⟨W.heap.size,3,none⟩=some (.float .f64 (f 2))∧w.cell? ⟨W.heap.size,4,none⟩=some (.int .u8 2)∧w.cell? ⟨W.heap.size,5,none⟩=some (.bool true))∧(w.cell? ⟨W.heap.size+1,0,none⟩=some (.int .i64 0)∧w.cell? ⟨W.heap.size+1,1,none⟩=some (.int .i64 0)∧w.cell? ⟨W.heap.size+1,2,none⟩=some (.slice none 0 0)∧w.cell? ⟨W.heap.size+1,3,none⟩=some (.slice none 0 0))∧∀ j,w.frozen? ⟨W.heap.size+1,j,none⟩=false):=fun w g=>by
    have hb:=g.block (W.heap.size+1) (by simp) (by simp)
    refine ⟨⟨g.cell (by simp) (by simp),g.cell (by simp) (by simp),g.cell (by simp) (by simp),g.cell (by simp) (by simp),g.cell (by simp) (by simp),g.cell (by simp) (by simp)⟩,⟨g.cell (by simp) (by simp),g.cell (by simp) (by simp),g.cell (by simp) (by simp),g.cell (by simp) (by simp)⟩,fun j=>?_⟩
    rw [World.frozen?_of_block hb];simp
  have hsf:=run_store_flt Tryz.prog
  have HF0:=Lib.hid hf
  clear hf
  go_enter Tryz.func74,Tryz.ntmps74
  go_wp2_with (first
    | (go_at_call 140;refine (PtCT_any _ _ _ _ _ _ _).mono ?_;rintro e w1 ⟨rfl,hg1⟩;obtain ⟨⟨k0,k1,k2,k3,k4,k5⟩,_,_⟩:=HC.out _ hg1;have hz1:W.heap.size<w1.heap.size:=(by have:=hg1.size;simp at this;omega);have hz2:W.heap.size+1<w1.heap.size:=(by have:=hg1.size;simp at this;omega)))
  have HBx:Hid (∀ wr,Und W (w1.alloc (.cells #[.int .i64 1,.int .i64 2,.slice none 0 0,.slice none 0 0] 33)) (w1.heap.size+1) w1.heap.size wr→(wr.cell? ⟨W.heap.size+1,0,none⟩=some (.int .i64 0)∧wr.cell? ⟨W.heap.size+1,1,none⟩=some (.int .i64 0)∧wr.cell? ⟨W.heap.size+1,2,none⟩=some (.slice none 0 0)∧wr.cell? ⟨W.heap.size+1,3,none⟩=some (.slice none 0 0))∧∀ j,wr.frozen? ⟨W.heap.size+1,j,none⟩=false):=fun wr u=>by
    obtain ⟨_,⟨f0,f1,f2,f3⟩,fz⟩:=HC.out (w1.alloc (.cells #[.int .i64 1,.int .i64 2,.slice none 0 0,.slice none 0 0] 33)) (gt_alloc_r hg1 _)
    have kp:∀ b j x,b<w1.heap.size→(w1.alloc (.cells #[.int .i64 1,.int .i64 2,.slice none 0 0,.slice none 0 0] 33)).cell? ⟨b,j,none⟩=some x→wr.cell? ⟨b,j,none⟩=some x:=fun b j x hb h=>u.keep _ _ (by show b<_;omega) (by show b≠_;omega) h
    exact ⟨⟨kp _ _ _ hz2 f0,kp _ _ _ hz2 f1,kp _ _ _ hz2 f2,kp _ _ _ hz2 f3⟩,fun j=>by rw [u.kf _ j (by omega) (by omega)];exact fz j⟩
  have HU:Hid (∀ (wc w6 w7:World) (x:Value) (m:Nat) (xs:List Value),NumB W (w1.alloc (.cells #[.int .i64 1,.int .i64 2,.slice none 0 0,.slice none 0 0] 33)) (w1.heap.size+1) w1.heap.size wc 1 2 x m xs→wc.grownBy w6 none→w6.grownBy w7 x.ownBlock→(w7.cell? ⟨w1.heap.size,0,none⟩=some (.int .i64 1)∧w7.cell? ⟨w1.heap.size,1,none⟩=some (.int .i64 2)∧w7.cell? ⟨w1.heap.size,2,none⟩=some x∧w7.cell? ⟨w1.heap.size,3,none⟩=some (.slice none 0 0))∧w7.frozen? ⟨w1.heap.size,2,none⟩=false∧w1.heap.size<w7.heap.size∧(w7.cell? ⟨W.heap.size+1,0,none⟩=some (.int .i64 0)∧w7.cell? ⟨W.heap.size+1,1,none⟩=some (.int .i64 0)∧w7.cell? ⟨W.heap.size+1,2,none⟩=some (.slice none 0 0)∧w7.cell? ⟨W.heap.size+1,3,none⟩=some (.slice none 0 0))∧(∀ j,w7.frozen? ⟨W.heap.size+1,j,none⟩=false)∧W.heap.size+1<w7.heap.size):=fun wc w6 w7 x m xs i g g'=>by
    have hi:=i.kept g
    have hne:some w1.heap.size≠x.ownBlock:=fun e=>by have:=(hi.own.lt _ e.symm).1;omega
    have hne2:some (W.heap.size+1)≠x.ownBlock:=fun e=>by have:=(hi.own.lt _ e.symm).1;omega
    obtain ⟨⟨a0,a1,a2,a3⟩,af⟩:=HBx.out _ hi.u
    have hb:=hi.u.big
    have hs:=g'.size
    exact ⟨⟨g'.cell hi.o0 hne,g'.cell hi.o1 hne,g'.cell hi.o2 hne,g'.cell hi.o3 hne⟩,by rw [World.frozen?_of_block (g'.block w1.heap.size (by omega) hne)];exact hi.u.of_ 2,by omega,⟨g'.cell a0 hne2,g'.cell a1 hne2,g'.cell a2 hne2,g'.cell a3 hne2⟩,fun j=>by rw [World.frozen?_of_block (g'.block (W.heap.size+1) (by omega) hne2)];exact af j,by omega⟩
  have HCw:Hid (∀ (wc w6 w7:World) (x:Value) (m b:Nat) (xs:List Value),NumB W (w1.alloc (.cells #[.int .i64 1,.int .i64 2,.slice none 0 0,.slice none 0 0] 33)) (w1.heap.size+1) w1.heap.size wc 1 2 x m xs→wc.grownBy w6 none→w6.grownBy w7 x.ownBlock→x.ownBlock≠some b→∀ j v,w6.cell? ⟨b,j,none⟩=some v→w7.cell? ⟨b,j,none⟩=some v):=fun wc w6 w7 x m b xs i g g' h1 j v hv=>g'.cell hv (fun e=>h1 e.symm)
  have HCs:Hid (∀ (w:World) (y v:Value) (b j:Nat) (O:Obj),w1.heap.size<b→w.cell? ⟨b,j,none⟩=some v→((w.setCell ⟨w1.heap.size,2,none⟩ y).alloc O).cell? ⟨b,j,none⟩=some v):=fun w y v b j O hb hv=>(World.grownBy_alloc _ O none).cell (by rw [World.cell?_setCell_other (h:=fun e=>by injection e with e;omega)];exact hv) (by simp)
  go_wp2_with (first
    | (go_at_call 141;refine (PtCo_any _ _ _ _ _ _ _).mono ?_;rintro e w2 ⟨rfl,hg2⟩;have I:=(NumB.new (gt_trans HG.out hg1 (.inl rfl)) 1 2).kept hg2;have HI:=Lib.hid I;have o2:=I.o2;have hz3:w1.heap.size<w2.heap.size:=(by have:=hg2.size;simp at this;omega);have HOHI:Hid ((Value.slice none 0 0).ownBlock≠some w2.heap.size):=(fun e=>by simp [Value.ownBlock] at e);clear I)
    | (at_builtin;go_loud (refine app_cells2 (size:=1) (n:=0) (xs:=[]) (base:=w1.heap.size+1) rfl _ _ _ rfl Tryz.underlying30 (.float .f64 0) 8 infoFlt rfl (Nat.succ_pos 0) rfl rfl (by simp) _ (HI.out.kept (gt_alloc_r (World.grownBy_alloc _ _ _) _)).own rfl (by simp [Value.oneCell']) (Nat.succ_pos 1) (by simp;omega) (by omega) (by omega) ?_;intro ggA capA wA hownA hgA hatA;have GA:=gt_alloc_r (World.grownBy_alloc w2 (.cells #[.float .f64 (f 0),.float .f64 (f 1),.float .f64 0,.float .f64 (f 2),.int .u8 2] 85) none) (.cells #[.float .f64 (f 0),.float .f64 (f 1)] 26);obtain ⟨⟨p0A,p1A,uA,p3A⟩,ufA,hzA,⟨r0A,r1A,r2A,r3A⟩,rfA,rzA⟩:=HU.out _ _ _ _ _ _ HI.out GA hgA;have rf0A:=rfA 0;have rf1A:=rfA 1;have rf2A:=rfA 2;have rf3A:=rfA 3;have cA2:=HCw.out _ _ _ _ _ w2.heap.size _ HI.out GA hgA HOHI.out 2 (.float .f64 0) (by simp);have cA3:=HCw.out _ _ _ _ _ w2.heap.size _ HI.out GA hgA HOHI.out 3 (.float .f64 (f 2)) (by simp);have cA4:=HCw.out _ _ _ _ _ w2.heap.size _ HI.out GA hgA HOHI.out 4 (.int .u8 2) (by simp);have HFA:=Lib.hid (HI.out.app GA hgA hownA);have hsA:w2.heap.size<wA.heap.size:=(by have h2:=hgA.size;simp at h2;omega);have HOHFA:Hid ((Value.slice (some ⟨ggA,0,none⟩) (0+2) capA).ownBlock≠some w2.heap.size):=(fun e=>by injection e with e;have e2:ggA=w2.heap.size:=e;rcases hatA with h | h;exact HOHI.out (h.trans (congrArg some e2));simp at h;omega);clear hownA hatA))
    | (go_at_call 142;refine (Is3D_lit 2 false (by simp) _).mono ?_;rintro e wx ⟨rfl,rfl⟩)
    | (go_at_call 143;refine (IsMeasured_lit 2 true (by simp) _).mono ?_;rintro e wx ⟨rfl,rfl⟩)
    | (at_builtin;go_loud (refine app_cells2 (size:=1) (n:=0+2) (xs:=[]++[.float .f64 (f 0),.float .f64 (f 1)]) (base:=w1.heap.size+1) rfl _ _ _ rfl Tryz.underlying30 (.float .f64 0) 8 infoFlt rfl (Nat.succ_pos 0) rfl rfl (by simp) _ (HFA.out.kept (World.grownBy_alloc _ _ _)).own rfl (by simp [Value.oneCell']) (Nat.succ_pos 0) (by simp [World.setCell];omega) (by omega) (by omega) ?_;intro ggM capM wM hownM hgM hatM;have GM:=World.grownBy_alloc (wA.setCell ⟨w1.heap.size,2,none⟩ (.slice (some ⟨ggA,0,none⟩) (0+2) capA)) (.cells #[.float .f64 (f 2)] 26) none;obtain ⟨⟨p0M,p1M,uM,p3M⟩,ufM,hzM,⟨r0M,r1M,r2M,r3M⟩,rfM,rzM⟩:=HU.out _ _ _ _ _ _ HFA.out GM hgM;have rf0M:=rfM 0;have rf1M:=rfM 1;have rf2M:=rfM 2;have rf3M:=rfM 3;have cM2:=HCw.out _ _ _ _ _ w2.heap.size _ HFA.out GM hgM HOHFA.out 2 (.float .f64 0) (HCs.out _ _ _ _ 2 _ hz3 cA2);have cM3:=HCw.out _ _ _ _ _ w2.heap.size _ HFA.out GM hgM HOHFA.out 3 (.float .f64 (f 2)) (HCs.out _ _ _ _ 3 _ hz3 cA3);have cM4:=HCw.out _ _ _ _ _ w2.heap.size _ HFA.out GM hgM HOHFA.out 4 (.int .u8 2) (HCs.out _ _ _ _ 4 _ hz3 cA4);have HFM:=Lib.hid (HFA.out.app GM hgM hownM);have hsM:w2.heap.size<wM.heap.size:=(by have h2:=hgM.size;simp [World.setCell] at h2;omega);have HOHFM:Hid ((Value.slice (some ⟨ggM,0,none⟩) (0+2+1) capM).ownBlock≠some w2.heap.size):=(fun e=>by injection e with e;have e2:ggM=w2.heap.size:=e;rcases hatM with h | h;exact HOHFA.out (h.trans (congrArg some e2));simp [World.setCell] at h;omega);clear hownM hatM)))
  obtain ⟨pn,cn,hx,I2⟩:=KidB.of_num (f:=f) (n:=3) (HFM.out.cast rfl rfl) 0 HF0.out
  injection hx with hx1 hx2 hx3
  subst hx1 hx3
  have HE:=Lib.hid (I2.end_ (W.heap.size+1) (by omega) (by omega))
  clear I2
  refine bodyPost_ret (by simp [results,Tryz.results74,go_sem,r0M,r1M,r2M,r3M];try rfl) rfl ?_
  exact ⟨_,rfl,HE.out.1,HE.out.2⟩
theorem plPt3 (f:Nat→Nat) (hf:∀ i,f i<18446744073709551616) (W:World):Calls Tryz.prog 74 #[.agg #[.float .f64 (f 0),.float .f64 (f 1),.float .f64 (f 2),.float .f64 (f 3),.int .u8 3,.bool true]] W fun e w'=>∃ v',e=.returned v'∧KD (Fr W w') 1 w' v' (.mk 1 (3:Nat) 4 f [])∧W.grownBy w' none:=by
  have HG:=Lib.hid (gt_alloc_r (World.grownBy_alloc W (.cells #[.float .f64 (f 0),.float .f64 (f 1),.float .f64 (f 2),.float .f64 (f 3),.int .u8 3,.bool true] 87) none) (.cells #[.int .i64 0,.int .i64 0,.slice none 0 0,.slice none 0 0] 33))
  have HC:Hid (∀ w,((W.alloc (.cells #[.float .f64 (f 0),.float .f64 (f 1),.float .f64 (f 2),.float .f64 (f 3),.int .u8 3,.bool true] 87)).alloc (.cells #[.int .i64 0,.int .i64 0,.slice none 0 0,.slice none 0 0] 33)).grownBy w none→(w.cell? ⟨W.heap.size,0,none⟩=some (.float .f64 (f 0))∧w.cell? ⟨W.heap.size,1,none⟩=some (.float .f64 (f 1))∧w.cell? ⟨W.heap.size,2,none⟩=some (.float .f64 (f 2))∧w.cell? ⟨W.heap.size,3,none⟩=some (.float .f64 (f 3))∧w.cell? ⟨W.heap.size,4,none⟩=some (.int .u8 3)∧w.cell? ⟨W.heap.size,5,none⟩=some (.bool true))∧(w.cell? ⟨W.heap.size+1,0,none⟩=some (.int .i64 0)∧w.cell? ⟨W.heap.size+1,1,none⟩=some (.int .i64 0)∧w.cell? ⟨W.heap.size+1,2,none⟩=some (.slice none 0 0)∧w.cell? ⟨W.heap.size+1,3,none⟩=some (.slice none 0 0))∧∀ j,w.frozen? ⟨W.heap.size+1,j,none⟩=false):=fun w g=>by
    have hb:=g.block (W.heap.size+1) (by simp) (by simp)
    refine ⟨⟨g.cell (by simp) (by simp),g.cell (by simp) (by simp),g.cell (by simp) (by simp),g.cell (by simp) (by simp),g.cell (by simp) (by simp),g.cell (by simp) (by simp)⟩,⟨g.cell (by simp) (by simp),g.cell (by simp) (by simp),g.cell (by simp) (by simp),g.cell (by simp) (by simp)⟩,fun j=>?_⟩
    rw [World.frozen?_of_block hb];simp
  have hsf:=run_store_flt Tryz.prog
  have HF0:=Lib.hid hf
  clear hf
  go_enter Tryz.func74,Tryz.ntmps74
  go_wp2_with (first
    | (go_at_call 140;refine (PtCT_any _ _ _ _ _ _ _).mono ?_;rintro e w1 ⟨rfl,hg1⟩;obtain ⟨⟨k0,k1,k2,k3,k4,k5⟩,_,_⟩:=HC.out _ hg1;have hz1:W.heap.size<w1.heap.size:=(by have:=hg1.size;simp at this;omega);have hz2:W.heap.size+1<w1.heap.size:=(by have:=hg1.size;simp at this;omega)))
  have HBx:Hid (∀ wr,Und W (w1.alloc (.cells #[.int .i64 1,.int .i64 3,.slice none 0 0,.slice none 0 0] 33)) (w1.heap.size+1) w1.heap.size wr→(wr.cell? ⟨W.heap.size+1,0,none⟩=some (.int .i64 0)∧wr.cell? ⟨W.heap.size+1,1,none⟩=some (.int .i64 0)∧wr.cell? ⟨W.heap.size+1,2,none⟩=some (.slice none 0 0)∧wr.cell? ⟨W.heap.size+1,3,none⟩=some (.slice none 0 0))∧∀ j,wr.frozen? ⟨W.heap.size+1,j,none⟩=false):=fun wr u=>by
    obtain ⟨_,⟨f0,f1,f2,f3⟩,fz⟩:=HC.out (w1.alloc (.cells #[.int .i64 1,.int .i64 3,.slice none 0 0,.slice none 0 0] 33)) (gt_alloc_r hg1 _)
    have kp:∀ b j x,b<w1.heap.size→(w1.alloc (.cells #[.int .i64 1,.int .i64 3,.slice none 0 0,.slice none 0 0] 33)).cell? ⟨b,j,none⟩=some x→wr.cell? ⟨b,j,none⟩=some x:=fun b j x hb h=>u.keep _ _ (by show b<_;omega) (by show b≠_;omega) h
    exact ⟨⟨kp _ _ _ hz2 f0,kp _ _ _ hz2 f1,kp _ _ _ hz2 f2,kp _ _ _ hz2 f3⟩,fun j=>by rw [u.kf _ j (by omega) (by omega)];exact fz j⟩
  have HU:Hid (∀ (wc w6 w7:World) (x:Value) (m:Nat) (xs:List Value),NumB W (w1.alloc (.cells #[.int .i64 1,.int .i64 3,.slice none 0 0,.slice none 0 0] 33)) (w1.heap.size+1) w1.heap.size wc 1 3 x m xs→wc.grownBy w6 none→w6.grownBy w7 x.ownBlock→(w7.cell? ⟨w1.heap.size,0,none⟩=some (.int .i64 1)∧w7.cell? ⟨w1.heap.size,1,none⟩=some (.int .i64 3)∧w7.cell? ⟨w1.heap.size,2,none⟩=some x∧w7.cell? ⟨w1.heap.size,3,none⟩=some (.slice none 0 0))∧w7.frozen? ⟨w1.heap.size,2,none⟩=false∧w1.heap.size<w7.heap.size∧(w7.cell? ⟨W.heap.size+1,0,none⟩=some (.int .i64 0)∧w7.cell? ⟨W.heap.size+1,1,none⟩=some (.int .i64 0)∧w7.cell? ⟨W.heap.size+1,2,none⟩=some (.slice none 0 0)∧w7.cell? ⟨W.heap.size+1,3,none⟩=some (.slice none 0 0))∧(∀ j,w7.frozen? ⟨W.heap.size+1,j,none⟩=false)∧W.heap.size+1<w7.heap.size):=fun wc w6 w7 x m xs i g g'=>by
    have hi:=i.kept g
    have hne:some w1.heap.size≠x.ownBlock:=fun e=>by have:=(hi.own.lt _ e.symm).1;omega
    have hne2:some (W.heap.size+1)≠x.ownBlock:=fun e=>by have:=(hi.own.lt _ e.symm).1;omega
    obtain ⟨⟨a0,a1,a2,a3⟩,af⟩:=HBx.out _ hi.u
    have hb:=hi.u.big
    have hs:=g'.size
    exact ⟨⟨g'.cell hi.o0 hne,g'.cell hi.o1 hne,g'.cell hi.o2 hne,g'.cell hi.o3 hne⟩,by rw [World.frozen?_of_block (g'.block w1.heap.size (by omega) hne)];exact hi.u.of_ 2,by omega,⟨g'.cell a0 hne2,g'.cell a1 hne2,g'.cell a2 hne2,g'.cell a3 hne2⟩,fun j=>by rw [World.frozen?_of_block (g'.block (W.heap.size+1) (by omega) hne2)];exact af j,by omega⟩
  have HCw:Hid (∀ (wc w6 w7:World) (x:Value) (m b:Nat) (xs:List Value),NumB W (w1.alloc (.cells #[.int .i64 1,.int .i64 3,.slice none 0 0,.slice none 0 0] 33)) (w1.heap.size+1) w1.heap.size wc 1 3 x m xs→wc.grownBy w6 none→w6.grownBy w7 x.ownBlock→x.ownBlock≠some b→∀ j v,w6.cell? ⟨b,j,none⟩=some v→w7.cell? ⟨b,j,none⟩=some v):=fun wc w6 w7 x m b xs i g g' h1 j v hv=>g'.cell hv (fun e=>h1 e.symm)
  have HCs:Hid (∀ (w:World) (y v:Value) (b j:Nat) (O:Obj),w1.heap.size<b→w.cell? ⟨b,j,none⟩=some v→((w.setCell ⟨w1.heap.size,2,none⟩ y).alloc O).cell? ⟨b,j,none⟩=some v):=fun w y v b j O hb hv=>(World.grownBy_alloc _ O none).cell (by rw [World.cell?_setCell_other (h:=fun e=>by injection e with e;omega)];exact hv) (by simp)
  go_wp2_with (first
    | (go_at_call 141;refine (PtCo_any _ _ _ _ _ _ _).mono ?_;rintro e w2 ⟨rfl,hg2⟩;have I:=(NumB.new (gt_trans HG.out hg1 (.inl rfl)) 1 3).kept hg2;have HI:=Lib.hid I;have o2:=I.o2;have hz3:w1.heap.size<w2.heap.size:=(by have:=hg2.size;simp at this;omega);have HOHI:Hid ((Value.slice none 0 0).ownBlock≠some w2.heap.size):=(fun e=>by simp [Value.ownBlock] at e);clear I)
    | (at_builtin;go_loud (refine app_cells2 (size:=1) (n:=0) (xs:=[]) (base:=w1.heap.size+1) rfl _ _ _ rfl Tryz.underlying30 (.float .f64 0) 8 infoFlt rfl (Nat.succ_pos 0) rfl rfl (by simp) _ (HI.out.kept (gt_alloc_r (World.grownBy_alloc _ _ _) _)).own rfl (by simp [Value.oneCell']) (Nat.succ_pos 1) (by simp;omega) (by omega) (by omega) ?_;intro ggA capA wA hownA hgA hatA;have GA:=gt_alloc_r (World.grownBy_alloc w2 (.cells #[.float .f64 (f 0),.float .f64 (f 1),.float .f64 (f 2),.float .f64 (f 3),.int .u8 3] 85) none) (.cells #[.float .f64 (f 0),.float .f64 (f 1)] 26);obtain ⟨⟨p0A,p1A,uA,p3A⟩,ufA,hzA,⟨r0A,r1A,r2A,r3A⟩,rfA,rzA⟩:=HU.out _ _ _ _ _ _ HI.out GA hgA;have rf0A:=rfA 0;have rf1A:=rfA 1;have rf2A:=rfA 2;have rf3A:=rfA 3;have cA2:=HCw.out _ _ _ _ _ w2.heap.size _ HI.out GA hgA HOHI.out 2 (.float .f64 (f 2)) (by simp);have cA3:=HCw.out _ _ _ _ _ w2.heap.size _ HI.out GA hgA HOHI.out 3 (.float .f64 (f 3)) (by simp);have cA4:=HCw.out _ _ _ _ _ w2.heap.size _ HI.out GA hgA HOHI.out 4 (.int .u8 3) (by simp);have HFA:=Lib.hid (HI.out.app GA hgA hownA);have hsA:w2.heap.size<wA.heap.size:=(by have h2:=hgA.size;simp at h2;omega);have HOHFA:Hid ((Value.slice (some ⟨ggA,0,none⟩) (0+2) capA).ownBlock≠some w2.heap.size):=(fun e=>by injection e with e;have e2:ggA=w2.heap.size:=e;rcases hatA with h | h;exact HOHI.out (h.trans (congrArg some e2));simp at h;omega);clear hownA hatA))
    | (go_at_call 142;refine (Is3D_lit 3 true (by simp) _).mono ?_;rintro e wx ⟨rfl,rfl⟩)
    | (go_at_call 143;refine (IsMeasured_lit 3 true (by simp) _).mono ?_;rintro e wx ⟨rfl,rfl⟩)
    | (at_builtin;go_loud (refine app_cells2 (size:=1) (n:=0+2) (xs:=[]++[.float .f64 (f 0),.float .f64 (f 1)]) (base:=w1.heap.size+1) rfl _ _ _ rfl Tryz.underlying30 (.float .f64 0) 8 infoFlt rfl (Nat.succ_pos 0) rfl rfl (by simp) _ (HFA.out.kept (World.grownBy_alloc _ _ _)).own rfl (by simp [Value.oneCell']) (Nat.succ_pos 0) (by simp [World.setCell];omega) (by omega) (by omega) ?_;intro ggZ capZ wZ hownZ hgZ hatZ;have GZ:=World.grownBy_alloc (wA.setCell ⟨w1.heap.size,2,none⟩ (.slice (some ⟨ggA,0,none⟩) (0+2) capA)) (.cells #[.float .f64 (f 2)] 26) none;obtain ⟨⟨p0Z,p1Z,uZ,p3Z⟩,ufZ,hzZ,⟨r0Z,r1Z,r2Z,r3Z⟩,rfZ,rzZ⟩:=HU.out _ _ _ _ _ _ HFA.out GZ hgZ;have rf0Z:=rfZ 0;have rf1Z:=rfZ 1;have rf2Z:=rfZ 2;have rf3Z:=rfZ 3;have cZ2:=HCw.out _ _ _ _ _ w2.heap.size _ HFA.out GZ hgZ HOHFA.out 2 (.float .f64 (f 2)) (HCs.out _ _ _ _ 2 _ hz3 cA2);have cZ3:=HCw.out _ _ _ _ _ w2.heap.size _ HFA.out GZ hgZ HOHFA.out 3 (.float .f64 (f 3)) (HCs.out _ _ _ _ 3 _ hz3 cA3);have cZ4:=HCw.out _ _ _ _ _ w2.heap.size _ HFA.out GZ hgZ HOHFA.out 4 (.int .u8 3) (HCs.out _ _ _ _ 4 _ hz3 cA4);have HFZ:=Lib.hid (HFA.out.app GZ hgZ hownZ);have hsZ:w2.heap.size<wZ.heap.size:=(by have h2:=hgZ.size;simp [World.setCell] at h2;omega);have HOHFZ:Hid ((Value.slice (some ⟨ggZ,0,none⟩) (0+2+1) capZ).ownBlock≠some w2.heap.size):=(fun e=>by injection e with e;have e2:ggZ=w2.heap.size:=e;rcases hatZ with h | h;exact HOHFA.out (h.trans (congrArg some e2));simp [World.setCell] at h;omega);clear hownZ hatZ))
    | (at_builtin;go_loud (refine app_cells2 (size:=1) (n:=0+2+1) (xs:=[]++[.float .f64 (f 0),.float .f64 (f 1)]++[.float .f64 (f 2)]) (base:=w1.heap.size+1) rfl _ _ _ rfl Tryz.underlying30 (.float .f64 0) 8 infoFlt rfl (Nat.succ_pos 0) rfl rfl (by simp) _ (HFZ.out.kept (World.grownBy_alloc _ _ _)).own rfl (by simp [Value.oneCell']) (Nat.succ_pos 0) (by simp [World.setCell];omega) (by omega) (by omega) ?_;intro ggM capM wM hownM hgM hatM;have GM:=World.grownBy_alloc (wZ.setCell ⟨w1.heap.size,2,none⟩ (.slice (some ⟨ggZ,0,none⟩) (0+2+1) capZ)) (.cells #[.float .f64 (f 3)] 26) none;obtain ⟨⟨p0M,p1M,uM,p3M⟩,ufM,hzM,⟨r0M,r1M,r2M,r3M⟩,rfM,rzM⟩:=HU.out _ _ _ _ _ _ HFZ.out GM hgM;have rf0M:=rfM 0;have rf1M:=rfM 1;have rf2M:=rfM 2;have rf3M:=rfM 3;have cM2:=HCw.out _ _ _ _ _ w2.heap.size _ HFZ.out GM hgM HOHFZ.out 2 (.float .f64 (f 2)) (HCs.out _ _ _ _ 2 _ hz3 cZ2);have cM3:=HCw.out _ _ _ _ _ w2.heap.size _ HFZ.out GM hgM HOHFZ.out 3 (.float .f64 (f 3)) (HCs.out _ _ _ _ 3 _ hz3 cZ3);have cM4:=HCw.out _ _ _ _ _ w2.heap.size _ HFZ.out GM hgM HOHFZ.out 4 (.int .u8 3) (HCs.out _ _ _ _ 4 _ hz3 cZ4);have HFM:=Lib.hid (HFZ.out.app GM hgM hownM);have hsM:w2.heap.size<wM.heap.size:=(by have h2:=hgM.size;simp [World.setCell] at h2;omega);have HOHFM:Hid ((Value.slice (some ⟨ggM,0,none⟩) (0+2+1+1) capM).ownBlock≠some w2.heap.size):=(fun e=>by injection e with e;have e2:ggM=w2.heap.size:=e;rcases hatM with h | h;exact HOHFZ.out (h.trans (congrArg some e2));simp [World.setCell] at h;omega);clear hownM hatM)))
  obtain ⟨pn,cn,hx,I2⟩:=KidB.of_num (f:=f) (n:=4) (HFM.out.cast rfl rfl) 0 HF0.out
  injection hx with hx1 hx2 hx3
  subst hx1 hx3
  have HE:=Lib.hid (I2.end_ (W.heap.size+1) (by omega) (by omega))
  clear I2
  refine bodyPost_ret (by simp [results,Tryz.results74,go_sem,r0M,r1M,r2M,r3M];try rfl) rfl ?_
  exact ⟨_,rfl,HE.out.1,HE.out.2⟩
end
section
open Go.RowKit
theorem PlPoint:PC DPoint 74 1:=by
  intro B W v t ⟨ht,hv⟩ hok hB
  subst hv
  obtain ⟨r,n,f,rfl,hr,hn,hf⟩:=ht
  rw [ptR_of hr]
  have hw:=widN_le r hr
  rcases hn with rfl | rfl
  · have e1:ptOf r 0 f=ptE r:=by unfold ptOf;rw [if_pos (Nat.zero_div _)]
    rw [e1]
    exact plPtE r hr (fun _=>0) (fun _=>Nat.zero_lt_succ _) W
  · have e2:ptOf r (widN r) f=⟨plX r f 0,plY r f 0,plZ r f 0,plM r f 0,r,true⟩:=by unfold ptOf;rw [if_neg (by rw [Nat.div_self (by omega)];omega)]
    have e3:dataT (.mk 1 (r:Nat) (widN r) f [])=.mk 1 (r:Nat) (widN r) f []:=by unfold dataT dataTs;rw [if_neg (by omega)]
    rw [e2,e3]
    rcases (by omega:r=0∨r=1∨r=2∨r=3) with rfl | rfl | rfl | rfl
    · exact plPt0 f hf W
    · exact plPt1 f hf W
    · exact plPt2 f hf W
    · exact plPt3 f hf W
theorem plSeq_any (r n:Nat) (hr:r<4) (p:Option Addr) (f:Nat→Nat) (hn:n≤2513169434843) (hm:n % widN r=0) (W:World) (hf:FVal W p n f) :
    Calls Tryz.prog 144 #[.agg #[.int .u8 r,.slice p n n]] W fun e w'=>∃ v',e=.returned v'∧KD (Fr W w') 1 w' v' (.mk 2 (r:Nat) n f [])∧W.grownBy w' none:=by
  rcases (by omega:r=0∨r=1∨r=2∨r=3) with rfl | rfl | rfl | rfl
  · exact plSeq_0 n p f hn hm W hf
  · exact plSeq_1 n p f hn hm W hf
  · exact plSeq_2 n p f hn hm W hf
  · exact plSeq_3 n p f hn hm W hf
theorem LineCo_any (r:Nat) (p:Option Addr) (n c:Nat) (W:World):Calls Tryz.prog 123 #[.agg #[.int .u8 r,.slice p n c]] W fun e w'=>e=.returned (.agg #[.int .u8 r,.slice p n c])∧W.grownBy w' none:=by
  go_enter Tryz.func123,Tryz.ntmps123
  go_wp2_with fail
  go_returns
  exact ⟨rfl,gt_alloc_r (World.grownBy_alloc _ _ _) _⟩
theorem FVal.anyf {W:World} {p:Option Addr} {n:Nat} {f g:Nat→Nat} (h:FVal W p n f) (he:∀ i,i<n→f i=g i) (hg:∀ i,g i<18446744073709551616):FVal W p n g :=
  ⟨h.some_,fun a ha i hi=>by rw [←he i hi];exact h.at_ a ha i hi,hg⟩
theorem PlLine:PC DLine 76 1:=by
  intro B W v t hd hok hB
  obtain ⟨r,n,f,p,rfl,hr,hm,rfl,hf,hb⟩:=hd
  have hn:n≤2513169434843:=by unfold okT at hok;exact hok.1
  obtain ⟨f2,hf2,hff⟩ : ∃ f2,dataT (.mk 2 (r:Nat) n f [])=.mk 2 (r:Nat) n f2 []∧∀ w,W.grownBy w none→FVal w p n f2:=by
    unfold dataT dataTs
    by_cases h0:n=0
    · rw [if_pos h0]
      exact ⟨_,rfl,fun w g=>(hf.mono g).anyf (fun i hi=>by omega) (fun _=>Nat.zero_lt_succ _)⟩
    · rw [if_neg h0]
      exact ⟨_,rfl,fun w g=>hf.mono g⟩
  rw [hf2]
  have HS:Hid (∀ w,W.grownBy w none→Calls Tryz.prog 144 #[.agg #[.int .u8 r,.slice p n n]] w fun e w'=>∃ k6 d6 p6 n6 cap6 q6 m6 cq6,e=.returned (.agg #[.int .i64 k6,.int .i64 d6,.slice p6 n6 cap6,.slice q6 m6 cq6])∧KD (Fr w w') 1 w' (.agg #[.int .i64 k6,.int .i64 d6,.slice p6 n6 cap6,.slice q6 m6 cq6]) (.mk 2 (r:Nat) n f2 [])∧w.grownBy w' none):=fun w g=>(plSeq_any r n hr p f2 hn hm w (hff w g)).mono fun e w' ⟨v',he,hk,hg⟩=>by
    obtain ⟨k6,d6,n6,f6,kids6,p6,cap6,q6,cq6,_,hv⟩:=hk.form
    exact ⟨k6,d6,p6,n6,cap6,q6,_,cq6,by rw [he,hv],by rw [←hv];exact hk,hg⟩
  have HG:=Lib.hid (gt_alloc_r (World.grownBy_alloc W (.cells #[.int .u8 r,.slice p n n] 93) none) (.cells #[.int .i64 0,.int .i64 0,.slice none 0 0,.slice none 0 0] 33))
  have HC:Hid (∀ w,((W.alloc (.cells #[.int .u8 r,.slice p n n] 93)).alloc (.cells #[.int .i64 0,.int .i64 0,.slice none 0 0,.slice none 0 0] 33)).grownBy w none→(w.cell? ⟨W.heap.size+1,0,none⟩=some (.int .i64 0)∧w.cell? ⟨W.heap.size+1,1,none⟩=some (.int .i64 0)∧w.cell? ⟨W.heap.size+1,2,none⟩=some (.slice none 0 0)∧w.cell? ⟨W.heap.size+1,3,none⟩=some (.slice none 0 0))∧∀ j,w.frozen? ⟨W.heap.size+1,j,none⟩=false):=fun w g=>by
    have hb:=g.block (W.heap.size+1) (by simp) (by simp)
    refine ⟨⟨g.cell (by simp) (by simp),g.cell (by simp) (by simp),g.cell (by simp) (by simp),g.cell (by simp) (by simp)⟩,fun j=>?_⟩
    rw [World.frozen?_of_block hb];simp
  have HL:=Lib.hid (fun w=>LineCo_any r p n n w)
  clear hf hff hok hB hb hf2 hm hn
  go_enter Tryz.func76,Tryz.ntmps76
  go_wp2_with (first
    | (go_at_call 123;refine (HL.out _).mono ?_;rintro e w2 ⟨rfl,G2⟩)
    | (go_at_call 144;refine (HS.out _ (gt_trans HG.out G2 (.inl rfl))).mono ?_;rintro e w3 ⟨k6,d6,p6,n6,cap6,q6,m6,cq6,rfl,hk,hg3⟩;have Hk:=Lib.hid hk;clear hk;have G3:=gt_trans G2 hg3 (.inl rfl);obtain ⟨⟨r0,r1,r2,r3⟩,rf⟩:=HC.out _ G3;have rf0:=rf 0;have rf1:=rf 1;have rf2:=rf 2;have rf3:=rf 3))
  have hs2:W.heap.size+2≤w2.heap.size:=by have:=G2.size;simp at this;omega
  refine bodyPost_ret (by simp [results,Tryz.results76,go_sem,r0,r1,r2,r3];try rfl) rfl ?_
  have ks:∀ (w:World) (j:Nat) (y:Value),Kept (Fr w2 w3) w (w.setCell ⟨W.heap.size+1,j,none⟩ y):=fun w j y=>.set (fun hB=>by have h2:w2.heap.size≤W.heap.size+1:=hB.1;omega) y
  have gs:∀ (w:World) (j:Nat) (y:Value),W.grownBy w none→W.grownBy (w.setCell ⟨W.heap.size+1,j,none⟩ y) none:=fun w j y g=>gt_set_r g _ _ (Nat.le_succ _)
  refine ⟨_,rfl,((((Hk.out.keep (ks _ _ _)).keep (ks _ _ _)).keep (ks _ _ _)).keep (ks _ _ _)).weak fun b hb=>⟨by have:=hb.1;omega,by simp [World.setCell];exact hb.2⟩,gs _ _ _ (gs _ _ _ (gs _ _ _ (gs _ _ _ (gt_trans HG.out G3 (.inl rfl)))))⟩
end
section
open Go.RowKit
theorem PtT.data {s:Raw} (h:PtT s):PtT (dataT s)∧ptR (dataT s)=ptR s:=by
  obtain ⟨r,n,f,rfl,hr,hn,hf⟩:=h
  have e:dataT (.mk 1 (r:Nat) n f [])=.mk 1 (r:Nat) n (if n=0 then fun _=>0 else f) []:=rfl
  rw [e,ptR_of hr,ptR_of hr]
  by_cases h0:n=0
  · rw [if_pos h0,h0]
    exact ⟨⟨r,0,_,rfl,hr,.inl rfl,fun _=>Nat.zero_lt_succ _⟩,by unfold ptOf;rw [if_pos (Nat.zero_div _),if_pos (Nat.zero_div _)]⟩
  · rw [if_neg h0]
    exact ⟨⟨r,n,f,rfl,hr,hn,hf⟩,rfl⟩
theorem PlMpt:PC DMpt 78 2:=by
  intro B W v t hd hok hB
  obtain ⟨r,f,kids,p,c,rfl,hr,hs,rfl,hp,hb⟩:=hd
  unfold okT at hok
  have e:dataT (.mk 4 (r:Nat) 0 f kids)=.mk 4 (r:Nat) 0 (fun _=>0) (dataTs kids):=rfl
  rw [e]
  have hmap:(dataTs kids).map ptR=kids.map ptR:=by
    apply List.ext_getElem?
    intro i
    rw [List.getElem?_map,List.getElem?_map,dataTs_get]
    cases hi:kids[i]? with
    | none=>rfl
    | some s=>simp [(hs s (List.mem_of_getElem? hi)).data.2]
  refine plMpt_any r kids.length c hr hok.2.1 p (dataTs kids) (dataTs_len kids) W (by rw [hmap];exact hp) (fun s hs' w=>?_)
  obtain ⟨i,hi⟩:=List.mem_iff_getElem?.1 hs'
  rw [dataTs_get] at hi
  obtain ⟨s0,h0,rfl⟩:=Option.map_eq_some_iff.1 hi
  have hpt:=(hs s0 (List.mem_of_getElem? h0))
  have h1:=PlPoint (fun _=>False) w (ptR s0).v s0 ⟨hpt,rfl⟩ (okTs_mem hok.2.2 h0) (fun b hb=>hb.elim)
  rw [hpt.data.2]
  exact h1
theorem PlPg:PC DPg 77 2:=plPg_of 1 PlLine (PgCT DLine)
theorem PlMl:PC DMl 80 2:=plMl_of DLine.dk DLine.form2 1 PlLine (MlCT DLine)
theorem PlMp:PC DMp 81 3:=plMp_of DPg.dk DNode.form 2 PlPg (MpCT DPg)
theorem PC.le {D:(Nat→Prop)→World→Value→Raw→Prop} {fE h h':Nat} (H:PC D fE h) (hh:h≤h'):PC D fE h':=fun B W v t hd hok hB=>(H B W v t hd hok hB).mono fun e w' ⟨v',he,hk,hg⟩=>⟨v',he,hk.le hh,hg⟩
theorem plain_all:∀ h:Nat,PC (DGeo h) 32 (h+2)
  | 0=>fun B W v t hd=>hd.elim
  | h+1=>by
    intro B W v t hd
    have ih:=plain_all h
    rcases hd with hd | hd | hd | hd | hd | hd | hd
    · exact (plainG_1 DPoint.dk DPoint.form6 (h+3) (PlPoint.le (by omega))) B W v t hd
    · exact (plainG_2 DLine.dk.toDK0 DLine.form2 (h+3) (PlLine.le (by omega))) B W v t hd
    · exact (plainG_3 DPg.dk.toDK0 DNode.form (h+3) (PlPg.le (by omega))) B W v t hd
    · exact (plainG_4 DMpt.dk.toDK0 DMpt.form (h+3) (PlMpt.le (by omega))) B W v t hd
    · exact (plainG_5 DMl.dk.toDK0 DNode.form (h+3) (PlMl.le (by omega))) B W v t hd
    · exact (plainG_6 DMp.dk.toDK0 DNode.form (h+3) (PlMp.le (by omega))) B W v t hd
    · exact (plainG_0 (DNode.dk (DGeo.dk h)).toDK0 DNode.form (h+3) (plGc_of (DGeo.dk h) DGeo.form (h+2) ih (GcCT (DGeo h)))) B W v t hd
end
section
open Go.RowKit
theorem geomOf_any:∀ h,IHS h
  | 0=>fun _ _ _ hk=>hk.elim
  | h+1=>geomOf_succ h (geomOf_any h)
end
section
open Go.RowKit
inductive SameT:Raw→Raw→Prop where
  | mk {k d:Int} {n:Nat} {f f':Nat→Nat} {kids kids':List Raw} (hf:∀ i,i<n→f i=f' i) (hl:kids.length=kids'.length) (hk:∀ (i:Nat) (t t':Raw),kids[i]?=some t→kids'[i]?=some t'→SameT t t'):SameT (.mk k d n f kids) (.mk k d n f' kids')
end
section
open Go.RowKit
theorem formed_of (b:Bool) (k:Int) (p q:Option Addr) (n cap m c:Nat) (W:World) (H:∀ w,W.grownBy w none→Calls Tryz.prog 27 #[.agg #[.int .i64 k,.slice p n cap,.slice q m c],.int .i64 1048576,.int .i64 100] w (EPost w b)) :
    Calls Tryz.prog 9 #[.agg #[.int .i64 k,.slice p n cap,.slice q m c],.int .i64 1048576] W (EPost W b):=by
  have HH:=Lib.hid H
  have HG:=Lib.hid (World.grownBy_alloc W (.cells #[.int .i64 k,.slice p n cap,.slice q m c] 25) none)
  clear H
  go_enter Tryz.func9,Tryz.ntmps9
  go_wp2_with (first
    | (go_at_call 27;refine (HH.out _ HG.out).mono ?_;rintro e w2 ⟨rfl,hg2⟩))
  go_ret
  exact ⟨rfl,gt_trans HG.out hg2 (.inl rfl)⟩
theorem size_of (r:Nat) (k:Int) (p q:Option Addr) (n cap m c:Nat) (W:World) (H:∀ w,W.grownBy w none→Calls Tryz.prog 28 #[.agg #[.int .i64 k,.slice p n cap,.slice q m c],.int .i64 100] w fun e w'=>e=.returned (.int .i64 r)∧w.grownBy w' none) :
    Calls Tryz.prog 10 #[.agg #[.int .i64 k,.slice p n cap,.slice q m c]] W fun e w'=>e=.returned (.int .i64 r)∧W.grownBy w' none:=by
  have HH:=Lib.hid H
  have HG:=Lib.hid (World.grownBy_alloc W (.cells #[.int .i64 k,.slice p n cap,.slice q m c] 25) none)
  clear H
  go_enter Tryz.func10,Tryz.ntmps10
  go_wp2_with (first
    | (go_at_call 28;refine (HH.out _ HG.out).mono ?_;rintro e w2 ⟨rfl,hg2⟩))
  go_ret
  exact ⟨rfl,gt_trans HG.out hg2 (.inl rfl)⟩
end
section
open Go.RowKit
mutual
theorem SameT.refl:∀ t:Raw,SameT t t
  | .mk k d n f kids=>.mk (fun _ _=>rfl) rfl (fun i t t' h h'=>by
      rw [h] at h'
      injection h' with e
      subst e
      exact SameT.refls kids i t h)
theorem SameT.refls:∀ (ts:List Raw) (i:Nat) (t:Raw),ts[i]?=some t→SameT t t
  | [],_,_,h=>by simp at h
  | s::ts,0,t,h=>by
    simp at h
    subst h
    exact SameT.refl s
  | s::ts,i+1,t,h=>SameT.refls ts i t (by simpa using h)
end
theorem figure_any (h:Nat) (W:World) (k:Int) (p q:Option Addr) (n cap m c:Nat) (t:Shp) (hk:KS h W (.agg #[.int .i64 k,.slice p n cap,.slice q m c]) t) (hok:okS t) :
    Calls Tryz.prog 12 #[.agg #[.int .i64 k,.slice p n cap,.slice q m c]] W fun e w'=>∃ k6 d6 p6 n6 cap6 q6 m6 cq6,e=.returned (.agg #[.int .i64 k6,.int .i64 d6,.slice p6 n6 cap6,.slice q6 m6 cq6])∧KD (Fr W w') h w' (.agg #[.int .i64 k6,.int .i64 d6,.slice p6 n6 cap6,.slice q6 m6 cq6]) (rawS t)∧W.grownBy w' none:=by
  have HPp:Hid (∀ w,W.grownBy w none→Calls Tryz.prog 33 #[.agg #[.int .i64 k,.slice p n cap,.slice q m c]] w fun e w'=>∃ k6 d6 p6 n6 cap6 q6 m6 cq6,e=.returned (.agg #[.int .i64 k6,.int .i64 d6,.slice p6 n6 cap6,.slice q6 m6 cq6])∧KD (Fr w w') h w' (.agg #[.int .i64 k6,.int .i64 d6,.slice p6 n6 cap6,.slice q6 m6 cq6]) (rawS t)∧w.grownBy w' none):=fun w g=>(geomOf_any h w _ t (hk.mono g) hok).mono fun e w' ⟨v',he,hk,hg⟩=>by
    obtain ⟨k6,d6,n6,f6,kids6,p6,cap6,q6,cq6,_,hv⟩:=hk.form
    exact ⟨k6,d6,p6,n6,cap6,q6,_,cq6,by rw [he,hv],by rw [←hv];exact hk,hg⟩
  have HG:=Lib.hid (gt_alloc_r (World.grownBy_alloc W (.cells #[.int .i64 k,.slice p n cap,.slice q m c] 25) none) (.cells #[.int .i64 0,.int .i64 0,.slice none 0 0,.slice none 0 0] 33))
  have HC:Hid (∀ w,((W.alloc (.cells #[.int .i64 k,.slice p n cap,.slice q m c] 25)).alloc (.cells #[.int .i64 0,.int .i64 0,.slice none 0 0,.slice none 0 0] 33)).grownBy w none→(w.cell? ⟨W.heap.size+1,0,none⟩=some (.int .i64 0)∧w.cell? ⟨W.heap.size+1,1,none⟩=some (.int .i64 0)∧w.cell? ⟨W.heap.size+1,2,none⟩=some (.slice none 0 0)∧w.cell? ⟨W.heap.size+1,3,none⟩=some (.slice none 0 0))∧∀ j,w.frozen? ⟨W.heap.size+1,j,none⟩=false):=fun w g=>by
    have hb:=g.block (W.heap.size+1) (by simp) (by simp)
    refine ⟨⟨g.cell (by simp) (by simp),g.cell (by simp) (by simp),g.cell (by simp) (by simp),g.cell (by simp) (by simp)⟩,fun j=>?_⟩
    rw [World.frozen?_of_block hb];simp
  clear hk hok
  go_enter Tryz.func12,Tryz.ntmps12
  go_wp2_with (first
    | (go_at_call 33;refine (HPp.out _ HG.out).mono ?_;rintro e w3 ⟨k6,d6,p6,n6,cap6,q6,m6,cq6,rfl,hk,hg3⟩;have Hk:=Lib.hid hk;clear hk;obtain ⟨⟨r0,r1,r2,r3⟩,rf⟩:=HC.out _ hg3;have rf0:=rf 0;have rf1:=rf 1;have rf2:=rf 2;have rf3:=rf 3))
  refine bodyPost_ret (by simp [results,Tryz.results12,go_sem,r0,r1,r2,r3];try rfl) rfl ?_
  have ks:∀ (w:World) (j:Nat) (y:Value),Kept (fun b=>W.heap.size+2≤b∧b<w3.heap.size) w (w.setCell ⟨W.heap.size+1,j,none⟩ y):=fun w j y=>.set (fun hB=>by have h2:W.heap.size+2≤W.heap.size+1:=hB.1;omega) y
  have gs:∀ (w:World) (j:Nat) (y:Value),W.grownBy w none→W.grownBy (w.setCell ⟨W.heap.size+1,j,none⟩ y) none:=fun w j y g=>gt_set_r g _ _ (Nat.le_succ _)
  have Hk9:=Hk.out.weak (B':=fun b=>W.heap.size+2≤b∧b<w3.heap.size) (fun b hb=>⟨by have:=hb.1;simp at this;omega,hb.2⟩)
  exact ⟨_,_,_,_,_,_,_,_,rfl,((((Hk9.keep (ks _ _ _)).keep (ks _ _ _)).keep (ks _ _ _)).keep (ks _ _ _)).weak fun b hb=>⟨by have:=hb.1;omega,by simp [World.setCell];exact hb.2⟩,gs _ _ _ (gs _ _ _ (gs _ _ _ (gs _ _ _ (gt_trans HG.out hg3 (.inl rfl)))))⟩
end
end Go.Proofs.YtlpaecafpbbbkaaGreatDoor
