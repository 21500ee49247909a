/- A sequence of the package as plain data. -/
import Derived.Test.YtlpaecafpbbbkaaGreatDoorBYT13
set_option linter.unusedVariables false
set_option linter.unusedSimpArgs false
set_option maxRecDepth 100000
set_option maxHeartbeats 24000000
namespace Go.Proofs.YtlpaecafpbbbkaaGreatDoor
section
open Go.RowKit
theorem NumB.cast {W W1 wr:World} {base ob n n':Nat} {k d:Int} {x:Value} {xs xs':List Value} (i:NumB W W1 base ob wr k d x n xs) (h:n=n') (h2:xs=xs'):NumB W W1 base ob wr k d x n' xs':=by
  subst h h2;exact i
theorem flC_1 (f:Nat→Nat) (n:Nat):flC f (n+1)=flC f n++[.float .f64 (f n)]:=by unfold flC;rw [List.range_succ,List.map_append];rfl
theorem flC_2 (f:Nat→Nat) (n:Nat):flC f (n+2)=flC f n++[.float .f64 (f n),.float .f64 (f (n+1))]:=by rw [flC_1 f (n+1),flC_1 f n,List.append_assoc];rfl
theorem flC_3 (f:Nat→Nat) (n:Nat):flC f (n+3)=flC f n++([.float .f64 (f n),.float .f64 (f (n+1))]++[.float .f64 (f (n+2))]):=by rw [flC_1 f (n+2),flC_2 f n,List.append_assoc]
theorem flC_4 (f:Nat→Nat) (n:Nat):flC f (n+4)=flC f n++([.float .f64 (f n),.float .f64 (f (n+1))]++([.float .f64 (f (n+2))]++[.float .f64 (f (n+3))])):=by rw [flC_1 f (n+3),flC_3 f n,List.append_assoc,List.append_assoc]
theorem SeqCT_any (r:Nat) (x:Value) (hx:∃ p n c,x=.slice p n c) (W:World):Calls Tryz.prog 126 #[.agg #[.int .u8 r,x]] W fun e w'=>e=.returned (.int .u8 r)∧W.grownBy w' none:=by
  obtain ⟨p,n,c,rfl⟩:=hx
  go_enter Tryz.func126,Tryz.ntmps126
  go_wp2_with fail
  go_ret
  exact ⟨rfl,World.grownBy_alloc _ _ _⟩
theorem plSeq_0 (n:Nat) (p:Option Addr) (f:Nat→Nat) (hn:n≤2000) (hm:n % 2=0) (W:World) (hf:FVal W p n f) :
    Calls Tryz.prog 144 #[.agg #[.int .u8 0,.slice p n n]] W fun e w'=>∃ v',e=.returned v'∧KD (Fr W w') 1 w' v' (.mk 2 (0:Nat) n f [])∧W.grownBy w' none:=by
  have HG:=Lib.hid (gt_alloc_r (World.grownBy_alloc W (.cells #[.int .u8 0,.slice p n n] 91) none) (.cells #[.int .i64 0,.int .i64 0,.slice none 0 0,.slice none 0 0] 33))
  have HC:Hid (∀ w,((W.alloc (.cells #[.int .u8 0,.slice p n n] 91)).alloc (.cells #[.int .i64 0,.int .i64 0,.slice none 0 0,.slice none 0 0] 33)).grownBy w none→(w.cell? ⟨W.heap.size,0,none⟩=some (.int .u8 0)∧w.cell? ⟨W.heap.size,1,none⟩=some (.slice p n n))∧(w.cell? ⟨W.heap.size+1,0,none⟩=some (.int .i64 0)∧w.cell? ⟨W.heap.size+1,1,none⟩=some (.int .i64 0)∧w.cell? ⟨W.heap.size+1,2,none⟩=some (.slice none 0 0)∧w.cell? ⟨W.heap.size+1,3,none⟩=some (.slice none 0 0))∧∀ j,w.frozen? ⟨W.heap.size+1,j,none⟩=false):=fun w g=>by
    have hb:=g.block (W.heap.size+1) (by simp) (by simp)
    refine ⟨⟨g.cell (by simp) (by simp),g.cell (by simp) (by simp)⟩,⟨g.cell (by simp) (by simp),g.cell (by simp) (by simp),g.cell (by simp) (by simp),g.cell (by simp) (by simp)⟩,fun j=>?_⟩
    rw [World.frozen?_of_block hb];simp
  obtain ⟨L,hL⟩ : ∃ L,L=n / 2:=⟨_,rfl⟩
  have hnL:n=L*2:=by have:=Nat.div_add_mod n 2;omega
  have hlen:=fun w'=>(Length_any 0 n (by decide) p n hn w':Calls Tryz.prog 102 #[.agg #[.int .u8 0,.slice p n n]] w' fun e w''=>e=.returned (.int .i64 (n / widN 0:Nat))∧w'.grownBy w'' none)
  have ew:n / widN 0=L:=hL.symm
  rw [ew] at hlen
  have HLen:=Lib.hid hlen
  have HFV:=Lib.hid (fun w (g:W.grownBy w none)=>hf.mono g)
  have HFlt:=Lib.hid hf.lt
  have HCT:=Lib.hid (fun w=>(SeqCT_any 0 (.slice p n n) ⟨_,_,_,rfl⟩ w:Calls Tryz.prog 126 #[.agg #[.int .u8 0,.slice p n n]] w fun e w'=>e=.returned (.int .u8 0)∧w.grownBy w' none))
  have HN:Hid (flC f n=flC f (L*2)):=by show flC f n=flC f (L*2);rw [hnL]
  have hLb:L*2≤2000:=by omega
  have hLn:Hid (L*2=n):=hnL.symm
  clear hf hL hnL hlen ew hm
  have hsf:=run_store_flt Tryz.prog
  go_enter Tryz.func144,Tryz.ntmps144
  go_wp2_with (first
    | (go_at_call 126;refine (HCT.out _).mono ?_;rintro e w1 ⟨rfl,hg1⟩;obtain ⟨⟨k0,k1⟩,_,_⟩:=HC.out _ hg1;have hz1:W.heap.size<w1.heap.size:=(by have:=hg1.size;simp at this;omega);have hz2:W.heap.size+1<w1.heap.size:=(by have:=hg1.size;simp at this;omega)))
  have I0:=NumB.new (gt_trans HG.out hg1 (.inl rfl)) 2 0
  have HI0:=Lib.hid I0
  clear I0
  have HBx:Hid (∀ wr,Und W (w1.alloc (.cells #[.int .i64 2,.int .i64 0,.slice none 0 0,.slice none 0 0] 33)) (w1.heap.size+1) w1.heap.size wr→(wr.cell? ⟨W.heap.size,0,none⟩=some (.int .u8 0)∧wr.cell? ⟨W.heap.size,1,none⟩=some (.slice p n n))∧(wr.cell? ⟨W.heap.size+1,0,none⟩=some (.int .i64 0)∧wr.cell? ⟨W.heap.size+1,1,none⟩=some (.int .i64 0)∧wr.cell? ⟨W.heap.size+1,2,none⟩=some (.slice none 0 0)∧wr.cell? ⟨W.heap.size+1,3,none⟩=some (.slice none 0 0))∧∀ j,wr.frozen? ⟨W.heap.size+1,j,none⟩=false):=fun wr u=>by
    obtain ⟨⟨e0,e1⟩,⟨f0,f1,f2,f3⟩,fz⟩:=HC.out (w1.alloc (.cells #[.int .i64 2,.int .i64 0,.slice none 0 0,.slice none 0 0] 33)) (gt_alloc_r hg1 _)
    have kp:∀ b j x,b<w1.heap.size→(w1.alloc (.cells #[.int .i64 2,.int .i64 0,.slice none 0 0,.slice none 0 0] 33)).cell? ⟨b,j,none⟩=some x→wr.cell? ⟨b,j,none⟩=some x:=fun b j x hb h=>u.keep _ _ (by show b<_;omega) (by show b≠_;omega) h
    exact ⟨⟨kp _ _ _ hz1 e0,kp _ _ _ hz1 e1⟩,⟨kp _ _ _ hz2 f0,kp _ _ _ hz2 f1,kp _ _ _ hz2 f2,kp _ _ _ hz2 f3⟩,fun j=>by rw [u.kf _ j (by omega) (by omega)];exact fz j⟩
  clear HC k0 k1
  have HU:Hid (∀ (wc w6 w7:World) (x:Value) (m:Nat) (xs:List Value),NumB W (w1.alloc (.cells #[.int .i64 2,.int .i64 0,.slice none 0 0,.slice none 0 0] 33)) (w1.heap.size+1) w1.heap.size wc 2 0 x m xs→wc.grownBy w6 none→w6.grownBy w7 x.ownBlock→w7.cell? ⟨w1.heap.size,2,none⟩=some x∧w7.frozen? ⟨w1.heap.size,2,none⟩=false∧w1.heap.size<w7.heap.size):=fun wc w6 w7 x m xs i g g'=>by
    have hi:=i.kept g
    have hne:some w1.heap.size≠x.ownBlock:=fun e=>by have:=(hi.own.lt _ e.symm).1;omega
    exact ⟨g'.cell hi.o2 hne,by rw [World.frozen?_of_block (g'.block w1.heap.size (by have:=hi.u.big;omega) hne)];exact hi.u.of_ 2,by have h1:=hi.u.big;have h2:=g'.size;omega⟩
  have HCw:Hid (∀ (wc w6 w7:World) (x:Value) (m b:Nat) (xs:List Value),NumB W (w1.alloc (.cells #[.int .i64 2,.int .i64 0,.slice none 0 0,.slice none 0 0] 33)) (w1.heap.size+1) w1.heap.size wc 2 0 x m xs→wc.grownBy w6 none→w6.grownBy w7 x.ownBlock→x.ownBlock≠some b→∀ j v,w6.cell? ⟨b,j,none⟩=some v→w7.cell? ⟨b,j,none⟩=some v):=fun wc w6 w7 x m b xs i g g' h1 j v hv=>g'.cell hv (fun e=>h1 e.symm)
  have HCs:Hid (∀ (w:World) (y v:Value) (b j:Nat) (O:Obj),w1.heap.size<b→w.cell? ⟨b,j,none⟩=some v→((w.setCell ⟨w1.heap.size,2,none⟩ y).alloc O).cell? ⟨b,j,none⟩=some v):=fun w y v b j O hb hv=>(World.grownBy_alloc _ O none).cell (by rw [World.cell?_setCell_other (h:=fun e=>by injection e with e;omega)];exact hv) (by simp)
  go_loopw [4] (fun i wr=>∃ (k:Nat) (x:Value),k≤L∧i=.int .i64 k∧NumB W (w1.alloc (.cells #[.int .i64 2,.int .i64 0,.slice none 0 0,.slice none 0 0] 33)) (w1.heap.size+1) w1.heap.size wr 2 0 x (k*2) (flC f (k*2))) (fun i _=>L - (intOf i).toNat)
  case atStart=>exact ⟨0,_,by omega,rfl,by rw [Nat.zero_mul];exact HI0.out⟩
  case round =>
    clear HI0
    obtain ⟨k,x,hk,rfl,I⟩:=hrel
    rename World=>wr
    obtain ⟨⟨k0,k1⟩,⟨r0,r1,r2,r3⟩,rf⟩:=HBx.out _ I.u
    obtain ⟨px,cx,rfl,_⟩:=own_form I.own
    have hbig:=I.u.big
    have hzA:W.heap.size<wr.heap.size:=by omega
    have hzB:W.heap.size+1<wr.heap.size:=by omega
    have hzC:w1.heap.size<wr.heap.size:=by omega
    by_cases hkL:k<L
    · obtain ⟨a,rfl⟩:=(HFV.out _ I.u.g).some_ (by have:=hLn.out;omega)
      have hkw:k*2+2≤2000:=by omega
      have HI:=Lib.hid I
      have HGet:=Lib.hid (fun w (g:wr.grownBy w none)=>Get_0 n k a f hn (by have:=hLn.out;omega) w (HFV.out w (gt_trans HI.out.u.g g (.inl rfl))))
      have HS:Hid (∀ w,wr.grownBy w none→w.cell? ⟨W.heap.size,0,none⟩=some (.int .u8 0)∧w.cell? ⟨W.heap.size,1,none⟩=some (.slice (some a) n n)∧w.cell? ⟨w1.heap.size,2,none⟩=some (.slice px (k*2) cx)):=fun w g=>⟨g.cell k0 (by simp),g.cell k1 (by simp),(HI.out.kept g).o2⟩
      clear I
      go_wp2_with (first
        | (go_at_call 102;refine (HLen.out _).mono ?_;rintro e w2 ⟨rfl,hg2⟩;obtain ⟨b0,b1,b2⟩:=HS.out _ hg2)
        | (go_at_call 106;refine (HGet.out _ hg2).mono ?_;rintro e w3 ⟨rfl,hg3⟩;have G3:=gt_trans hg2 hg3 (.inl rfl);obtain ⟨q0,q1,q2⟩:=HS.out _ G3;have hzD:w1.heap.size<w3.heap.size:=(by have:=G3.size;omega);have I3:=HI.out.kept G3;have HI3:=Lib.hid I3;have HOHI3:Hid ((Value.slice px (k*2) cx).ownBlock≠some w3.heap.size):=(fun e=>by have:=(I3.own.lt _ e).2;have:=(HI.out.own.lt _ e).2;have:=G3.size;omega);clear I3)
        | (at_builtin;go_loud (refine app_cells2 (size:=1) (n:=k*2) (xs:=flC f (k*2)) (base:=w1.heap.size+1) rfl _ _ _ rfl Tryz.underlying30 (.float .f64 0) 8 infoFlt rfl (Nat.succ_pos 0) rfl rfl (by simp) _ (HI3.out.kept (gt_alloc_r (World.grownBy_alloc _ _ _) _)).own rfl (by simp [Value.oneCell']) (Nat.succ_pos 1) (by simp;omega) (by omega) (by omega) ?_;intro ggA capA wA hownA hgA hatA;have GA:=gt_alloc_r (World.grownBy_alloc w3 (.cells #[.float .f64 (f (k*2)),.float .f64 (f (k*2+1)),.float .f64 0,.float .f64 0,.int .u8 0] 85) none) (.cells #[.float .f64 (f (k*2)),.float .f64 (f (k*2+1))] 26);obtain ⟨uA,ufA,hzA⟩:=HU.out _ _ _ _ _ _ HI3.out GA hgA;have cA2:=HCw.out _ _ _ _ _ w3.heap.size _ HI3.out GA hgA HOHI3.out 2 (.float .f64 0) (by simp);have cA3:=HCw.out _ _ _ _ _ w3.heap.size _ HI3.out GA hgA HOHI3.out 3 (.float .f64 0) (by simp);have cA4:=HCw.out _ _ _ _ _ w3.heap.size _ HI3.out GA hgA HOHI3.out 4 (.int .u8 0) (by simp);have HFA:=Lib.hid (HI3.out.app GA hgA hownA);have hsA:w3.heap.size<wA.heap.size:=(by have h2:=hgA.size;simp at h2;omega);have HOHFA:Hid ((Value.slice (some ⟨ggA,0,none⟩) (k*2+2) capA).ownBlock≠some w3.heap.size):=(fun e=>by injection e with e;have e2:ggA=w3.heap.size:=e;rcases hatA with h | h;exact HOHI3.out (h.trans (congrArg some e2));simp at h;omega);clear hownA hatA))
        | (go_at_call 142;refine (Is3D_lit 0 false (by simp) _).mono ?_;rintro e wx ⟨rfl,rfl⟩)
        | (go_at_call 143;refine (IsMeasured_lit 0 false (by simp) _).mono ?_;rintro e wx ⟨rfl,rfl⟩))
      have I9:=HFA.out
      have e9:flC f ((k+1)*2)=flC f (k*2)++[.float .f64 (f (k*2)),.float .f64 (f (k*2+1))]:=by rw [show (k+1)*2=k*2+2 by omega,flC_2];try simp only [List.append_assoc]
      have e8:(k+1)*2=k*2+2:=by omega
      exact ⟨⟨k+1,_,by omega,by go_num,I9.cast e8.symm e9.symm⟩,by simp [intOf];omega⟩
    · obtain rfl:k=L:=by omega
      have HI:=Lib.hid I
      clear I
      go_wp2_with (first
        | (go_at_call 102;refine (HLen.out _).mono ?_;rintro e w2 ⟨rfl,hg2⟩;have I2:=HI.out.kept hg2;have hI3:=I2;rw [hLn.out] at hI3;obtain ⟨pn,cn,hx,I4⟩:=KidB.of_num (f:=f) (n:=n) hI3 0 HFlt.out;have o0:=I2.o0;have o1:=I2.o1;have o2:=I2.o2;have o3:=I2.o3;obtain ⟨_,⟨s0,s1,s2,s3⟩,sf⟩:=HBx.out _ I2.u;have sf0:=sf 0;have sf1:=sf 1;have sf2:=sf 2;have sf3:=sf 3;have HE:=Lib.hid (I4.end_ (W.heap.size+1) (by omega) (by omega));have HX:=Lib.hid hx;have hzE:W.heap.size+1<w2.heap.size:=(by have:=hg2.size;omega);clear I2 I4 hI3 hx))
      go_wp2_with fail
      refine bodyPost_ret (by simp [results,Tryz.results144,go_sem,s0,s1,s2,s3];try rfl) rfl ?_
      have hx:=HX.out
      rw [←hLn.out] at hx
      injection hx with hx1 hx2 hx3
      have hE:=HE.out
      rw [←hx1,←hx3,←hLn.out] at hE
      rw [←hLn.out]
      exact ⟨_,rfl,hE.1,hE.2⟩
theorem plSeq_1 (n:Nat) (p:Option Addr) (f:Nat→Nat) (hn:n≤2000) (hm:n % 3=0) (W:World) (hf:FVal W p n f) :
    Calls Tryz.prog 144 #[.agg #[.int .u8 1,.slice p n n]] W fun e w'=>∃ v',e=.returned v'∧KD (Fr W w') 1 w' v' (.mk 2 (1:Nat) n f [])∧W.grownBy w' none:=by
  have HG:=Lib.hid (gt_alloc_r (World.grownBy_alloc W (.cells #[.int .u8 1,.slice p n n] 91) none) (.cells #[.int .i64 0,.int .i64 0,.slice none 0 0,.slice none 0 0] 33))
  have HC:Hid (∀ w,((W.alloc (.cells #[.int .u8 1,.slice p n n] 91)).alloc (.cells #[.int .i64 0,.int .i64 0,.slice none 0 0,.slice none 0 0] 33)).grownBy w none→(w.cell? ⟨W.heap.size,0,none⟩=some (.int .u8 1)∧w.cell? ⟨W.heap.size,1,none⟩=some (.slice p n n))∧(w.cell? ⟨W.heap.size+1,0,none⟩=some (.int .i64 0)∧w.cell? ⟨W.heap.size+1,1,none⟩=some (.int .i64 0)∧w.cell? ⟨W.heap.size+1,2,none⟩=some (.slice none 0 0)∧w.cell? ⟨W.heap.size+1,3,none⟩=some (.slice none 0 0))∧∀ j,w.frozen? ⟨W.heap.size+1,j,none⟩=false):=fun w g=>by
    have hb:=g.block (W.heap.size+1) (by simp) (by simp)
    refine ⟨⟨g.cell (by simp) (by simp),g.cell (by simp) (by simp)⟩,⟨g.cell (by simp) (by simp),g.cell (by simp) (by simp),g.cell (by simp) (by simp),g.cell (by simp) (by simp)⟩,fun j=>?_⟩
    rw [World.frozen?_of_block hb];simp
  obtain ⟨L,hL⟩ : ∃ L,L=n / 3:=⟨_,rfl⟩
  have hnL:n=L*3:=by have:=Nat.div_add_mod n 3;omega
  have hlen:=fun w'=>(Length_any 1 n (by decide) p n hn w':Calls Tryz.prog 102 #[.agg #[.int .u8 1,.slice p n n]] w' fun e w''=>e=.returned (.int .i64 (n / widN 1:Nat))∧w'.grownBy w'' none)
  have ew:n / widN 1=L:=hL.symm
  rw [ew] at hlen
  have HLen:=Lib.hid hlen
  have HFV:=Lib.hid (fun w (g:W.grownBy w none)=>hf.mono g)
  have HFlt:=Lib.hid hf.lt
  have HCT:=Lib.hid (fun w=>(SeqCT_any 1 (.slice p n n) ⟨_,_,_,rfl⟩ w:Calls Tryz.prog 126 #[.agg #[.int .u8 1,.slice p n n]] w fun e w'=>e=.returned (.int .u8 1)∧w.grownBy w' none))
  have HN:Hid (flC f n=flC f (L*3)):=by show flC f n=flC f (L*3);rw [hnL]
  have hLb:L*3≤2000:=by omega
  have hLn:Hid (L*3=n):=hnL.symm
  clear hf hL hnL hlen ew hm
  have hsf:=run_store_flt Tryz.prog
  go_enter Tryz.func144,Tryz.ntmps144
  go_wp2_with (first
    | (go_at_call 126;refine (HCT.out _).mono ?_;rintro e w1 ⟨rfl,hg1⟩;obtain ⟨⟨k0,k1⟩,_,_⟩:=HC.out _ hg1;have hz1:W.heap.size<w1.heap.size:=(by have:=hg1.size;simp at this;omega);have hz2:W.heap.size+1<w1.heap.size:=(by have:=hg1.size;simp at this;omega)))
  have I0:=NumB.new (gt_trans HG.out hg1 (.inl rfl)) 2 1
  have HI0:=Lib.hid I0
  clear I0
  have HBx:Hid (∀ wr,Und W (w1.alloc (.cells #[.int .i64 2,.int .i64 1,.slice none 0 0,.slice none 0 0] 33)) (w1.heap.size+1) w1.heap.size wr→(wr.cell? ⟨W.heap.size,0,none⟩=some (.int .u8 1)∧wr.cell? ⟨W.heap.size,1,none⟩=some (.slice p n n))∧(wr.cell? ⟨W.heap.size+1,0,none⟩=some (.int .i64 0)∧wr.cell? ⟨W.heap.size+1,1,none⟩=some (.int .i64 0)∧wr.cell? ⟨W.heap.size+1,2,none⟩=some (.slice none 0 0)∧wr.cell? ⟨W.heap.size+1,3,none⟩=some (.slice none 0 0))∧∀ j,wr.frozen? ⟨W.heap.size+1,j,none⟩=false):=fun wr u=>by
    obtain ⟨⟨e0,e1⟩,⟨f0,f1,f2,f3⟩,fz⟩:=HC.out (w1.alloc (.cells #[.int .i64 2,.int .i64 1,.slice none 0 0,.slice none 0 0] 33)) (gt_alloc_r hg1 _)
    have kp:∀ b j x,b<w1.heap.size→(w1.alloc (.cells #[.int .i64 2,.int .i64 1,.slice none 0 0,.slice none 0 0] 33)).cell? ⟨b,j,none⟩=some x→wr.cell? ⟨b,j,none⟩=some x:=fun b j x hb h=>u.keep _ _ (by show b<_;omega) (by show b≠_;omega) h
    exact ⟨⟨kp _ _ _ hz1 e0,kp _ _ _ hz1 e1⟩,⟨kp _ _ _ hz2 f0,kp _ _ _ hz2 f1,kp _ _ _ hz2 f2,kp _ _ _ hz2 f3⟩,fun j=>by rw [u.kf _ j (by omega) (by omega)];exact fz j⟩
  clear HC k0 k1
  have HU:Hid (∀ (wc w6 w7:World) (x:Value) (m:Nat) (xs:List Value),NumB W (w1.alloc (.cells #[.int .i64 2,.int .i64 1,.slice none 0 0,.slice none 0 0] 33)) (w1.heap.size+1) w1.heap.size wc 2 1 x m xs→wc.grownBy w6 none→w6.grownBy w7 x.ownBlock→w7.cell? ⟨w1.heap.size,2,none⟩=some x∧w7.frozen? ⟨w1.heap.size,2,none⟩=false∧w1.heap.size<w7.heap.size):=fun wc w6 w7 x m xs i g g'=>by
    have hi:=i.kept g
    have hne:some w1.heap.size≠x.ownBlock:=fun e=>by have:=(hi.own.lt _ e.symm).1;omega
    exact ⟨g'.cell hi.o2 hne,by rw [World.frozen?_of_block (g'.block w1.heap.size (by have:=hi.u.big;omega) hne)];exact hi.u.of_ 2,by have h1:=hi.u.big;have h2:=g'.size;omega⟩
  have HCw:Hid (∀ (wc w6 w7:World) (x:Value) (m b:Nat) (xs:List Value),NumB W (w1.alloc (.cells #[.int .i64 2,.int .i64 1,.slice none 0 0,.slice none 0 0] 33)) (w1.heap.size+1) w1.heap.size wc 2 1 x m xs→wc.grownBy w6 none→w6.grownBy w7 x.ownBlock→x.ownBlock≠some b→∀ j v,w6.cell? ⟨b,j,none⟩=some v→w7.cell? ⟨b,j,none⟩=some v):=fun wc w6 w7 x m b xs i g g' h1 j v hv=>g'.cell hv (fun e=>h1 e.symm)
  have HCs:Hid (∀ (w:World) (y v:Value) (b j:Nat) (O:Obj),w1.heap.size<b→w.cell? ⟨b,j,none⟩=some v→((w.setCell ⟨w1.heap.size,2,none⟩ y).alloc O).cell? ⟨b,j,none⟩=some v):=fun w y v b j O hb hv=>(World.grownBy_alloc _ O none).cell (by rw [World.cell?_setCell_other (h:=fun e=>by injection e with e;omega)];exact hv) (by simp)
  go_loopw [4] (fun i wr=>∃ (k:Nat) (x:Value),k≤L∧i=.int .i64 k∧NumB W (w1.alloc (.cells #[.int .i64 2,.int .i64 1,.slice none 0 0,.slice none 0 0] 33)) (w1.heap.size+1) w1.heap.size wr 2 1 x (k*3) (flC f (k*3))) (fun i _=>L - (intOf i).toNat)
  case atStart=>exact ⟨0,_,by omega,rfl,by rw [Nat.zero_mul];exact HI0.out⟩
  case round =>
    clear HI0
    obtain ⟨k,x,hk,rfl,I⟩:=hrel
    rename World=>wr
    obtain ⟨⟨k0,k1⟩,⟨r0,r1,r2,r3⟩,rf⟩:=HBx.out _ I.u
    obtain ⟨px,cx,rfl,_⟩:=own_form I.own
    have hbig:=I.u.big
    have hzA:W.heap.size<wr.heap.size:=by omega
    have hzB:W.heap.size+1<wr.heap.size:=by omega
    have hzC:w1.heap.size<wr.heap.size:=by omega
    by_cases hkL:k<L
    · obtain ⟨a,rfl⟩:=(HFV.out _ I.u.g).some_ (by have:=hLn.out;omega)
      have hkw:k*3+3≤2000:=by omega
      have HI:=Lib.hid I
      have HGet:=Lib.hid (fun w (g:wr.grownBy w none)=>Get_1 n k a f hn (by have:=hLn.out;omega) w (HFV.out w (gt_trans HI.out.u.g g (.inl rfl))))
      have HS:Hid (∀ w,wr.grownBy w none→w.cell? ⟨W.heap.size,0,none⟩=some (.int .u8 1)∧w.cell? ⟨W.heap.size,1,none⟩=some (.slice (some a) n n)∧w.cell? ⟨w1.heap.size,2,none⟩=some (.slice px (k*3) cx)):=fun w g=>⟨g.cell k0 (by simp),g.cell k1 (by simp),(HI.out.kept g).o2⟩
      clear I
      go_wp2_with (first
        | (go_at_call 102;refine (HLen.out _).mono ?_;rintro e w2 ⟨rfl,hg2⟩;obtain ⟨b0,b1,b2⟩:=HS.out _ hg2)
        | (go_at_call 106;refine (HGet.out _ hg2).mono ?_;rintro e w3 ⟨rfl,hg3⟩;have G3:=gt_trans hg2 hg3 (.inl rfl);obtain ⟨q0,q1,q2⟩:=HS.out _ G3;have hzD:w1.heap.size<w3.heap.size:=(by have:=G3.size;omega);have I3:=HI.out.kept G3;have HI3:=Lib.hid I3;have HOHI3:Hid ((Value.slice px (k*3) cx).ownBlock≠some w3.heap.size):=(fun e=>by have:=(I3.own.lt _ e).2;have:=(HI.out.own.lt _ e).2;have:=G3.size;omega);clear I3)
        | (at_builtin;go_loud (refine app_cells2 (size:=1) (n:=k*3) (xs:=flC f (k*3)) (base:=w1.heap.size+1) rfl _ _ _ rfl Tryz.underlying30 (.float .f64 0) 8 infoFlt rfl (Nat.succ_pos 0) rfl rfl (by simp) _ (HI3.out.kept (gt_alloc_r (World.grownBy_alloc _ _ _) _)).own rfl (by simp [Value.oneCell']) (Nat.succ_pos 1) (by simp;omega) (by omega) (by omega) ?_;intro ggA capA wA hownA hgA hatA;have GA:=gt_alloc_r (World.grownBy_alloc w3 (.cells #[.float .f64 (f (k*3)),.float .f64 (f (k*3+1)),.float .f64 (f (k*3+2)),.float .f64 0,.int .u8 1] 85) none) (.cells #[.float .f64 (f (k*3)),.float .f64 (f (k*3+1))] 26);obtain ⟨uA,ufA,hzA⟩:=HU.out _ _ _ _ _ _ HI3.out GA hgA;have cA2:=HCw.out _ _ _ _ _ w3.heap.size _ HI3.out GA hgA HOHI3.out 2 (.float .f64 (f (k*3+2))) (by simp);have cA3:=HCw.out _ _ _ _ _ w3.heap.size _ HI3.out GA hgA HOHI3.out 3 (.float .f64 0) (by simp);have cA4:=HCw.out _ _ _ _ _ w3.heap.size _ HI3.out GA hgA HOHI3.out 4 (.int .u8 1) (by simp);have HFA:=Lib.hid (HI3.out.app GA hgA hownA);have hsA:w3.heap.size<wA.heap.size:=(by have h2:=hgA.size;simp at h2;omega);have HOHFA:Hid ((Value.slice (some ⟨ggA,0,none⟩) (k*3+2) capA).ownBlock≠some w3.heap.size):=(fun e=>by injection e with e;have e2:ggA=w3.heap.size:=e;rcases hatA with h | h;exact HOHI3.out (h.trans (congrArg some e2));simp at h;omega);clear hownA hatA))
        | (go_at_call 142;refine (Is3D_lit 1 true (by simp) _).mono ?_;rintro e wx ⟨rfl,rfl⟩)
        | (go_at_call 143;refine (IsMeasured_lit 1 false (by simp) _).mono ?_;rintro e wx ⟨rfl,rfl⟩)
        | (at_builtin;go_loud (refine app_cells2 (size:=1) (n:=k*3+2) (xs:=flC f (k*3)++[.float .f64 (f (k*3)),.float .f64 (f (k*3+1))]) (base:=w1.heap.size+1) rfl _ _ _ rfl Tryz.underlying30 (.float .f64 0) 8 infoFlt rfl (Nat.succ_pos 0) rfl rfl (by simp) _ (HFA.out.kept (World.grownBy_alloc _ _ _)).own rfl (by simp [Value.oneCell']) (Nat.succ_pos 0) (by simp [World.setCell];omega) (by omega) (by omega) ?_;intro ggZ capZ wZ hownZ hgZ hatZ;have GZ:=World.grownBy_alloc (wA.setCell ⟨w1.heap.size,2,none⟩ (.slice (some ⟨ggA,0,none⟩) (k*3+2) capA)) (.cells #[.float .f64 (f (k*3+2))] 26) none;obtain ⟨uZ,ufZ,hzZ⟩:=HU.out _ _ _ _ _ _ HFA.out GZ hgZ;have cZ2:=HCw.out _ _ _ _ _ w3.heap.size _ HFA.out GZ hgZ HOHFA.out 2 (.float .f64 (f (k*3+2))) (HCs.out _ _ _ _ 2 _ hzD cA2);have cZ3:=HCw.out _ _ _ _ _ w3.heap.size _ HFA.out GZ hgZ HOHFA.out 3 (.float .f64 0) (HCs.out _ _ _ _ 3 _ hzD cA3);have cZ4:=HCw.out _ _ _ _ _ w3.heap.size _ HFA.out GZ hgZ HOHFA.out 4 (.int .u8 1) (HCs.out _ _ _ _ 4 _ hzD cA4);have HFZ:=Lib.hid (HFA.out.app GZ hgZ hownZ);have hsZ:w3.heap.size<wZ.heap.size:=(by have h2:=hgZ.size;simp [World.setCell] at h2;omega);have HOHFZ:Hid ((Value.slice (some ⟨ggZ,0,none⟩) (k*3+2+1) capZ).ownBlock≠some w3.heap.size):=(fun e=>by injection e with e;have e2:ggZ=w3.heap.size:=e;rcases hatZ with h | h;exact HOHFA.out (h.trans (congrArg some e2));simp [World.setCell] at h;omega);clear hownZ hatZ)))
      have I9:=HFZ.out
      have e9:flC f ((k+1)*3)=flC f (k*3)++[.float .f64 (f (k*3)),.float .f64 (f (k*3+1))]++[.float .f64 (f (k*3+2))]:=by rw [show (k+1)*3=k*3+3 by omega,flC_3];try simp only [List.append_assoc]
      have e8:(k+1)*3=k*3+2+1:=by omega
      exact ⟨⟨k+1,_,by omega,by go_num,I9.cast e8.symm e9.symm⟩,by simp [intOf];omega⟩
    · obtain rfl:k=L:=by omega
      have HI:=Lib.hid I
      clear I
      go_wp2_with (first
        | (go_at_call 102;refine (HLen.out _).mono ?_;rintro e w2 ⟨rfl,hg2⟩;have I2:=HI.out.kept hg2;have hI3:=I2;rw [hLn.out] at hI3;obtain ⟨pn,cn,hx,I4⟩:=KidB.of_num (f:=f) (n:=n) hI3 0 HFlt.out;have o0:=I2.o0;have o1:=I2.o1;have o2:=I2.o2;have o3:=I2.o3;obtain ⟨_,⟨s0,s1,s2,s3⟩,sf⟩:=HBx.out _ I2.u;have sf0:=sf 0;have sf1:=sf 1;have sf2:=sf 2;have sf3:=sf 3;have HE:=Lib.hid (I4.end_ (W.heap.size+1) (by omega) (by omega));have HX:=Lib.hid hx;have hzE:W.heap.size+1<w2.heap.size:=(by have:=hg2.size;omega);clear I2 I4 hI3 hx))
      go_wp2_with fail
      refine bodyPost_ret (by simp [results,Tryz.results144,go_sem,s0,s1,s2,s3];try rfl) rfl ?_
      have hx:=HX.out
      rw [←hLn.out] at hx
      injection hx with hx1 hx2 hx3
      have hE:=HE.out
      rw [←hx1,←hx3,←hLn.out] at hE
      rw [←hLn.out]
      exact ⟨_,rfl,hE.1,hE.2⟩
theorem plSeq_2 (n:Nat) (p:Option Addr) (f:Nat→Nat) (hn:n≤2000) (hm:n % 3=0) (W:World) (hf:FVal W p n f) :
    Calls Tryz.prog 144 #[.agg #[.int .u8 2,.slice p n n]] W fun e w'=>∃ v',e=.returned v'∧KD (Fr W w') 1 w' v' (.mk 2 (2:Nat) n f [])∧W.grownBy w' none:=by
  have HG:=Lib.hid (gt_alloc_r (World.grownBy_alloc W (.cells #[.int .u8 2,.slice p n n] 91) none) (.cells #[.int .i64 0,.int .i64 0,.slice none 0 0,.slice none 0 0] 33))
  have HC:Hid (∀ w,((W.alloc (.cells #[.int .u8 2,.slice p n n] 91)).alloc (.cells #[.int .i64 0,.int .i64 0,.slice none 0 0,.slice none 0 0] 33)).grownBy w none→(w.cell? ⟨W.heap.size,0,none⟩=some (.int .u8 2)∧w.cell? ⟨W.heap.size,1,none⟩=some (.slice p n n))∧(w.cell? ⟨W.heap.size+1,0,none⟩=some (.int .i64 0)∧w.cell? ⟨W.heap.size+1,1,none⟩=some (.int .i64 0)∧w.cell? ⟨W.heap.size+1,2,none⟩=some (.slice none 0 0)∧w.cell? ⟨W.heap.size+1,3,none⟩=some (.slice none 0 0))∧∀ j,w.frozen? ⟨W.heap.size+1,j,none⟩=false):=fun w g=>by
    have hb:=g.block (W.heap.size+1) (by simp) (by simp)
    refine ⟨⟨g.cell (by simp) (by simp),g.cell (by simp) (by simp)⟩,⟨g.cell (by simp) (by simp),g.cell (by simp) (by simp),g.cell (by simp) (by simp),g.cell (by simp) (by simp)⟩,fun j=>?_⟩
    rw [World.frozen?_of_block hb];simp
  obtain ⟨L,hL⟩ : ∃ L,L=n / 3:=⟨_,rfl⟩
  have hnL:n=L*3:=by have:=Nat.div_add_mod n 3;omega
  have hlen:=fun w'=>(Length_any 2 n (by decide) p n hn w':Calls Tryz.prog 102 #[.agg #[.int .u8 2,.slice p n n]] w' fun e w''=>e=.returned (.int .i64 (n / widN 2:Nat))∧w'.grownBy w'' none)
  have ew:n / widN 2=L:=hL.symm
  rw [ew] at hlen
  have HLen:=Lib.hid hlen
  have HFV:=Lib.hid (fun w (g:W.grownBy w none)=>hf.mono g)
  have HFlt:=Lib.hid hf.lt
  have HCT:=Lib.hid (fun w=>(SeqCT_any 2 (.slice p n n) ⟨_,_,_,rfl⟩ w:Calls Tryz.prog 126 #[.agg #[.int .u8 2,.slice p n n]] w fun e w'=>e=.returned (.int .u8 2)∧w.grownBy w' none))
  have HN:Hid (flC f n=flC f (L*3)):=by show flC f n=flC f (L*3);rw [hnL]
  have hLb:L*3≤2000:=by omega
  have hLn:Hid (L*3=n):=hnL.symm
  clear hf hL hnL hlen ew hm
  have hsf:=run_store_flt Tryz.prog
  go_enter Tryz.func144,Tryz.ntmps144
  go_wp2_with (first
    | (go_at_call 126;refine (HCT.out _).mono ?_;rintro e w1 ⟨rfl,hg1⟩;obtain ⟨⟨k0,k1⟩,_,_⟩:=HC.out _ hg1;have hz1:W.heap.size<w1.heap.size:=(by have:=hg1.size;simp at this;omega);have hz2:W.heap.size+1<w1.heap.size:=(by have:=hg1.size;simp at this;omega)))
  have I0:=NumB.new (gt_trans HG.out hg1 (.inl rfl)) 2 2
  have HI0:=Lib.hid I0
  clear I0
  have HBx:Hid (∀ wr,Und W (w1.alloc (.cells #[.int .i64 2,.int .i64 2,.slice none 0 0,.slice none 0 0] 33)) (w1.heap.size+1) w1.heap.size wr→(wr.cell? ⟨W.heap.size,0,none⟩=some (.int .u8 2)∧wr.cell? ⟨W.heap.size,1,none⟩=some (.slice p n n))∧(wr.cell? ⟨W.heap.size+1,0,none⟩=some (.int .i64 0)∧wr.cell? ⟨W.heap.size+1,1,none⟩=some (.int .i64 0)∧wr.cell? ⟨W.heap.size+1,2,none⟩=some (.slice none 0 0)∧wr.cell? ⟨W.heap.size+1,3,none⟩=some (.slice none 0 0))∧∀ j,wr.frozen? ⟨W.heap.size+1,j,none⟩=false):=fun wr u=>by
    obtain ⟨⟨e0,e1⟩,⟨f0,f1,f2,f3⟩,fz⟩:=HC.out (w1.alloc (.cells #[.int .i64 2,.int .i64 2,.slice none 0 0,.slice none 0 0] 33)) (gt_alloc_r hg1 _)
    have kp:∀ b j x,b<w1.heap.size→(w1.alloc (.cells #[.int .i64 2,.int .i64 2,.slice none 0 0,.slice none 0 0] 33)).cell? ⟨b,j,none⟩=some x→wr.cell? ⟨b,j,none⟩=some x:=fun b j x hb h=>u.keep _ _ (by show b<_;omega) (by show b≠_;omega) h
    exact ⟨⟨kp _ _ _ hz1 e0,kp _ _ _ hz1 e1⟩,⟨kp _ _ _ hz2 f0,kp _ _ _ hz2 f1,kp _ _ _ hz2 f2,kp _ _ _ hz2 f3⟩,fun j=>by rw [u.kf _ j (by omega) (by omega)];exact fz j⟩
  clear HC k0 k1
  have HU:Hid (∀ (wc w6 w7:World) (x:Value) (m:Nat) (xs:List Value),NumB W (w1.alloc (.cells #[.int .i64 2,.int .i64 2,.slice none 0 0,.slice none 0 0] 33)) (w1.heap.size+1) w1.heap.size wc 2 2 x m xs→wc.grownBy w6 none→w6.grownBy w7 x.ownBlock→w7.cell? ⟨w1.heap.size,2,none⟩=some x∧w7.frozen? ⟨w1.heap.size,2,none⟩=false∧w1.heap.size<w7.heap.size):=fun wc w6 w7 x m xs i g g'=>by
    have hi:=i.kept g
    have hne:some w1.heap.size≠x.ownBlock:=fun e=>by have:=(hi.own.lt _ e.symm).1;omega
    exact ⟨g'.cell hi.o2 hne,by rw [World.frozen?_of_block (g'.block w1.heap.size (by have:=hi.u.big;omega) hne)];exact hi.u.of_ 2,by have h1:=hi.u.big;have h2:=g'.size;omega⟩
  have HCw:Hid (∀ (wc w6 w7:World) (x:Value) (m b:Nat) (xs:List Value),NumB W (w1.alloc (.cells #[.int .i64 2,.int .i64 2,.slice none 0 0,.slice none 0 0] 33)) (w1.heap.size+1) w1.heap.size wc 2 2 x m xs→wc.grownBy w6 none→w6.grownBy w7 x.ownBlock→x.ownBlock≠some b→∀ j v,w6.cell? ⟨b,j,none⟩=some v→w7.cell? ⟨b,j,none⟩=some v):=fun wc w6 w7 x m b xs i g g' h1 j v hv=>g'.cell hv (fun e=>h1 e.symm)
  have HCs:Hid (∀ (w:World) (y v:Value) (b j:Nat) (O:Obj),w1.heap.size<b→w.cell? ⟨b,j,none⟩=some v→((w.setCell ⟨w1.heap.size,2,none⟩ y).alloc O).cell? ⟨b,j,none⟩=some v):=fun w y v b j O hb hv=>(World.grownBy_alloc _ O none).cell (by rw [World.cell?_setCell_other (h:=fun e=>by injection e with e;omega)];exact hv) (by simp)
  go_loopw [4] (fun i wr=>∃ (k:Nat) (x:Value),k≤L∧i=.int .i64 k∧NumB W (w1.alloc (.cells #[.int .i64 2,.int .i64 2,.slice none 0 0,.slice none 0 0] 33)) (w1.heap.size+1) w1.heap.size wr 2 2 x (k*3) (flC f (k*3))) (fun i _=>L - (intOf i).toNat)
  case atStart=>exact ⟨0,_,by omega,rfl,by rw [Nat.zero_mul];exact HI0.out⟩
  case round =>
    clear HI0
    obtain ⟨k,x,hk,rfl,I⟩:=hrel
    rename World=>wr
    obtain ⟨⟨k0,k1⟩,⟨r0,r1,r2,r3⟩,rf⟩:=HBx.out _ I.u
    obtain ⟨px,cx,rfl,_⟩:=own_form I.own
    have hbig:=I.u.big
    have hzA:W.heap.size<wr.heap.size:=by omega
    have hzB:W.heap.size+1<wr.heap.size:=by omega
    have hzC:w1.heap.size<wr.heap.size:=by omega
    by_cases hkL:k<L
    · obtain ⟨a,rfl⟩:=(HFV.out _ I.u.g).some_ (by have:=hLn.out;omega)
      have hkw:k*3+3≤2000:=by omega
      have HI:=Lib.hid I
      have HGet:=Lib.hid (fun w (g:wr.grownBy w none)=>Get_2 n k a f hn (by have:=hLn.out;omega) w (HFV.out w (gt_trans HI.out.u.g g (.inl rfl))))
      have HS:Hid (∀ w,wr.grownBy w none→w.cell? ⟨W.heap.size,0,none⟩=some (.int .u8 2)∧w.cell? ⟨W.heap.size,1,none⟩=some (.slice (some a) n n)∧w.cell? ⟨w1.heap.size,2,none⟩=some (.slice px (k*3) cx)):=fun w g=>⟨g.cell k0 (by simp),g.cell k1 (by simp),(HI.out.kept g).o2⟩
      clear I
      go_wp2_with (first
        | (go_at_call 102;refine (HLen.out _).mono ?_;rintro e w2 ⟨rfl,hg2⟩;obtain ⟨b0,b1,b2⟩:=HS.out _ hg2)
        | (go_at_call 106;refine (HGet.out _ hg2).mono ?_;rintro e w3 ⟨rfl,hg3⟩;have G3:=gt_trans hg2 hg3 (.inl rfl);obtain ⟨q0,q1,q2⟩:=HS.out _ G3;have hzD:w1.heap.size<w3.heap.size:=(by have:=G3.size;omega);have I3:=HI.out.kept G3;have HI3:=Lib.hid I3;have HOHI3:Hid ((Value.slice px (k*3) cx).ownBlock≠some w3.heap.size):=(fun e=>by have:=(I3.own.lt _ e).2;have:=(HI.out.own.lt _ e).2;have:=G3.size;omega);clear I3)
        | (at_builtin;go_loud (refine app_cells2 (size:=1) (n:=k*3) (xs:=flC f (k*3)) (base:=w1.heap.size+1) rfl _ _ _ rfl Tryz.underlying30 (.float .f64 0) 8 infoFlt rfl (Nat.succ_pos 0) rfl rfl (by simp) _ (HI3.out.kept (gt_alloc_r (World.grownBy_alloc _ _ _) _)).own rfl (by simp [Value.oneCell']) (Nat.succ_pos 1) (by simp;omega) (by omega) (by omega) ?_;intro ggA capA wA hownA hgA hatA;have GA:=gt_alloc_r (World.grownBy_alloc w3 (.cells #[.float .f64 (f (k*3)),.float .f64 (f (k*3+1)),.float .f64 0,.float .f64 (f (k*3+2)),.int .u8 2] 85) none) (.cells #[.float .f64 (f (k*3)),.float .f64 (f (k*3+1))] 26);obtain ⟨uA,ufA,hzA⟩:=HU.out _ _ _ _ _ _ HI3.out GA hgA;have cA2:=HCw.out _ _ _ _ _ w3.heap.size _ HI3.out GA hgA HOHI3.out 2 (.float .f64 0) (by simp);have cA3:=HCw.out _ _ _ _ _ w3.heap.size _ HI3.out GA hgA HOHI3.out 3 (.float .f64 (f (k*3+2))) (by simp);have cA4:=HCw.out _ _ _ _ _ w3.heap.size _ HI3.out GA hgA HOHI3.out 4 (.int .u8 2) (by simp);have HFA:=Lib.hid (HI3.out.app GA hgA hownA);have hsA:w3.heap.size<wA.heap.size:=(by have h2:=hgA.size;simp at h2;omega);have HOHFA:Hid ((Value.slice (some ⟨ggA,0,none⟩) (k*3+2) capA).ownBlock≠some w3.heap.size):=(fun e=>by injection e with e;have e2:ggA=w3.heap.size:=e;rcases hatA with h | h;exact HOHI3.out (h.trans (congrArg some e2));simp at h;omega);clear hownA hatA))
        | (go_at_call 142;refine (Is3D_lit 2 false (by simp) _).mono ?_;rintro e wx ⟨rfl,rfl⟩)
        | (go_at_call 143;refine (IsMeasured_lit 2 true (by simp) _).mono ?_;rintro e wx ⟨rfl,rfl⟩)
        | (at_builtin;go_loud (refine app_cells2 (size:=1) (n:=k*3+2) (xs:=flC f (k*3)++[.float .f64 (f (k*3)),.float .f64 (f (k*3+1))]) (base:=w1.heap.size+1) rfl _ _ _ rfl Tryz.underlying30 (.float .f64 0) 8 infoFlt rfl (Nat.succ_pos 0) rfl rfl (by simp) _ (HFA.out.kept (World.grownBy_alloc _ _ _)).own rfl (by simp [Value.oneCell']) (Nat.succ_pos 0) (by simp [World.setCell];omega) (by omega) (by omega) ?_;intro ggM capM wM hownM hgM hatM;have GM:=World.grownBy_alloc (wA.setCell ⟨w1.heap.size,2,none⟩ (.slice (some ⟨ggA,0,none⟩) (k*3+2) capA)) (.cells #[.float .f64 (f (k*3+2))] 26) none;obtain ⟨uM,ufM,hzM⟩:=HU.out _ _ _ _ _ _ HFA.out GM hgM;have cM2:=HCw.out _ _ _ _ _ w3.heap.size _ HFA.out GM hgM HOHFA.out 2 (.float .f64 0) (HCs.out _ _ _ _ 2 _ hzD cA2);have cM3:=HCw.out _ _ _ _ _ w3.heap.size _ HFA.out GM hgM HOHFA.out 3 (.float .f64 (f (k*3+2))) (HCs.out _ _ _ _ 3 _ hzD cA3);have cM4:=HCw.out _ _ _ _ _ w3.heap.size _ HFA.out GM hgM HOHFA.out 4 (.int .u8 2) (HCs.out _ _ _ _ 4 _ hzD cA4);have HFM:=Lib.hid (HFA.out.app GM hgM hownM);have hsM:w3.heap.size<wM.heap.size:=(by have h2:=hgM.size;simp [World.setCell] at h2;omega);have HOHFM:Hid ((Value.slice (some ⟨ggM,0,none⟩) (k*3+2+1) capM).ownBlock≠some w3.heap.size):=(fun e=>by injection e with e;have e2:ggM=w3.heap.size:=e;rcases hatM with h | h;exact HOHFA.out (h.trans (congrArg some e2));simp [World.setCell] at h;omega);clear hownM hatM)))
      have I9:=HFM.out
      have e9:flC f ((k+1)*3)=flC f (k*3)++[.float .f64 (f (k*3)),.float .f64 (f (k*3+1))]++[.float .f64 (f (k*3+2))]:=by rw [show (k+1)*3=k*3+3 by omega,flC_3];try simp only [List.append_assoc]
      have e8:(k+1)*3=k*3+2+1:=by omega
      exact ⟨⟨k+1,_,by omega,by go_num,I9.cast e8.symm e9.symm⟩,by simp [intOf];omega⟩
    · obtain rfl:k=L:=by omega
      have HI:=Lib.hid I
      clear I
      go_wp2_with (first
        | (go_at_call 102;refine (HLen.out _).mono ?_;rintro e w2 ⟨rfl,hg2⟩;have I2:=HI.out.kept hg2;have hI3:=I2;rw [hLn.out] at hI3;obtain ⟨pn,cn,hx,I4⟩:=KidB.of_num (f:=f) (n:=n) hI3 0 HFlt.out;have o0:=I2.o0;have o1:=I2.o1;have o2:=I2.o2;have o3:=I2.o3;obtain ⟨_,⟨s0,s1,s2,s3⟩,sf⟩:=HBx.out _ I2.u;have sf0:=sf 0;have sf1:=sf 1;have sf2:=sf 2;have sf3:=sf 3;have HE:=Lib.hid (I4.end_ (W.heap.size+1) (by omega) (by omega));have HX:=Lib.hid hx;have hzE:W.heap.size+1<w2.heap.size:=(by have:=hg2.size;omega);clear I2 I4 hI3 hx))
      go_wp2_with fail
      refine bodyPost_ret (by simp [results,Tryz.results144,go_sem,s0,s1,s2,s3];try rfl) rfl ?_
      have hx:=HX.out
      rw [←hLn.out] at hx
      injection hx with hx1 hx2 hx3
      have hE:=HE.out
      rw [←hx1,←hx3,←hLn.out] at hE
      rw [←hLn.out]
      exact ⟨_,rfl,hE.1,hE.2⟩
theorem plSeq_3 (n:Nat) (p:Option Addr) (f:Nat→Nat) (hn:n≤2000) (hm:n % 4=0) (W:World) (hf:FVal W p n f) :
    Calls Tryz.prog 144 #[.agg #[.int .u8 3,.slice p n n]] W fun e w'=>∃ v',e=.returned v'∧KD (Fr W w') 1 w' v' (.mk 2 (3:Nat) n f [])∧W.grownBy w' none:=by
  have HG:=Lib.hid (gt_alloc_r (World.grownBy_alloc W (.cells #[.int .u8 3,.slice p n n] 91) none) (.cells #[.int .i64 0,.int .i64 0,.slice none 0 0,.slice none 0 0] 33))
  have HC:Hid (∀ w,((W.alloc (.cells #[.int .u8 3,.slice p n n] 91)).alloc (.cells #[.int .i64 0,.int .i64 0,.slice none 0 0,.slice none 0 0] 33)).grownBy w none→(w.cell? ⟨W.heap.size,0,none⟩=some (.int .u8 3)∧w.cell? ⟨W.heap.size,1,none⟩=some (.slice p n n))∧(w.cell? ⟨W.heap.size+1,0,none⟩=some (.int .i64 0)∧w.cell? ⟨W.heap.size+1,1,none⟩=some (.int .i64 0)∧w.cell? ⟨W.heap.size+1,2,none⟩=some (.slice none 0 0)∧w.cell? ⟨W.heap.size+1,3,none⟩=some (.slice none 0 0))∧∀ j,w.frozen? ⟨W.heap.size+1,j,none⟩=false):=fun w g=>by
    have hb:=g.block (W.heap.size+1) (by simp) (by simp)
    refine ⟨⟨g.cell (by simp) (by simp),g.cell (by simp) (by simp)⟩,⟨g.cell (by simp) (by simp),g.cell (by simp) (by simp),g.cell (by simp) (by simp),g.cell (by simp) (by simp)⟩,fun j=>?_⟩
    rw [World.frozen?_of_block hb];simp
  obtain ⟨L,hL⟩ : ∃ L,L=n / 4:=⟨_,rfl⟩
  have hnL:n=L*4:=by have:=Nat.div_add_mod n 4;omega
  have hlen:=fun w'=>(Length_any 3 n (by decide) p n hn w':Calls Tryz.prog 102 #[.agg #[.int .u8 3,.slice p n n]] w' fun e w''=>e=.returned (.int .i64 (n / widN 3:Nat))∧w'.grownBy w'' none)
  have ew:n / widN 3=L:=hL.symm
  rw [ew] at hlen
  have HLen:=Lib.hid hlen
  have HFV:=Lib.hid (fun w (g:W.grownBy w none)=>hf.mono g)
  have HFlt:=Lib.hid hf.lt
  have HCT:=Lib.hid (fun w=>(SeqCT_any 3 (.slice p n n) ⟨_,_,_,rfl⟩ w:Calls Tryz.prog 126 #[.agg #[.int .u8 3,.slice p n n]] w fun e w'=>e=.returned (.int .u8 3)∧w.grownBy w' none))
  have HN:Hid (flC f n=flC f (L*4)):=by show flC f n=flC f (L*4);rw [hnL]
  have hLb:L*4≤2000:=by omega
  have hLn:Hid (L*4=n):=hnL.symm
  clear hf hL hnL hlen ew hm
  have hsf:=run_store_flt Tryz.prog
  go_enter Tryz.func144,Tryz.ntmps144
  go_wp2_with (first
    | (go_at_call 126;refine (HCT.out _).mono ?_;rintro e w1 ⟨rfl,hg1⟩;obtain ⟨⟨k0,k1⟩,_,_⟩:=HC.out _ hg1;have hz1:W.heap.size<w1.heap.size:=(by have:=hg1.size;simp at this;omega);have hz2:W.heap.size+1<w1.heap.size:=(by have:=hg1.size;simp at this;omega)))
  have I0:=NumB.new (gt_trans HG.out hg1 (.inl rfl)) 2 3
  have HI0:=Lib.hid I0
  clear I0
  have HBx:Hid (∀ wr,Und W (w1.alloc (.cells #[.int .i64 2,.int .i64 3,.slice none 0 0,.slice none 0 0] 33)) (w1.heap.size+1) w1.heap.size wr→(wr.cell? ⟨W.heap.size,0,none⟩=some (.int .u8 3)∧wr.cell? ⟨W.heap.size,1,none⟩=some (.slice p n n))∧(wr.cell? ⟨W.heap.size+1,0,none⟩=some (.int .i64 0)∧wr.cell? ⟨W.heap.size+1,1,none⟩=some (.int .i64 0)∧wr.cell? ⟨W.heap.size+1,2,none⟩=some (.slice none 0 0)∧wr.cell? ⟨W.heap.size+1,3,none⟩=some (.slice none 0 0))∧∀ j,wr.frozen? ⟨W.heap.size+1,j,none⟩=false):=fun wr u=>by
    obtain ⟨⟨e0,e1⟩,⟨f0,f1,f2,f3⟩,fz⟩:=HC.out (w1.alloc (.cells #[.int .i64 2,.int .i64 3,.slice none 0 0,.slice none 0 0] 33)) (gt_alloc_r hg1 _)
    have kp:∀ b j x,b<w1.heap.size→(w1.alloc (.cells #[.int .i64 2,.int .i64 3,.slice none 0 0,.slice none 0 0] 33)).cell? ⟨b,j,none⟩=some x→wr.cell? ⟨b,j,none⟩=some x:=fun b j x hb h=>u.keep _ _ (by show b<_;omega) (by show b≠_;omega) h
    exact ⟨⟨kp _ _ _ hz1 e0,kp _ _ _ hz1 e1⟩,⟨kp _ _ _ hz2 f0,kp _ _ _ hz2 f1,kp _ _ _ hz2 f2,kp _ _ _ hz2 f3⟩,fun j=>by rw [u.kf _ j (by omega) (by omega)];exact fz j⟩
  clear HC k0 k1
  have HU:Hid (∀ (wc w6 w7:World) (x:Value) (m:Nat) (xs:List Value),NumB W (w1.alloc (.cells #[.int .i64 2,.int .i64 3,.slice none 0 0,.slice none 0 0] 33)) (w1.heap.size+1) w1.heap.size wc 2 3 x m xs→wc.grownBy w6 none→w6.grownBy w7 x.ownBlock→w7.cell? ⟨w1.heap.size,2,none⟩=some x∧w7.frozen? ⟨w1.heap.size,2,none⟩=false∧w1.heap.size<w7.heap.size):=fun wc w6 w7 x m xs i g g'=>by
    have hi:=i.kept g
    have hne:some w1.heap.size≠x.ownBlock:=fun e=>by have:=(hi.own.lt _ e.symm).1;omega
    exact ⟨g'.cell hi.o2 hne,by rw [World.frozen?_of_block (g'.block w1.heap.size (by have:=hi.u.big;omega) hne)];exact hi.u.of_ 2,by have h1:=hi.u.big;have h2:=g'.size;omega⟩
  have HCw:Hid (∀ (wc w6 w7:World) (x:Value) (m b:Nat) (xs:List Value),NumB W (w1.alloc (.cells #[.int .i64 2,.int .i64 3,.slice none 0 0,.slice none 0 0] 33)) (w1.heap.size+1) w1.heap.size wc 2 3 x m xs→wc.grownBy w6 none→w6.grownBy w7 x.ownBlock→x.ownBlock≠some b→∀ j v,w6.cell? ⟨b,j,none⟩=some v→w7.cell? ⟨b,j,none⟩=some v):=fun wc w6 w7 x m b xs i g g' h1 j v hv=>g'.cell hv (fun e=>h1 e.symm)
  have HCs:Hid (∀ (w:World) (y v:Value) (b j:Nat) (O:Obj),w1.heap.size<b→w.cell? ⟨b,j,none⟩=some v→((w.setCell ⟨w1.heap.size,2,none⟩ y).alloc O).cell? ⟨b,j,none⟩=some v):=fun w y v b j O hb hv=>(World.grownBy_alloc _ O none).cell (by rw [World.cell?_setCell_other (h:=fun e=>by injection e with e;omega)];exact hv) (by simp)
  go_loopw [4] (fun i wr=>∃ (k:Nat) (x:Value),k≤L∧i=.int .i64 k∧NumB W (w1.alloc (.cells #[.int .i64 2,.int .i64 3,.slice none 0 0,.slice none 0 0] 33)) (w1.heap.size+1) w1.heap.size wr 2 3 x (k*4) (flC f (k*4))) (fun i _=>L - (intOf i).toNat)
  case atStart=>exact ⟨0,_,by omega,rfl,by rw [Nat.zero_mul];exact HI0.out⟩
  case round =>
    clear HI0
    obtain ⟨k,x,hk,rfl,I⟩:=hrel
    rename World=>wr
    obtain ⟨⟨k0,k1⟩,⟨r0,r1,r2,r3⟩,rf⟩:=HBx.out _ I.u
    obtain ⟨px,cx,rfl,_⟩:=own_form I.own
    have hbig:=I.u.big
    have hzA:W.heap.size<wr.heap.size:=by omega
    have hzB:W.heap.size+1<wr.heap.size:=by omega
    have hzC:w1.heap.size<wr.heap.size:=by omega
    by_cases hkL:k<L
    · obtain ⟨a,rfl⟩:=(HFV.out _ I.u.g).some_ (by have:=hLn.out;omega)
      have hkw:k*4+4≤2000:=by omega
      have HI:=Lib.hid I
      have HGet:=Lib.hid (fun w (g:wr.grownBy w none)=>Get_3 n k a f hn (by have:=hLn.out;omega) w (HFV.out w (gt_trans HI.out.u.g g (.inl rfl))))
      have HS:Hid (∀ w,wr.grownBy w none→w.cell? ⟨W.heap.size,0,none⟩=some (.int .u8 3)∧w.cell? ⟨W.heap.size,1,none⟩=some (.slice (some a) n n)∧w.cell? ⟨w1.heap.size,2,none⟩=some (.slice px (k*4) cx)):=fun w g=>⟨g.cell k0 (by simp),g.cell k1 (by simp),(HI.out.kept g).o2⟩
      clear I
      go_wp2_with (first
        | (go_at_call 102;refine (HLen.out _).mono ?_;rintro e w2 ⟨rfl,hg2⟩;obtain ⟨b0,b1,b2⟩:=HS.out _ hg2)
        | (go_at_call 106;refine (HGet.out _ hg2).mono ?_;rintro e w3 ⟨rfl,hg3⟩;have G3:=gt_trans hg2 hg3 (.inl rfl);obtain ⟨q0,q1,q2⟩:=HS.out _ G3;have hzD:w1.heap.size<w3.heap.size:=(by have:=G3.size;omega);have I3:=HI.out.kept G3;have HI3:=Lib.hid I3;have HOHI3:Hid ((Value.slice px (k*4) cx).ownBlock≠some w3.heap.size):=(fun e=>by have:=(I3.own.lt _ e).2;have:=(HI.out.own.lt _ e).2;have:=G3.size;omega);clear I3)
        | (at_builtin;go_loud (refine app_cells2 (size:=1) (n:=k*4) (xs:=flC f (k*4)) (base:=w1.heap.size+1) rfl _ _ _ rfl Tryz.underlying30 (.float .f64 0) 8 infoFlt rfl (Nat.succ_pos 0) rfl rfl (by simp) _ (HI3.out.kept (gt_alloc_r (World.grownBy_alloc _ _ _) _)).own rfl (by simp [Value.oneCell']) (Nat.succ_pos 1) (by simp;omega) (by omega) (by omega) ?_;intro ggA capA wA hownA hgA hatA;have GA:=gt_alloc_r (World.grownBy_alloc w3 (.cells #[.float .f64 (f (k*4)),.float .f64 (f (k*4+1)),.float .f64 (f (k*4+2)),.float .f64 (f (k*4+3)),.int .u8 3] 85) none) (.cells #[.float .f64 (f (k*4)),.float .f64 (f (k*4+1))] 26);obtain ⟨uA,ufA,hzA⟩:=HU.out _ _ _ _ _ _ HI3.out GA hgA;have cA2:=HCw.out _ _ _ _ _ w3.heap.size _ HI3.out GA hgA HOHI3.out 2 (.float .f64 (f (k*4+2))) (by simp);have cA3:=HCw.out _ _ _ _ _ w3.heap.size _ HI3.out GA hgA HOHI3.out 3 (.float .f64 (f (k*4+3))) (by simp);have cA4:=HCw.out _ _ _ _ _ w3.heap.size _ HI3.out GA hgA HOHI3.out 4 (.int .u8 3) (by simp);have HFA:=Lib.hid (HI3.out.app GA hgA hownA);have hsA:w3.heap.size<wA.heap.size:=(by have h2:=hgA.size;simp at h2;omega);have HOHFA:Hid ((Value.slice (some ⟨ggA,0,none⟩) (k*4+2) capA).ownBlock≠some w3.heap.size):=(fun e=>by injection e with e;have e2:ggA=w3.heap.size:=e;rcases hatA with h | h;exact HOHI3.out (h.trans (congrArg some e2));simp at h;omega);clear hownA hatA))
        | (go_at_call 142;refine (Is3D_lit 3 true (by simp) _).mono ?_;rintro e wx ⟨rfl,rfl⟩)
        | (go_at_call 143;refine (IsMeasured_lit 3 true (by simp) _).mono ?_;rintro e wx ⟨rfl,rfl⟩)
        | (at_builtin;go_loud (refine app_cells2 (size:=1) (n:=k*4+2) (xs:=flC f (k*4)++[.float .f64 (f (k*4)),.float .f64 (f (k*4+1))]) (base:=w1.heap.size+1) rfl _ _ _ rfl Tryz.underlying30 (.float .f64 0) 8 infoFlt rfl (Nat.succ_pos 0) rfl rfl (by simp) _ (HFA.out.kept (World.grownBy_alloc _ _ _)).own rfl (by simp [Value.oneCell']) (Nat.succ_pos 0) (by simp [World.setCell];omega) (by omega) (by omega) ?_;intro ggZ capZ wZ hownZ hgZ hatZ;have GZ:=World.grownBy_alloc (wA.setCell ⟨w1.heap.size,2,none⟩ (.slice (some ⟨ggA,0,none⟩) (k*4+2) capA)) (.cells #[.float .f64 (f (k*4+2))] 26) none;obtain ⟨uZ,ufZ,hzZ⟩:=HU.out _ _ _ _ _ _ HFA.out GZ hgZ;have cZ2:=HCw.out _ _ _ _ _ w3.heap.size _ HFA.out GZ hgZ HOHFA.out 2 (.float .f64 (f (k*4+2))) (HCs.out _ _ _ _ 2 _ hzD cA2);have cZ3:=HCw.out _ _ _ _ _ w3.heap.size _ HFA.out GZ hgZ HOHFA.out 3 (.float .f64 (f (k*4+3))) (HCs.out _ _ _ _ 3 _ hzD cA3);have cZ4:=HCw.out _ _ _ _ _ w3.heap.size _ HFA.out GZ hgZ HOHFA.out 4 (.int .u8 3) (HCs.out _ _ _ _ 4 _ hzD cA4);have HFZ:=Lib.hid (HFA.out.app GZ hgZ hownZ);have hsZ:w3.heap.size<wZ.heap.size:=(by have h2:=hgZ.size;simp [World.setCell] at h2;omega);have HOHFZ:Hid ((Value.slice (some ⟨ggZ,0,none⟩) (k*4+2+1) capZ).ownBlock≠some w3.heap.size):=(fun e=>by injection e with e;have e2:ggZ=w3.heap.size:=e;rcases hatZ with h | h;exact HOHFA.out (h.trans (congrArg some e2));simp [World.setCell] at h;omega);clear hownZ hatZ))
        | (at_builtin;go_loud (refine app_cells2 (size:=1) (n:=k*4+2+1) (xs:=flC f (k*4)++[.float .f64 (f (k*4)),.float .f64 (f (k*4+1))]++[.float .f64 (f (k*4+2))]) (base:=w1.heap.size+1) rfl _ _ _ rfl Tryz.underlying30 (.float .f64 0) 8 infoFlt rfl (Nat.succ_pos 0) rfl rfl (by simp) _ (HFZ.out.kept (World.grownBy_alloc _ _ _)).own rfl (by simp [Value.oneCell']) (Nat.succ_pos 0) (by simp [World.setCell];omega) (by omega) (by omega) ?_;intro ggM capM wM hownM hgM hatM;have GM:=World.grownBy_alloc (wZ.setCell ⟨w1.heap.size,2,none⟩ (.slice (some ⟨ggZ,0,none⟩) (k*4+2+1) capZ)) (.cells #[.float .f64 (f (k*4+3))] 26) none;obtain ⟨uM,ufM,hzM⟩:=HU.out _ _ _ _ _ _ HFZ.out GM hgM;have cM2:=HCw.out _ _ _ _ _ w3.heap.size _ HFZ.out GM hgM HOHFZ.out 2 (.float .f64 (f (k*4+2))) (HCs.out _ _ _ _ 2 _ hzD cZ2);have cM3:=HCw.out _ _ _ _ _ w3.heap.size _ HFZ.out GM hgM HOHFZ.out 3 (.float .f64 (f (k*4+3))) (HCs.out _ _ _ _ 3 _ hzD cZ3);have cM4:=HCw.out _ _ _ _ _ w3.heap.size _ HFZ.out GM hgM HOHFZ.out 4 (.int .u8 3) (HCs.out _ _ _ _ 4 _ hzD cZ4);have HFM:=Lib.hid (HFZ.out.app GM hgM hownM);have hsM:w3.heap.size<wM.heap.size:=(by have h2:=hgM.size;simp [World.setCell] at h2;omega);have HOHFM:Hid ((Value.slice (some ⟨ggM,0,none⟩) (k*4+2+1+1) capM).ownBlock≠some w3.heap.size):=(fun e=>by injection e with e;have e2:ggM=w3.heap.size:=e;rcases hatM with h | h;exact HOHFZ.out (h.trans (congrArg some e2));simp [World.setCell] at h;omega);clear hownM hatM)))
      have I9:=HFM.out
      have e9:flC f ((k+1)*4)=flC f (k*4)++[.float .f64 (f (k*4)),.float .f64 (f (k*4+1))]++[.float .f64 (f (k*4+2))]++[.float .f64 (f (k*4+3))]:=by rw [show (k+1)*4=k*4+4 by omega,flC_4];try simp only [List.append_assoc]
      have e8:(k+1)*4=k*4+2+1+1:=by omega
      exact ⟨⟨k+1,_,by omega,by go_num,I9.cast e8.symm e9.symm⟩,by simp [intOf];omega⟩
    · obtain rfl:k=L:=by omega
      have HI:=Lib.hid I
      clear I
      go_wp2_with (first
        | (go_at_call 102;refine (HLen.out _).mono ?_;rintro e w2 ⟨rfl,hg2⟩;have I2:=HI.out.kept hg2;have hI3:=I2;rw [hLn.out] at hI3;obtain ⟨pn,cn,hx,I4⟩:=KidB.of_num (f:=f) (n:=n) hI3 0 HFlt.out;have o0:=I2.o0;have o1:=I2.o1;have o2:=I2.o2;have o3:=I2.o3;obtain ⟨_,⟨s0,s1,s2,s3⟩,sf⟩:=HBx.out _ I2.u;have sf0:=sf 0;have sf1:=sf 1;have sf2:=sf 2;have sf3:=sf 3;have HE:=Lib.hid (I4.end_ (W.heap.size+1) (by omega) (by omega));have HX:=Lib.hid hx;have hzE:W.heap.size+1<w2.heap.size:=(by have:=hg2.size;omega);clear I2 I4 hI3 hx))
      go_wp2_with fail
      refine bodyPost_ret (by simp [results,Tryz.results144,go_sem,s0,s1,s2,s3];try rfl) rfl ?_
      have hx:=HX.out
      rw [←hLn.out] at hx
      injection hx with hx1 hx2 hx3
      have hE:=HE.out
      rw [←hx1,←hx3,←hLn.out] at hE
      rw [←hLn.out]
      exact ⟨_,rfl,hE.1,hE.2⟩
end
end Go.Proofs.YtlpaecafpbbbkaaGreatDoor
