/- A row of numbers of the package, of another type of coordinates (printed by genseqforce.py). -/
import Derived.Test.YtlpaecafpbbbkaaGreatDoorBYT4
import Derived.Test.YtlpaecafpbbbkaaGreatDoorBYT6
set_option linter.unusedVariables false
set_option linter.unusedSimpArgs false
set_option maxRecDepth 100000
set_option maxHeartbeats 24000000
namespace Go.Proofs.YtlpaecafpbbbkaaGreatDoor
section
open Go.RowKit
theorem fF_div (r D:Nat) (f:Nat→Nat) (k o:Nat) (ho:o<widN D):fF r D f (k*widN D+o)=if o=0 then plX r f k else if o=1 then plY r f k else if o=2∧D % 2=1 then plZ r f k else plM r f k:=by
  have h1:(k*widN D+o) % widN D=o:=by rw [Nat.mul_comm,Nat.mul_add_mod,Nat.mod_eq_of_lt ho]
  have h2:(k*widN D+o) / widN D=k:=by rw [Nat.mul_comm,Nat.mul_add_div (by omega),Nat.div_eq_of_lt ho,Nat.add_zero]
  unfold fF
  rw [h1,h2]
theorem SeqForce_0 (r n L N:Nat) (a:Addr) (f:Nat→Nat) (hr:r<4) (hne:r≠0) (hn:n≤2000) (hL:n / widN r=L) (hL0:0<n) (hN:N=L*2) (W:World) (hf:FVal W (some a) n f) :
    Calls Tryz.prog 180 #[.agg #[.int .u8 r,.slice (some a) n n],.int .u8 0] W fun e w'=>∃ g,e=.returned (.agg #[.int .u8 0,.slice (some ⟨g,0,none⟩) N N])∧FVal w' (some ⟨g,0,none⟩) N (fF r 0 f)∧W.heap.size≤g∧g<w'.heap.size∧W.grownBy w' none:=by
  have hw2:=widN_le r hr
  have hLn:L≤n:=by rw [←hL];exact Nat.div_le_self _ _
  have HLen:=Lib.hid (fun w=>Length_any r n hr (some a) n hn w)
  rw [hL] at HLen
  have HD:=Lib.hid (fun w=>Dimension_lit 0 2 (by omega) w)
  have HGet:=Lib.hid (fun (i:Nat) (hi:i<L) w (g:W.grownBy w none)=>Get_any r n i a f hr hn (by
    rw [←hL] at hi
    have h1:(i+1)*widN r≤n:=Nat.le_trans (Nat.mul_le_mul_right _ hi) (Nat.div_mul_le_self n (widN r))
    rw [Nat.succ_mul] at h1;exact h1) w (hf.mono g))
  have hflt:=Lib.hid (fun i=>fF_lt hf r 0 i)
  have hrD:((r:Int)==0)=false:=by rw [beq_eq_false_iff_ne];omega
  have hn0:((n:Int)==0)=false:=by rw [beq_eq_false_iff_ne];omega
  have hmul:IntKind.i64.wrap (2*(L:Int))=(N:Int):=by rw [IntKind.wrap_i64];omega
  obtain ⟨i0,hi,hzz⟩:=Option.map_eq_some_iff.1 (show (Tryz.prog.info? 26).map (fun i=>(i.zero,i.size,i.bytes))=some (some (.float .f64 0),1,8) by kernel_rfl)
  simp only [Prod.mk.injEq] at hzz
  have HI:=Lib.hid hzz
  have HG:=Lib.hid (gt_alloc_r (World.grownBy_alloc W (.cells #[.int .u8 r,.slice (some a) n n] 91) none) (.cells #[.int .u8 0,.slice none 0 0] 91))
  have HC:Hid (∀ w,((W.alloc (.cells #[.int .u8 r,.slice (some a) n n] 91)).alloc (.cells #[.int .u8 0,.slice none 0 0] 91)).grownBy w none→w.cell? ⟨W.heap.size,0,none⟩=some (.int .u8 r)∧w.cell? ⟨W.heap.size,1,none⟩=some (.slice (some a) n n)∧w.cell? ⟨W.heap.size+1,0,none⟩=some (.int .u8 0)∧w.cell? ⟨W.heap.size+1,1,none⟩=some (.slice none 0 0)∧(∀ j,w.frozen? ⟨W.heap.size+1,j,none⟩=false)∧W.heap.size+1<w.heap.size):=fun w g=>by
    have hb:=g.block (W.heap.size+1) (by simp) (by simp)
    refine ⟨g.cell (by simp) (by simp),g.cell (by simp) (by simp),g.cell (by simp) (by simp),g.cell (by simp) (by simp),fun j=>?_,?_⟩
    · rw [World.frozen?_of_block hb];simp
    · have:=g.size;simp at this;omega
  generalize hW0:(W.alloc (.cells #[.int .u8 r,.slice (some a) n n] 91)).alloc (.cells #[.int .u8 0,.slice none 0 0] 91)=W0 at HG HC
  have hs0:W0.heap.size=W.heap.size+2:=by rw [←hW0];simp
  have HW0:=Lib.hid hW0
  have hgs:∀ (w:World) (b jj:Nat) (y:Value),W0.heap.size≤b→W0.grownBy w none→W0.grownBy (w.setCell ⟨b,jj,none⟩ y) none:=fun w b jj y hb g=>gt_set_r g _ _ hb
  have HGs:=Lib.hid hgs
  have hsf:=run_store_flt Tryz.prog
  have hN1:N≤8000:=by omega
  have HN:=Lib.hid hN
  clear hf hL hzz hW0 hgs hw2 hN
  go_enter Tryz.func180,Tryz.ntmps180
  go_wp2_with (first
    | (go_at_call 102;refine (HLen.out _).mono ?_;rintro e w' ⟨rfl,hgl⟩;rw [HW0.out] at hgl)
    | (go_at_call 168;refine (HD.out _).mono ?_;rintro e w3 ⟨rfl,rfl⟩)
    | (at_make;refine wpList_make_full _ rfl _ _ _ rfl W0.heap.size 26 i0 (.float .f64 0) 1 Tryz.underlying30 hi HI.out.1 HI.out.2.1 .i64 .i64 _ _ N rfl rfl rfl rfl (by rw [HI.out.2.2];omega) (by unfold maxLen;omega) hgl.size ?_;intro w1 hown hg1;have hgW:=gt_trans hgl hg1 (.inl rfl);obtain ⟨k0,k1,k2,k3,kf,klt⟩:=HC.out _ hgW))
  obtain ⟨xs0,hxs0⟩ : ∃ xs0,xs0=(madeCells (Value.cells (.float .f64 0)) (N*1)).toList:=⟨_,rfl⟩
  rw [←hxs0] at hown
  have hb0:=hgl.size
  generalize w3.heap.size=g at hown hb0 ⊢
  clear hxs0 k0 k1 k2 k3 kf klt
  go_loopw [8] (fun i wr=>∃ (k:Nat) (xs:List Value),k≤L∧i=.int .i64 k∧W0.grownBy wr none∧wr.ownsRow W0.heap.size 26 1 (.slice (some ⟨g,0,none⟩) N N) N xs∧∀ l,l<k*2→xs[l]?=some (.float .f64 (fF r 0 f l))) (fun i _=>L - (intOf i).toNat)
  case atStart=>exact ⟨0,xs0,by omega,rfl,hgW,hown,fun l h=>absurd h (by omega)⟩
  case round =>
    clear hown
    obtain ⟨k,xs,hk,rfl,Gr,ho,hw⟩:=hrel
    rename World=>wr
    obtain ⟨k0,k1,k2,k3,kf,klt⟩:=HC.out _ Gr
    by_cases hkL:k<L
    · have HG1:=HGet.out k hkL
      obtain ⟨px,hpx⟩ : ∃ px,px=plX r f k:=⟨_,rfl⟩
      obtain ⟨py,hpy⟩ : ∃ py,py=plY r f k:=⟨_,rfl⟩
      obtain ⟨pz,hpz⟩ : ∃ pz,pz=plZ r f k:=⟨_,rfl⟩
      obtain ⟨pm,hpm⟩ : ∃ pm,pm=plM r f k:=⟨_,rfl⟩
      rw [←hpx,←hpy,←hpz,←hpm] at HG1
      have HG2:=Lib.hid HG1
      have hNL:k*2+2≤N:=by rw [HN.out];omega
      have hkb:k≤2000:=by omega
      have hfx:=fF_div r 0 f k
      have HFx:=Lib.hid hfx
      clear hfx HG1
      have hxl:xs.length=N:=by have:=ho.1;omega
      obtain ⟨j0,e0⟩ : ∃ j0,j0=k*2+0:=⟨_,rfl⟩
      obtain ⟨j1,e1⟩ : ∃ j1,j1=k*2+1:=⟨_,rfl⟩
      have hw0:IntKind.i64.wrap (j0:Int)=(j0:Int):=by rw [IntKind.wrap_i64];omega
      have hw1:IntKind.i64.wrap ((j0:Int)+1)=(j1:Int):=by rw [IntKind.wrap_i64];omega
      have d01:¬ j0=j1:=by omega
      have d10:¬ j1=j0:=by omega
      have b00:(0:Int)≤(j0:Int):=by omega
      have b01:(j0:Int)<(N:Int):=by omega
      have b10:(0:Int)≤(j1:Int):=by omega
      have b11:(j1:Int)<(N:Int):=by omega
      have hmj:IntKind.i64.wrap (2*(k:Int))=(j0:Int):=by rw [IntKind.wrap_i64];omega
      have HO:=Lib.hid (fun w (g:wr.grownBy w none)=>ho.kept g (.inr (by simp [Value.ownBlock])))
      have hgl2:=(ho.lt g rfl).2
      have HCx:Hid (∀ w:World,w.ownsRow W0.heap.size 26 1 (.slice (some ⟨g,0,none⟩) N N) N xs→(∃ v,w.cell? ⟨g,j0,none⟩=some v)∧(∃ v,w.cell? ⟨g,j1,none⟩=some v)∧∀ j,w.frozen? ⟨g,j,none⟩=false):=fun w ho=>by
        have key:∀ o,o<N→∃ v,w.cell? ⟨g,o,none⟩=some v:=fun o h6=>by
          rw [ho.cellAt _ (by omega)]
          exact ⟨_,List.getElem?_eq_getElem (by omega)⟩
        exact ⟨key j0 (by omega),key j1 (by omega),fun j=>ho.frozenAt j⟩
      have HPx:=Lib.hid (And.intro hpx (And.intro hpy (And.intro hpz hpm)))
      have HE:Hid (j0=k*2+0∧j1=k*2+1):=⟨e0,e1⟩
      have HWw:=Lib.hid hw
      clear hpx hpy hpz hpm hw ho e0 e1 hxl
      go_wp2_with fail
      go_at_call 106
      refine (HG2.out _ (gt_trans HG.out Gr (.inl rfl))).mono ?_
      rintro e w2 ⟨rfl,hg2⟩
      have HO2:=Lib.hid (HO.out w2 hg2)
      obtain ⟨⟨v0,x0⟩,⟨v1,x1⟩,xf⟩:=HCx.out _ HO2.out
      have f0:=xf j0;have f1:=xf j1
      have hg3:g<w2.heap.size:=Nat.lt_of_lt_of_le hgl2 hg2.size
      have hg4:¬ g=w2.heap.size:=by omega
      have hg5:¬ w2.heap.size=g:=by omega
      go_wp2_with fail
      obtain ⟨e0,e1⟩:=HE.out
      obtain ⟨hpx,hpy,hpz,hpm⟩:=HPx.out
      have GW:=gt_trans Gr hg2 (.inl rfl)
      refine ⟨⟨k+1,_,by omega,by go_num,?_,(((HO2.out.stored j0 (.float .f64 px)).1.stored j1 (.float .f64 py)).1).alloc _,?_⟩,by simp [intOf];omega⟩
      · exact gt_alloc_r (HGs.out _ _ _ _ hb0 (HGs.out _ _ _ _ hb0 GW)) _
      · have hxl2:xs.length=N:=by have:=HO2.out.1;omega
        have c0:fF r 0 f j0=px:=by rw [e0,hpx];exact HFx.out 0 (by decide)
        have c1:fF r 0 f j1=py:=by rw [e1,hpy];exact HFx.out 1 (by decide)
        have a0:(((xs.set j0 (.float .f64 px)).set j1 (.float .f64 py)))[j0]?=some (.float .f64 px):=by
          rw [List.getElem?_set_ne (by omega)];exact List.getElem?_set_self (by (try simp only [List.length_set]);omega)
        have a1:(((xs.set j0 (.float .f64 px)).set j1 (.float .f64 py)))[j1]?=some (.float .f64 py):=by
          exact List.getElem?_set_self (by (try simp only [List.length_set]);omega)
        intro l hl
        by_cases hlk:l<k*2
        · rw [List.getElem?_set_ne (by omega),List.getElem?_set_ne (by omega)]
          exact HWw.out l hlk
        · rcases (by omega:l=j0∨l=j1) with rfl | rfl
          · rw [c0];exact a0
          · rw [c1];exact a1
    · obtain rfl:k=L:=by omega
      have hfv:FVal wr (some ⟨g,0,none⟩) N (fF r 0 f):=⟨fun _=>⟨_,rfl⟩,fun a' ha i hi=>by
        injection ha with ha
        subst ha
        rw [addr0,ho.cellAt i (by omega)]
        exact hw i (by rw [←HN.out];exact hi),hflt.out⟩
      have hgl2:=ho.lt g rfl
      clear ho hw
      go_wp2_with fail
      go_wp2_with fail
      have kf0:=kf 0
      have kf1:=kf 1
      go_wp2_with fail
      refine bodyPost_ret (by simp [results,Tryz.results180,go_sem,k2,k3];try rfl) rfl ?_
      have hne2:g≠W.heap.size+1:=by omega
      refine ⟨_,rfl,(hfv.set hne2 _).set hne2 _,by omega,by simp [World.setCell];omega,gt_set_r (gt_set_r (gt_trans HG.out Gr (.inl rfl)) _ _ (Nat.le_succ _)) _ _ (Nat.le_succ _)⟩
theorem SeqForce_1 (r n L N:Nat) (a:Addr) (f:Nat→Nat) (hr:r<4) (hne:r≠1) (hn:n≤2000) (hL:n / widN r=L) (hL0:0<n) (hN:N=L*3) (W:World) (hf:FVal W (some a) n f) :
    Calls Tryz.prog 180 #[.agg #[.int .u8 r,.slice (some a) n n],.int .u8 1] W fun e w'=>∃ g,e=.returned (.agg #[.int .u8 1,.slice (some ⟨g,0,none⟩) N N])∧FVal w' (some ⟨g,0,none⟩) N (fF r 1 f)∧W.heap.size≤g∧g<w'.heap.size∧W.grownBy w' none:=by
  have hw2:=widN_le r hr
  have hLn:L≤n:=by rw [←hL];exact Nat.div_le_self _ _
  have HLen:=Lib.hid (fun w=>Length_any r n hr (some a) n hn w)
  rw [hL] at HLen
  have HD:=Lib.hid (fun w=>Dimension_lit 1 3 (by omega) w)
  have HGet:=Lib.hid (fun (i:Nat) (hi:i<L) w (g:W.grownBy w none)=>Get_any r n i a f hr hn (by
    rw [←hL] at hi
    have h1:(i+1)*widN r≤n:=Nat.le_trans (Nat.mul_le_mul_right _ hi) (Nat.div_mul_le_self n (widN r))
    rw [Nat.succ_mul] at h1;exact h1) w (hf.mono g))
  have hflt:=Lib.hid (fun i=>fF_lt hf r 1 i)
  have hrD:((r:Int)==1)=false:=by rw [beq_eq_false_iff_ne];omega
  have hn0:((n:Int)==0)=false:=by rw [beq_eq_false_iff_ne];omega
  have hmul:IntKind.i64.wrap (3*(L:Int))=(N:Int):=by rw [IntKind.wrap_i64];omega
  obtain ⟨i0,hi,hzz⟩:=Option.map_eq_some_iff.1 (show (Tryz.prog.info? 26).map (fun i=>(i.zero,i.size,i.bytes))=some (some (.float .f64 0),1,8) by kernel_rfl)
  simp only [Prod.mk.injEq] at hzz
  have HI:=Lib.hid hzz
  have HG:=Lib.hid (gt_alloc_r (World.grownBy_alloc W (.cells #[.int .u8 r,.slice (some a) n n] 91) none) (.cells #[.int .u8 0,.slice none 0 0] 91))
  have HC:Hid (∀ w,((W.alloc (.cells #[.int .u8 r,.slice (some a) n n] 91)).alloc (.cells #[.int .u8 0,.slice none 0 0] 91)).grownBy w none→w.cell? ⟨W.heap.size,0,none⟩=some (.int .u8 r)∧w.cell? ⟨W.heap.size,1,none⟩=some (.slice (some a) n n)∧w.cell? ⟨W.heap.size+1,0,none⟩=some (.int .u8 0)∧w.cell? ⟨W.heap.size+1,1,none⟩=some (.slice none 0 0)∧(∀ j,w.frozen? ⟨W.heap.size+1,j,none⟩=false)∧W.heap.size+1<w.heap.size):=fun w g=>by
    have hb:=g.block (W.heap.size+1) (by simp) (by simp)
    refine ⟨g.cell (by simp) (by simp),g.cell (by simp) (by simp),g.cell (by simp) (by simp),g.cell (by simp) (by simp),fun j=>?_,?_⟩
    · rw [World.frozen?_of_block hb];simp
    · have:=g.size;simp at this;omega
  generalize hW0:(W.alloc (.cells #[.int .u8 r,.slice (some a) n n] 91)).alloc (.cells #[.int .u8 0,.slice none 0 0] 91)=W0 at HG HC
  have hs0:W0.heap.size=W.heap.size+2:=by rw [←hW0];simp
  have HW0:=Lib.hid hW0
  have hgs:∀ (w:World) (b jj:Nat) (y:Value),W0.heap.size≤b→W0.grownBy w none→W0.grownBy (w.setCell ⟨b,jj,none⟩ y) none:=fun w b jj y hb g=>gt_set_r g _ _ hb
  have HGs:=Lib.hid hgs
  have hsf:=run_store_flt Tryz.prog
  have hN1:N≤8000:=by omega
  have HN:=Lib.hid hN
  clear hf hL hzz hW0 hgs hw2 hN
  go_enter Tryz.func180,Tryz.ntmps180
  go_wp2_with (first
    | (go_at_call 102;refine (HLen.out _).mono ?_;rintro e w' ⟨rfl,hgl⟩;rw [HW0.out] at hgl)
    | (go_at_call 168;refine (HD.out _).mono ?_;rintro e w3 ⟨rfl,rfl⟩)
    | (at_make;refine wpList_make_full _ rfl _ _ _ rfl W0.heap.size 26 i0 (.float .f64 0) 1 Tryz.underlying30 hi HI.out.1 HI.out.2.1 .i64 .i64 _ _ N rfl rfl rfl rfl (by rw [HI.out.2.2];omega) (by unfold maxLen;omega) hgl.size ?_;intro w1 hown hg1;have hgW:=gt_trans hgl hg1 (.inl rfl);obtain ⟨k0,k1,k2,k3,kf,klt⟩:=HC.out _ hgW))
  obtain ⟨xs0,hxs0⟩ : ∃ xs0,xs0=(madeCells (Value.cells (.float .f64 0)) (N*1)).toList:=⟨_,rfl⟩
  rw [←hxs0] at hown
  have hb0:=hgl.size
  generalize w3.heap.size=g at hown hb0 ⊢
  clear hxs0 k0 k1 k2 k3 kf klt
  go_loopw [8] (fun i wr=>∃ (k:Nat) (xs:List Value),k≤L∧i=.int .i64 k∧W0.grownBy wr none∧wr.ownsRow W0.heap.size 26 1 (.slice (some ⟨g,0,none⟩) N N) N xs∧∀ l,l<k*3→xs[l]?=some (.float .f64 (fF r 1 f l))) (fun i _=>L - (intOf i).toNat)
  case atStart=>exact ⟨0,xs0,by omega,rfl,hgW,hown,fun l h=>absurd h (by omega)⟩
  case round =>
    clear hown
    obtain ⟨k,xs,hk,rfl,Gr,ho,hw⟩:=hrel
    rename World=>wr
    obtain ⟨k0,k1,k2,k3,kf,klt⟩:=HC.out _ Gr
    by_cases hkL:k<L
    · have HG1:=HGet.out k hkL
      obtain ⟨px,hpx⟩ : ∃ px,px=plX r f k:=⟨_,rfl⟩
      obtain ⟨py,hpy⟩ : ∃ py,py=plY r f k:=⟨_,rfl⟩
      obtain ⟨pz,hpz⟩ : ∃ pz,pz=plZ r f k:=⟨_,rfl⟩
      obtain ⟨pm,hpm⟩ : ∃ pm,pm=plM r f k:=⟨_,rfl⟩
      rw [←hpx,←hpy,←hpz,←hpm] at HG1
      have HG2:=Lib.hid HG1
      have hNL:k*3+3≤N:=by rw [HN.out];omega
      have hkb:k≤2000:=by omega
      have hfx:=fF_div r 1 f k
      have HFx:=Lib.hid hfx
      clear hfx HG1
      have hxl:xs.length=N:=by have:=ho.1;omega
      obtain ⟨j0,e0⟩ : ∃ j0,j0=k*3+0:=⟨_,rfl⟩
      obtain ⟨j1,e1⟩ : ∃ j1,j1=k*3+1:=⟨_,rfl⟩
      obtain ⟨j2,e2⟩ : ∃ j2,j2=k*3+2:=⟨_,rfl⟩
      have hw0:IntKind.i64.wrap (j0:Int)=(j0:Int):=by rw [IntKind.wrap_i64];omega
      have hw1:IntKind.i64.wrap ((j0:Int)+1)=(j1:Int):=by rw [IntKind.wrap_i64];omega
      have hw2:IntKind.i64.wrap ((j0:Int)+2)=(j2:Int):=by rw [IntKind.wrap_i64];omega
      have d01:¬ j0=j1:=by omega
      have d10:¬ j1=j0:=by omega
      have d02:¬ j0=j2:=by omega
      have d20:¬ j2=j0:=by omega
      have d12:¬ j1=j2:=by omega
      have d21:¬ j2=j1:=by omega
      have b00:(0:Int)≤(j0:Int):=by omega
      have b01:(j0:Int)<(N:Int):=by omega
      have b10:(0:Int)≤(j1:Int):=by omega
      have b11:(j1:Int)<(N:Int):=by omega
      have b20:(0:Int)≤(j2:Int):=by omega
      have b21:(j2:Int)<(N:Int):=by omega
      have hmj:IntKind.i64.wrap (3*(k:Int))=(j0:Int):=by rw [IntKind.wrap_i64];omega
      have HO:=Lib.hid (fun w (g:wr.grownBy w none)=>ho.kept g (.inr (by simp [Value.ownBlock])))
      have hgl2:=(ho.lt g rfl).2
      have HCx:Hid (∀ w:World,w.ownsRow W0.heap.size 26 1 (.slice (some ⟨g,0,none⟩) N N) N xs→(∃ v,w.cell? ⟨g,j0,none⟩=some v)∧(∃ v,w.cell? ⟨g,j1,none⟩=some v)∧(∃ v,w.cell? ⟨g,j2,none⟩=some v)∧∀ j,w.frozen? ⟨g,j,none⟩=false):=fun w ho=>by
        have key:∀ o,o<N→∃ v,w.cell? ⟨g,o,none⟩=some v:=fun o h6=>by
          rw [ho.cellAt _ (by omega)]
          exact ⟨_,List.getElem?_eq_getElem (by omega)⟩
        exact ⟨key j0 (by omega),key j1 (by omega),key j2 (by omega),fun j=>ho.frozenAt j⟩
      have HPx:=Lib.hid (And.intro hpx (And.intro hpy (And.intro hpz hpm)))
      have HE:Hid (j0=k*3+0∧j1=k*3+1∧j2=k*3+2):=⟨e0,e1,e2⟩
      have HWw:=Lib.hid hw
      clear hpx hpy hpz hpm hw ho e0 e1 e2 hxl
      go_wp2_with fail
      go_at_call 106
      refine (HG2.out _ (gt_trans HG.out Gr (.inl rfl))).mono ?_
      rintro e w2 ⟨rfl,hg2⟩
      have HO2:=Lib.hid (HO.out w2 hg2)
      obtain ⟨⟨v0,x0⟩,⟨v1,x1⟩,⟨v2,x2⟩,xf⟩:=HCx.out _ HO2.out
      have f0:=xf j0;have f1:=xf j1;have f2:=xf j2
      have hg3:g<w2.heap.size:=Nat.lt_of_lt_of_le hgl2 hg2.size
      have hg4:¬ g=w2.heap.size:=by omega
      have hg5:¬ w2.heap.size=g:=by omega
      go_wp2_with fail
      obtain ⟨e0,e1,e2⟩:=HE.out
      obtain ⟨hpx,hpy,hpz,hpm⟩:=HPx.out
      have GW:=gt_trans Gr hg2 (.inl rfl)
      refine ⟨⟨k+1,_,by omega,by go_num,?_,((((HO2.out.stored j0 (.float .f64 px)).1.stored j1 (.float .f64 py)).1.stored j2 (.float .f64 pz)).1).alloc _,?_⟩,by simp [intOf];omega⟩
      · exact gt_alloc_r (HGs.out _ _ _ _ hb0 (HGs.out _ _ _ _ hb0 (HGs.out _ _ _ _ hb0 GW))) _
      · have hxl2:xs.length=N:=by have:=HO2.out.1;omega
        have c0:fF r 1 f j0=px:=by rw [e0,hpx];exact HFx.out 0 (by decide)
        have c1:fF r 1 f j1=py:=by rw [e1,hpy];exact HFx.out 1 (by decide)
        have c2:fF r 1 f j2=pz:=by rw [e2,hpz];exact HFx.out 2 (by decide)
        have a0:((((xs.set j0 (.float .f64 px)).set j1 (.float .f64 py)).set j2 (.float .f64 pz)))[j0]?=some (.float .f64 px):=by
          rw [List.getElem?_set_ne (by omega)];rw [List.getElem?_set_ne (by omega)];exact List.getElem?_set_self (by (try simp only [List.length_set]);omega)
        have a1:((((xs.set j0 (.float .f64 px)).set j1 (.float .f64 py)).set j2 (.float .f64 pz)))[j1]?=some (.float .f64 py):=by
          rw [List.getElem?_set_ne (by omega)];exact List.getElem?_set_self (by (try simp only [List.length_set]);omega)
        have a2:((((xs.set j0 (.float .f64 px)).set j1 (.float .f64 py)).set j2 (.float .f64 pz)))[j2]?=some (.float .f64 pz):=by
          exact List.getElem?_set_self (by (try simp only [List.length_set]);omega)
        intro l hl
        by_cases hlk:l<k*3
        · rw [List.getElem?_set_ne (by omega),List.getElem?_set_ne (by omega),List.getElem?_set_ne (by omega)]
          exact HWw.out l hlk
        · rcases (by omega:l=j0∨l=j1∨l=j2) with rfl | rfl | rfl
          · rw [c0];exact a0
          · rw [c1];exact a1
          · rw [c2];exact a2
    · obtain rfl:k=L:=by omega
      have hfv:FVal wr (some ⟨g,0,none⟩) N (fF r 1 f):=⟨fun _=>⟨_,rfl⟩,fun a' ha i hi=>by
        injection ha with ha
        subst ha
        rw [addr0,ho.cellAt i (by omega)]
        exact hw i (by rw [←HN.out];exact hi),hflt.out⟩
      have hgl2:=ho.lt g rfl
      clear ho hw
      go_wp2_with fail
      go_wp2_with fail
      have kf0:=kf 0
      have kf1:=kf 1
      go_wp2_with fail
      refine bodyPost_ret (by simp [results,Tryz.results180,go_sem,k2,k3];try rfl) rfl ?_
      have hne2:g≠W.heap.size+1:=by omega
      refine ⟨_,rfl,(hfv.set hne2 _).set hne2 _,by omega,by simp [World.setCell];omega,gt_set_r (gt_set_r (gt_trans HG.out Gr (.inl rfl)) _ _ (Nat.le_succ _)) _ _ (Nat.le_succ _)⟩
theorem SeqForce_2 (r n L N:Nat) (a:Addr) (f:Nat→Nat) (hr:r<4) (hne:r≠2) (hn:n≤2000) (hL:n / widN r=L) (hL0:0<n) (hN:N=L*3) (W:World) (hf:FVal W (some a) n f) :
    Calls Tryz.prog 180 #[.agg #[.int .u8 r,.slice (some a) n n],.int .u8 2] W fun e w'=>∃ g,e=.returned (.agg #[.int .u8 2,.slice (some ⟨g,0,none⟩) N N])∧FVal w' (some ⟨g,0,none⟩) N (fF r 2 f)∧W.heap.size≤g∧g<w'.heap.size∧W.grownBy w' none:=by
  have hw2:=widN_le r hr
  have hLn:L≤n:=by rw [←hL];exact Nat.div_le_self _ _
  have HLen:=Lib.hid (fun w=>Length_any r n hr (some a) n hn w)
  rw [hL] at HLen
  have HD:=Lib.hid (fun w=>Dimension_lit 2 3 (by omega) w)
  have HGet:=Lib.hid (fun (i:Nat) (hi:i<L) w (g:W.grownBy w none)=>Get_any r n i a f hr hn (by
    rw [←hL] at hi
    have h1:(i+1)*widN r≤n:=Nat.le_trans (Nat.mul_le_mul_right _ hi) (Nat.div_mul_le_self n (widN r))
    rw [Nat.succ_mul] at h1;exact h1) w (hf.mono g))
  have hflt:=Lib.hid (fun i=>fF_lt hf r 2 i)
  have hrD:((r:Int)==2)=false:=by rw [beq_eq_false_iff_ne];omega
  have hn0:((n:Int)==0)=false:=by rw [beq_eq_false_iff_ne];omega
  have hmul:IntKind.i64.wrap (3*(L:Int))=(N:Int):=by rw [IntKind.wrap_i64];omega
  obtain ⟨i0,hi,hzz⟩:=Option.map_eq_some_iff.1 (show (Tryz.prog.info? 26).map (fun i=>(i.zero,i.size,i.bytes))=some (some (.float .f64 0),1,8) by kernel_rfl)
  simp only [Prod.mk.injEq] at hzz
  have HI:=Lib.hid hzz
  have HG:=Lib.hid (gt_alloc_r (World.grownBy_alloc W (.cells #[.int .u8 r,.slice (some a) n n] 91) none) (.cells #[.int .u8 0,.slice none 0 0] 91))
  have HC:Hid (∀ w,((W.alloc (.cells #[.int .u8 r,.slice (some a) n n] 91)).alloc (.cells #[.int .u8 0,.slice none 0 0] 91)).grownBy w none→w.cell? ⟨W.heap.size,0,none⟩=some (.int .u8 r)∧w.cell? ⟨W.heap.size,1,none⟩=some (.slice (some a) n n)∧w.cell? ⟨W.heap.size+1,0,none⟩=some (.int .u8 0)∧w.cell? ⟨W.heap.size+1,1,none⟩=some (.slice none 0 0)∧(∀ j,w.frozen? ⟨W.heap.size+1,j,none⟩=false)∧W.heap.size+1<w.heap.size):=fun w g=>by
    have hb:=g.block (W.heap.size+1) (by simp) (by simp)
    refine ⟨g.cell (by simp) (by simp),g.cell (by simp) (by simp),g.cell (by simp) (by simp),g.cell (by simp) (by simp),fun j=>?_,?_⟩
    · rw [World.frozen?_of_block hb];simp
    · have:=g.size;simp at this;omega
  generalize hW0:(W.alloc (.cells #[.int .u8 r,.slice (some a) n n] 91)).alloc (.cells #[.int .u8 0,.slice none 0 0] 91)=W0 at HG HC
  have hs0:W0.heap.size=W.heap.size+2:=by rw [←hW0];simp
  have HW0:=Lib.hid hW0
  have hgs:∀ (w:World) (b jj:Nat) (y:Value),W0.heap.size≤b→W0.grownBy w none→W0.grownBy (w.setCell ⟨b,jj,none⟩ y) none:=fun w b jj y hb g=>gt_set_r g _ _ hb
  have HGs:=Lib.hid hgs
  have hsf:=run_store_flt Tryz.prog
  have hN1:N≤8000:=by omega
  have HN:=Lib.hid hN
  clear hf hL hzz hW0 hgs hw2 hN
  go_enter Tryz.func180,Tryz.ntmps180
  go_wp2_with (first
    | (go_at_call 102;refine (HLen.out _).mono ?_;rintro e w' ⟨rfl,hgl⟩;rw [HW0.out] at hgl)
    | (go_at_call 168;refine (HD.out _).mono ?_;rintro e w3 ⟨rfl,rfl⟩)
    | (at_make;refine wpList_make_full _ rfl _ _ _ rfl W0.heap.size 26 i0 (.float .f64 0) 1 Tryz.underlying30 hi HI.out.1 HI.out.2.1 .i64 .i64 _ _ N rfl rfl rfl rfl (by rw [HI.out.2.2];omega) (by unfold maxLen;omega) hgl.size ?_;intro w1 hown hg1;have hgW:=gt_trans hgl hg1 (.inl rfl);obtain ⟨k0,k1,k2,k3,kf,klt⟩:=HC.out _ hgW))
  obtain ⟨xs0,hxs0⟩ : ∃ xs0,xs0=(madeCells (Value.cells (.float .f64 0)) (N*1)).toList:=⟨_,rfl⟩
  rw [←hxs0] at hown
  have hb0:=hgl.size
  generalize w3.heap.size=g at hown hb0 ⊢
  clear hxs0 k0 k1 k2 k3 kf klt
  go_loopw [8] (fun i wr=>∃ (k:Nat) (xs:List Value),k≤L∧i=.int .i64 k∧W0.grownBy wr none∧wr.ownsRow W0.heap.size 26 1 (.slice (some ⟨g,0,none⟩) N N) N xs∧∀ l,l<k*3→xs[l]?=some (.float .f64 (fF r 2 f l))) (fun i _=>L - (intOf i).toNat)
  case atStart=>exact ⟨0,xs0,by omega,rfl,hgW,hown,fun l h=>absurd h (by omega)⟩
  case round =>
    clear hown
    obtain ⟨k,xs,hk,rfl,Gr,ho,hw⟩:=hrel
    rename World=>wr
    obtain ⟨k0,k1,k2,k3,kf,klt⟩:=HC.out _ Gr
    by_cases hkL:k<L
    · have HG1:=HGet.out k hkL
      obtain ⟨px,hpx⟩ : ∃ px,px=plX r f k:=⟨_,rfl⟩
      obtain ⟨py,hpy⟩ : ∃ py,py=plY r f k:=⟨_,rfl⟩
      obtain ⟨pz,hpz⟩ : ∃ pz,pz=plZ r f k:=⟨_,rfl⟩
      obtain ⟨pm,hpm⟩ : ∃ pm,pm=plM r f k:=⟨_,rfl⟩
      rw [←hpx,←hpy,←hpz,←hpm] at HG1
      have HG2:=Lib.hid HG1
      have hNL:k*3+3≤N:=by rw [HN.out];omega
      have hkb:k≤2000:=by omega
      have hfx:=fF_div r 2 f k
      have HFx:=Lib.hid hfx
      clear hfx HG1
      have hxl:xs.length=N:=by have:=ho.1;omega
      obtain ⟨j0,e0⟩ : ∃ j0,j0=k*3+0:=⟨_,rfl⟩
      obtain ⟨j1,e1⟩ : ∃ j1,j1=k*3+1:=⟨_,rfl⟩
      obtain ⟨j2,e2⟩ : ∃ j2,j2=k*3+2:=⟨_,rfl⟩
      have hw0:IntKind.i64.wrap (j0:Int)=(j0:Int):=by rw [IntKind.wrap_i64];omega
      have hw1:IntKind.i64.wrap ((j0:Int)+1)=(j1:Int):=by rw [IntKind.wrap_i64];omega
      have hw2:IntKind.i64.wrap ((j0:Int)+2)=(j2:Int):=by rw [IntKind.wrap_i64];omega
      have d01:¬ j0=j1:=by omega
      have d10:¬ j1=j0:=by omega
      have d02:¬ j0=j2:=by omega
      have d20:¬ j2=j0:=by omega
      have d12:¬ j1=j2:=by omega
      have d21:¬ j2=j1:=by omega
      have b00:(0:Int)≤(j0:Int):=by omega
      have b01:(j0:Int)<(N:Int):=by omega
      have b10:(0:Int)≤(j1:Int):=by omega
      have b11:(j1:Int)<(N:Int):=by omega
      have b20:(0:Int)≤(j2:Int):=by omega
      have b21:(j2:Int)<(N:Int):=by omega
      have hmj:IntKind.i64.wrap (3*(k:Int))=(j0:Int):=by rw [IntKind.wrap_i64];omega
      have HO:=Lib.hid (fun w (g:wr.grownBy w none)=>ho.kept g (.inr (by simp [Value.ownBlock])))
      have hgl2:=(ho.lt g rfl).2
      have HCx:Hid (∀ w:World,w.ownsRow W0.heap.size 26 1 (.slice (some ⟨g,0,none⟩) N N) N xs→(∃ v,w.cell? ⟨g,j0,none⟩=some v)∧(∃ v,w.cell? ⟨g,j1,none⟩=some v)∧(∃ v,w.cell? ⟨g,j2,none⟩=some v)∧∀ j,w.frozen? ⟨g,j,none⟩=false):=fun w ho=>by
        have key:∀ o,o<N→∃ v,w.cell? ⟨g,o,none⟩=some v:=fun o h6=>by
          rw [ho.cellAt _ (by omega)]
          exact ⟨_,List.getElem?_eq_getElem (by omega)⟩
        exact ⟨key j0 (by omega),key j1 (by omega),key j2 (by omega),fun j=>ho.frozenAt j⟩
      have HPx:=Lib.hid (And.intro hpx (And.intro hpy (And.intro hpz hpm)))
      have HE:Hid (j0=k*3+0∧j1=k*3+1∧j2=k*3+2):=⟨e0,e1,e2⟩
      have HWw:=Lib.hid hw
      clear hpx hpy hpz hpm hw ho e0 e1 e2 hxl
      go_wp2_with fail
      go_at_call 106
      refine (HG2.out _ (gt_trans HG.out Gr (.inl rfl))).mono ?_
      rintro e w2 ⟨rfl,hg2⟩
      have HO2:=Lib.hid (HO.out w2 hg2)
      obtain ⟨⟨v0,x0⟩,⟨v1,x1⟩,⟨v2,x2⟩,xf⟩:=HCx.out _ HO2.out
      have f0:=xf j0;have f1:=xf j1;have f2:=xf j2
      have hg3:g<w2.heap.size:=Nat.lt_of_lt_of_le hgl2 hg2.size
      have hg4:¬ g=w2.heap.size:=by omega
      have hg5:¬ w2.heap.size=g:=by omega
      go_wp2_with fail
      obtain ⟨e0,e1,e2⟩:=HE.out
      obtain ⟨hpx,hpy,hpz,hpm⟩:=HPx.out
      have GW:=gt_trans Gr hg2 (.inl rfl)
      refine ⟨⟨k+1,_,by omega,by go_num,?_,((((HO2.out.stored j0 (.float .f64 px)).1.stored j1 (.float .f64 py)).1.stored j2 (.float .f64 pm)).1).alloc _,?_⟩,by simp [intOf];omega⟩
      · exact gt_alloc_r (HGs.out _ _ _ _ hb0 (HGs.out _ _ _ _ hb0 (HGs.out _ _ _ _ hb0 GW))) _
      · have hxl2:xs.length=N:=by have:=HO2.out.1;omega
        have c0:fF r 2 f j0=px:=by rw [e0,hpx];exact HFx.out 0 (by decide)
        have c1:fF r 2 f j1=py:=by rw [e1,hpy];exact HFx.out 1 (by decide)
        have c2:fF r 2 f j2=pm:=by rw [e2,hpm];exact HFx.out 2 (by decide)
        have a0:((((xs.set j0 (.float .f64 px)).set j1 (.float .f64 py)).set j2 (.float .f64 pm)))[j0]?=some (.float .f64 px):=by
          rw [List.getElem?_set_ne (by omega)];rw [List.getElem?_set_ne (by omega)];exact List.getElem?_set_self (by (try simp only [List.length_set]);omega)
        have a1:((((xs.set j0 (.float .f64 px)).set j1 (.float .f64 py)).set j2 (.float .f64 pm)))[j1]?=some (.float .f64 py):=by
          rw [List.getElem?_set_ne (by omega)];exact List.getElem?_set_self (by (try simp only [List.length_set]);omega)
        have a2:((((xs.set j0 (.float .f64 px)).set j1 (.float .f64 py)).set j2 (.float .f64 pm)))[j2]?=some (.float .f64 pm):=by
          exact List.getElem?_set_self (by (try simp only [List.length_set]);omega)
        intro l hl
        by_cases hlk:l<k*3
        · rw [List.getElem?_set_ne (by omega),List.getElem?_set_ne (by omega),List.getElem?_set_ne (by omega)]
          exact HWw.out l hlk
        · rcases (by omega:l=j0∨l=j1∨l=j2) with rfl | rfl | rfl
          · rw [c0];exact a0
          · rw [c1];exact a1
          · rw [c2];exact a2
    · obtain rfl:k=L:=by omega
      have hfv:FVal wr (some ⟨g,0,none⟩) N (fF r 2 f):=⟨fun _=>⟨_,rfl⟩,fun a' ha i hi=>by
        injection ha with ha
        subst ha
        rw [addr0,ho.cellAt i (by omega)]
        exact hw i (by rw [←HN.out];exact hi),hflt.out⟩
      have hgl2:=ho.lt g rfl
      clear ho hw
      go_wp2_with fail
      go_wp2_with fail
      have kf0:=kf 0
      have kf1:=kf 1
      go_wp2_with fail
      refine bodyPost_ret (by simp [results,Tryz.results180,go_sem,k2,k3];try rfl) rfl ?_
      have hne2:g≠W.heap.size+1:=by omega
      refine ⟨_,rfl,(hfv.set hne2 _).set hne2 _,by omega,by simp [World.setCell];omega,gt_set_r (gt_set_r (gt_trans HG.out Gr (.inl rfl)) _ _ (Nat.le_succ _)) _ _ (Nat.le_succ _)⟩
theorem SeqForce_3 (r n L N:Nat) (a:Addr) (f:Nat→Nat) (hr:r<4) (hne:r≠3) (hn:n≤2000) (hL:n / widN r=L) (hL0:0<n) (hN:N=L*4) (W:World) (hf:FVal W (some a) n f) :
    Calls Tryz.prog 180 #[.agg #[.int .u8 r,.slice (some a) n n],.int .u8 3] W fun e w'=>∃ g,e=.returned (.agg #[.int .u8 3,.slice (some ⟨g,0,none⟩) N N])∧FVal w' (some ⟨g,0,none⟩) N (fF r 3 f)∧W.heap.size≤g∧g<w'.heap.size∧W.grownBy w' none:=by
  have hw2:=widN_le r hr
  have hLn:L≤n:=by rw [←hL];exact Nat.div_le_self _ _
  have HLen:=Lib.hid (fun w=>Length_any r n hr (some a) n hn w)
  rw [hL] at HLen
  have HD:=Lib.hid (fun w=>Dimension_lit 3 4 (by omega) w)
  have HGet:=Lib.hid (fun (i:Nat) (hi:i<L) w (g:W.grownBy w none)=>Get_any r n i a f hr hn (by
    rw [←hL] at hi
    have h1:(i+1)*widN r≤n:=Nat.le_trans (Nat.mul_le_mul_right _ hi) (Nat.div_mul_le_self n (widN r))
    rw [Nat.succ_mul] at h1;exact h1) w (hf.mono g))
  have hflt:=Lib.hid (fun i=>fF_lt hf r 3 i)
  have hrD:((r:Int)==3)=false:=by rw [beq_eq_false_iff_ne];omega
  have hn0:((n:Int)==0)=false:=by rw [beq_eq_false_iff_ne];omega
  have hmul:IntKind.i64.wrap (4*(L:Int))=(N:Int):=by rw [IntKind.wrap_i64];omega
  obtain ⟨i0,hi,hzz⟩:=Option.map_eq_some_iff.1 (show (Tryz.prog.info? 26).map (fun i=>(i.zero,i.size,i.bytes))=some (some (.float .f64 0),1,8) by kernel_rfl)
  simp only [Prod.mk.injEq] at hzz
  have HI:=Lib.hid hzz
  have HG:=Lib.hid (gt_alloc_r (World.grownBy_alloc W (.cells #[.int .u8 r,.slice (some a) n n] 91) none) (.cells #[.int .u8 0,.slice none 0 0] 91))
  have HC:Hid (∀ w,((W.alloc (.cells #[.int .u8 r,.slice (some a) n n] 91)).alloc (.cells #[.int .u8 0,.slice none 0 0] 91)).grownBy w none→w.cell? ⟨W.heap.size,0,none⟩=some (.int .u8 r)∧w.cell? ⟨W.heap.size,1,none⟩=some (.slice (some a) n n)∧w.cell? ⟨W.heap.size+1,0,none⟩=some (.int .u8 0)∧w.cell? ⟨W.heap.size+1,1,none⟩=some (.slice none 0 0)∧(∀ j,w.frozen? ⟨W.heap.size+1,j,none⟩=false)∧W.heap.size+1<w.heap.size):=fun w g=>by
    have hb:=g.block (W.heap.size+1) (by simp) (by simp)
    refine ⟨g.cell (by simp) (by simp),g.cell (by simp) (by simp),g.cell (by simp) (by simp),g.cell (by simp) (by simp),fun j=>?_,?_⟩
    · rw [World.frozen?_of_block hb];simp
    · have:=g.size;simp at this;omega
  generalize hW0:(W.alloc (.cells #[.int .u8 r,.slice (some a) n n] 91)).alloc (.cells #[.int .u8 0,.slice none 0 0] 91)=W0 at HG HC
  have hs0:W0.heap.size=W.heap.size+2:=by rw [←hW0];simp
  have HW0:=Lib.hid hW0
  have hgs:∀ (w:World) (b jj:Nat) (y:Value),W0.heap.size≤b→W0.grownBy w none→W0.grownBy (w.setCell ⟨b,jj,none⟩ y) none:=fun w b jj y hb g=>gt_set_r g _ _ hb
  have HGs:=Lib.hid hgs
  have hsf:=run_store_flt Tryz.prog
  have hN1:N≤8000:=by omega
  have HN:=Lib.hid hN
  clear hf hL hzz hW0 hgs hw2 hN
  go_enter Tryz.func180,Tryz.ntmps180
  go_wp2_with (first
    | (go_at_call 102;refine (HLen.out _).mono ?_;rintro e w' ⟨rfl,hgl⟩;rw [HW0.out] at hgl)
    | (go_at_call 168;refine (HD.out _).mono ?_;rintro e w3 ⟨rfl,rfl⟩)
    | (at_make;refine wpList_make_full _ rfl _ _ _ rfl W0.heap.size 26 i0 (.float .f64 0) 1 Tryz.underlying30 hi HI.out.1 HI.out.2.1 .i64 .i64 _ _ N rfl rfl rfl rfl (by rw [HI.out.2.2];omega) (by unfold maxLen;omega) hgl.size ?_;intro w1 hown hg1;have hgW:=gt_trans hgl hg1 (.inl rfl);obtain ⟨k0,k1,k2,k3,kf,klt⟩:=HC.out _ hgW))
  obtain ⟨xs0,hxs0⟩ : ∃ xs0,xs0=(madeCells (Value.cells (.float .f64 0)) (N*1)).toList:=⟨_,rfl⟩
  rw [←hxs0] at hown
  have hb0:=hgl.size
  generalize w3.heap.size=g at hown hb0 ⊢
  clear hxs0 k0 k1 k2 k3 kf klt
  go_loopw [8] (fun i wr=>∃ (k:Nat) (xs:List Value),k≤L∧i=.int .i64 k∧W0.grownBy wr none∧wr.ownsRow W0.heap.size 26 1 (.slice (some ⟨g,0,none⟩) N N) N xs∧∀ l,l<k*4→xs[l]?=some (.float .f64 (fF r 3 f l))) (fun i _=>L - (intOf i).toNat)
  case atStart=>exact ⟨0,xs0,by omega,rfl,hgW,hown,fun l h=>absurd h (by omega)⟩
  case round =>
    clear hown
    obtain ⟨k,xs,hk,rfl,Gr,ho,hw⟩:=hrel
    rename World=>wr
    obtain ⟨k0,k1,k2,k3,kf,klt⟩:=HC.out _ Gr
    by_cases hkL:k<L
    · have HG1:=HGet.out k hkL
      obtain ⟨px,hpx⟩ : ∃ px,px=plX r f k:=⟨_,rfl⟩
      obtain ⟨py,hpy⟩ : ∃ py,py=plY r f k:=⟨_,rfl⟩
      obtain ⟨pz,hpz⟩ : ∃ pz,pz=plZ r f k:=⟨_,rfl⟩
      obtain ⟨pm,hpm⟩ : ∃ pm,pm=plM r f k:=⟨_,rfl⟩
      rw [←hpx,←hpy,←hpz,←hpm] at HG1
      have HG2:=Lib.hid HG1
      have hNL:k*4+4≤N:=by rw [HN.out];omega
      have hkb:k≤2000:=by omega
      have hfx:=fF_div r 3 f k
      have HFx:=Lib.hid hfx
      clear hfx HG1
      have hxl:xs.length=N:=by have:=ho.1;omega
      obtain ⟨j0,e0⟩ : ∃ j0,j0=k*4+0:=⟨_,rfl⟩
      obtain ⟨j1,e1⟩ : ∃ j1,j1=k*4+1:=⟨_,rfl⟩
      obtain ⟨j2,e2⟩ : ∃ j2,j2=k*4+2:=⟨_,rfl⟩
      obtain ⟨j3,e3⟩ : ∃ j3,j3=k*4+3:=⟨_,rfl⟩
      have hw0:IntKind.i64.wrap (j0:Int)=(j0:Int):=by rw [IntKind.wrap_i64];omega
      have hw1:IntKind.i64.wrap ((j0:Int)+1)=(j1:Int):=by rw [IntKind.wrap_i64];omega
      have hw2:IntKind.i64.wrap ((j0:Int)+2)=(j2:Int):=by rw [IntKind.wrap_i64];omega
      have hw3:IntKind.i64.wrap ((j0:Int)+3)=(j3:Int):=by rw [IntKind.wrap_i64];omega
      have d01:¬ j0=j1:=by omega
      have d10:¬ j1=j0:=by omega
      have d02:¬ j0=j2:=by omega
      have d20:¬ j2=j0:=by omega
      have d03:¬ j0=j3:=by omega
      have d30:¬ j3=j0:=by omega
      have d12:¬ j1=j2:=by omega
      have d21:¬ j2=j1:=by omega
      have d13:¬ j1=j3:=by omega
      have d31:¬ j3=j1:=by omega
      have d23:¬ j2=j3:=by omega
      have d32:¬ j3=j2:=by omega
      have b00:(0:Int)≤(j0:Int):=by omega
      have b01:(j0:Int)<(N:Int):=by omega
      have b10:(0:Int)≤(j1:Int):=by omega
      have b11:(j1:Int)<(N:Int):=by omega
      have b20:(0:Int)≤(j2:Int):=by omega
      have b21:(j2:Int)<(N:Int):=by omega
      have b30:(0:Int)≤(j3:Int):=by omega
      have b31:(j3:Int)<(N:Int):=by omega
      have hmj:IntKind.i64.wrap (4*(k:Int))=(j0:Int):=by rw [IntKind.wrap_i64];omega
      have HO:=Lib.hid (fun w (g:wr.grownBy w none)=>ho.kept g (.inr (by simp [Value.ownBlock])))
      have hgl2:=(ho.lt g rfl).2
      have HCx:Hid (∀ w:World,w.ownsRow W0.heap.size 26 1 (.slice (some ⟨g,0,none⟩) N N) N xs→(∃ v,w.cell? ⟨g,j0,none⟩=some v)∧(∃ v,w.cell? ⟨g,j1,none⟩=some v)∧(∃ v,w.cell? ⟨g,j2,none⟩=some v)∧(∃ v,w.cell? ⟨g,j3,none⟩=some v)∧∀ j,w.frozen? ⟨g,j,none⟩=false):=fun w ho=>by
        have key:∀ o,o<N→∃ v,w.cell? ⟨g,o,none⟩=some v:=fun o h6=>by
          rw [ho.cellAt _ (by omega)]
          exact ⟨_,List.getElem?_eq_getElem (by omega)⟩
        exact ⟨key j0 (by omega),key j1 (by omega),key j2 (by omega),key j3 (by omega),fun j=>ho.frozenAt j⟩
      have HPx:=Lib.hid (And.intro hpx (And.intro hpy (And.intro hpz hpm)))
      have HE:Hid (j0=k*4+0∧j1=k*4+1∧j2=k*4+2∧j3=k*4+3):=⟨e0,e1,e2,e3⟩
      have HWw:=Lib.hid hw
      clear hpx hpy hpz hpm hw ho e0 e1 e2 e3 hxl
      go_wp2_with fail
      go_at_call 106
      refine (HG2.out _ (gt_trans HG.out Gr (.inl rfl))).mono ?_
      rintro e w2 ⟨rfl,hg2⟩
      have HO2:=Lib.hid (HO.out w2 hg2)
      obtain ⟨⟨v0,x0⟩,⟨v1,x1⟩,⟨v2,x2⟩,⟨v3,x3⟩,xf⟩:=HCx.out _ HO2.out
      have f0:=xf j0;have f1:=xf j1;have f2:=xf j2;have f3:=xf j3
      have hg3:g<w2.heap.size:=Nat.lt_of_lt_of_le hgl2 hg2.size
      have hg4:¬ g=w2.heap.size:=by omega
      have hg5:¬ w2.heap.size=g:=by omega
      go_wp2_with fail
      obtain ⟨e0,e1,e2,e3⟩:=HE.out
      obtain ⟨hpx,hpy,hpz,hpm⟩:=HPx.out
      have GW:=gt_trans Gr hg2 (.inl rfl)
      refine ⟨⟨k+1,_,by omega,by go_num,?_,(((((HO2.out.stored j0 (.float .f64 px)).1.stored j1 (.float .f64 py)).1.stored j2 (.float .f64 pz)).1.stored j3 (.float .f64 pm)).1).alloc _,?_⟩,by simp [intOf];omega⟩
      · exact gt_alloc_r (HGs.out _ _ _ _ hb0 (HGs.out _ _ _ _ hb0 (HGs.out _ _ _ _ hb0 (HGs.out _ _ _ _ hb0 GW)))) _
      · have hxl2:xs.length=N:=by have:=HO2.out.1;omega
        have c0:fF r 3 f j0=px:=by rw [e0,hpx];exact HFx.out 0 (by decide)
        have c1:fF r 3 f j1=py:=by rw [e1,hpy];exact HFx.out 1 (by decide)
        have c2:fF r 3 f j2=pz:=by rw [e2,hpz];exact HFx.out 2 (by decide)
        have c3:fF r 3 f j3=pm:=by rw [e3,hpm];exact HFx.out 3 (by decide)
        have a0:(((((xs.set j0 (.float .f64 px)).set j1 (.float .f64 py)).set j2 (.float .f64 pz)).set j3 (.float .f64 pm)))[j0]?=some (.float .f64 px):=by
          rw [List.getElem?_set_ne (by omega)];rw [List.getElem?_set_ne (by omega)];rw [List.getElem?_set_ne (by omega)];exact List.getElem?_set_self (by (try simp only [List.length_set]);omega)
        have a1:(((((xs.set j0 (.float .f64 px)).set j1 (.float .f64 py)).set j2 (.float .f64 pz)).set j3 (.float .f64 pm)))[j1]?=some (.float .f64 py):=by
          rw [List.getElem?_set_ne (by omega)];rw [List.getElem?_set_ne (by omega)];exact List.getElem?_set_self (by (try simp only [List.length_set]);omega)
        have a2:(((((xs.set j0 (.float .f64 px)).set j1 (.float .f64 py)).set j2 (.float .f64 pz)).set j3 (.float .f64 pm)))[j2]?=some (.float .f64 pz):=by
          rw [List.getElem?_set_ne (by omega)];exact List.getElem?_set_self (by (try simp only [List.length_set]);omega)
        have a3:(((((xs.set j0 (.float .f64 px)).set j1 (.float .f64 py)).set j2 (.float .f64 pz)).set j3 (.float .f64 pm)))[j3]?=some (.float .f64 pm):=by
          exact List.getElem?_set_self (by (try simp only [List.length_set]);omega)
        intro l hl
        by_cases hlk:l<k*4
        · rw [List.getElem?_set_ne (by omega),List.getElem?_set_ne (by omega),List.getElem?_set_ne (by omega),List.getElem?_set_ne (by omega)]
          exact HWw.out l hlk
        · rcases (by omega:l=j0∨l=j1∨l=j2∨l=j3) with rfl | rfl | rfl | rfl
          · rw [c0];exact a0
          · rw [c1];exact a1
          · rw [c2];exact a2
          · rw [c3];exact a3
    · obtain rfl:k=L:=by omega
      have hfv:FVal wr (some ⟨g,0,none⟩) N (fF r 3 f):=⟨fun _=>⟨_,rfl⟩,fun a' ha i hi=>by
        injection ha with ha
        subst ha
        rw [addr0,ho.cellAt i (by omega)]
        exact hw i (by rw [←HN.out];exact hi),hflt.out⟩
      have hgl2:=ho.lt g rfl
      clear ho hw
      go_wp2_with fail
      go_wp2_with fail
      have kf0:=kf 0
      have kf1:=kf 1
      go_wp2_with fail
      refine bodyPost_ret (by simp [results,Tryz.results180,go_sem,k2,k3];try rfl) rfl ?_
      have hne2:g≠W.heap.size+1:=by omega
      refine ⟨_,rfl,(hfv.set hne2 _).set hne2 _,by omega,by simp [World.setCell];omega,gt_set_r (gt_set_r (gt_trans HG.out Gr (.inl rfl)) _ _ (Nat.le_succ _)) _ _ (Nat.le_succ _)⟩
end
end Go.Proofs.YtlpaecafpbbbkaaGreatDoor
