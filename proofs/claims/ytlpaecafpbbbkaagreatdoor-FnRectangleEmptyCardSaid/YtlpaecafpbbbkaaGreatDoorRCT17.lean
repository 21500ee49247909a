/- The package's polygons, several lines and several polygons: all the contracts, together. The points and several points of the package, as trees of plain data. A value of the package as a geometry, and back. -/
import Derived.Test.YtlpaecafpbbbkaaGreatDoorRCT16
set_option linter.unusedVariables false
set_option linter.unusedSimpArgs false
set_option maxRecDepth 100000
set_option maxHeartbeats 24000000
namespace Go.Proofs.YtlpaecafpbbbkaaGreatDoor
section
open Go.RowKit
abbrev DPg:=DNode 3 DLine
abbrev DMl:=DNode 5 DLine
abbrev DMp:=DNode 6 DPg
theorem DPg.dk:DK DPg:=DNode.dk DLine.dk
theorem DMl.dk:DK DMl:=DNode.dk DLine.dk
theorem DMp.dk:DK DMp:=DNode.dk DPg.dk
theorem PgCT (D:(Nat→Prop)→World→Value→Raw→Prop):CC (DNode 3 D) 145:=by
  intro B W v t ⟨r,f,kids,p,c,ht,hr,hv,_⟩
  subst ht hv
  generalize kids.length=n
  go_enter Tryz.func145,Tryz.ntmps145
  go_wp2_with fail
  go_ret
  exact ⟨rfl,World.grownBy_alloc _ _ _⟩
theorem PgFC:FC DPg 108:=PgForce_of DLine.dk DLine.form LineFC
theorem MlFC:FC DMl 112:=MlForce_of DLine.dk DLine.form LineFC
theorem MpFC:FC DMp 114:=MpForce_of DPg.dk DNode.form PgFC
theorem PgBC:BC DPg 52 3:=PgBuild_of DLine.dk DLine.form LineBC (PgNew_of DLine.dk DLine.form DLine.d4 LineFC LineCC) PgFC
theorem MlBC:BC DMl 56 5:=MlBuild_of DLine.dk DLine.form LineBC (MlNew_of DLine.dk DLine.form DLine.d4 LineFC LineCC) MlFC
theorem MpBC:BC DMp 58 6:=MpBuild_of DPg.dk DNode.form PgBC (MpNew_of DPg.dk DNode.form DNode.d4 PgFC (PgCT DLine)) MpFC
end
section
open Go.RowKit
def PtT (s:Raw):Prop:=∃ r n f,s=.mk 1 (r:Nat) n f []∧r<4∧(n=0∨n=widN r)∧∀ i,f i<18446744073709551616
def DPoint (B:Nat→Prop) (W:World) (v:Value) (t:Raw):Prop:=PtT t∧v=(ptR t).v
theorem ptR_of {r n:Nat} {f:Nat→Nat} {kids:List Raw} (hr:r<4):ptR (.mk 1 (r:Nat) n f kids)=ptOf r n f:=by
  show ptOf ((r:Int) % 4).toNat n f=_
  have:((r:Int) % 4).toNat=r:=by omega
  rw [this]
theorem PtT.ok {s:Raw} (h:PtT s):(ptR s).Ok:=by
  obtain ⟨r,n,f,rfl,hr,_,hf⟩:=h
  rw [ptR_of hr]
  exact ptOf_ok r n f hr hf
theorem PtT.dim {s:Raw} (h:PtT s):dimR s<4∧(ptR s).r=dimR s:=by
  obtain ⟨r,n,f,rfl,hr,_,hf⟩:=h
  rw [ptR_of hr,ptOf_r]
  have:dimR (.mk 1 (r:Nat) n f [])=r:=by show ((r:Nat):Int).toNat=r;omega
  rw [this]
  exact ⟨hr,rfl⟩
theorem fFb_lt (r D:Nat) (f:Nat→Nat) (hf:∀ i,f i<18446744073709551616) (i:Nat):fF r D f i<18446744073709551616:=by
  unfold fF plX plY plZ plM
  split
  · exact hf _
  · split
    · exact hf _
    · split
      · split
        · exact hf _
        · omega
      · split
        · exact hf _
        · omega
theorem PtT.force {s:Raw} (h:PtT s) (D:Nat) (hD:D<4):PtT (forceT D s)∧(ptR s).force D=ptR (forceT D s):=by
  obtain ⟨r,n,f,rfl,hr,hn,hf⟩:=h
  have hw:=widN_le r hr
  have hwD:=widN_le D hD
  have e:forceT D (.mk 1 (r:Nat) n f [])=.mk 1 (D:Nat) (n / widN r*widN D) (fF r D f) []:=by unfold forceT;rw [Int.toNat_natCast];rfl
  rw [e,ptR_of hr,ptR_of hD]
  refine ⟨⟨D,_,_,rfl,hD,?_,fFb_lt r D f hf⟩,?_⟩
  · rcases hn with rfl | rfl
    · left;simp
    · right;rw [Nat.div_self (by omega),Nat.one_mul]
  · rcases hn with rfl | rfl
    · have e1:ptOf r 0 f=ptE r:=by unfold ptOf;rw [if_pos (Nat.zero_div _)]
      rw [e1,Nat.zero_div,Nat.zero_mul]
      unfold Pt.force ptOf ptE
      rw [if_neg (by simp),if_pos (Nat.zero_div _)]
    · have e1:widN r / widN r=1:=Nat.div_self (by omega)
      have e2:ptOf r (widN r) f=⟨plX r f 0,plY r f 0,plZ r f 0,plM r f 0,r,true⟩:=by unfold ptOf;rw [if_neg (by omega)]
      rw [e2,e1,Nat.one_mul]
      obtain ⟨p1,p2,p3,p4⟩:=fF_place r D hr hD f
      have e3:ptOf D (widN D) (fF r D f)=⟨plX D (fF r D f) 0,plY D (fF r D f) 0,plZ D (fF r D f) 0,plM D (fF r D f) 0,D,true⟩:=by unfold ptOf;rw [if_neg (by rw [Nat.div_self (by omega)];omega)]
      rw [e3,p1,p2,p3,p4]
      unfold Pt.force
      rw [if_pos rfl]
theorem ptOf_min (r n:Nat) (hr:r<4) (f:Nat→Nat):ptOf r (min (n / widN r) 1*widN r) f=ptOf r n f:=by
  have hw:=widN_le r hr
  unfold ptOf
  rw [Nat.mul_div_cancel _ (by omega)]
  generalize n / widN r=L
  by_cases h:L=0
  · rw [if_pos h,if_pos (by omega)]
  · rw [if_neg h,if_neg (by omega)]
theorem PtT.new (d:Int) (n:Nat) (f:Nat→Nat) (kids:List Raw) (hf:∀ i,f i<18446744073709551616):PtT (newT (.mk 1 d n f kids))∧ptR (newT (.mk 1 d n f kids))=ptR (.mk 1 d n f kids):=by
  obtain ⟨r,hr,hr4⟩ : ∃ r:Nat,d % 4=r∧r<4:=⟨(d % 4).toNat,by omega,by omega⟩
  have hrt:(d % 4).toNat=r:=by rw [hr];rfl
  have e:newT (.mk 1 d n f kids)=.mk 1 (r:Nat) (min (n / widN r) 1*widN r) f []:=by rw [new1,hrt,hr]
  rw [e,ptR_of hr4,ptOf_min r n hr4]
  refine ⟨⟨r,_,f,rfl,hr4,?_,hf⟩,by show _=ptOf (d % 4).toNat n f;rw [hrt]⟩
  generalize n / widN r=L
  by_cases h:L=0
  · left;rw [h];simp
  · right;rw [show min L 1=1 by omega,Nat.one_mul]
theorem PointFC:FC DPoint 213:=by
  intro B W v t r' ⟨ht,hv⟩ hok hr' hB
  subst hv
  obtain ⟨h1,h2⟩:=ht.force r' hr'
  have h3:=ht.dim
  have h4:(ptR t).r<4:=by omega
  refine (PtForce_any (ptR t).x (ptR t).y (ptR t).z (ptR t).m (ptR t).r (ptR t).b r' h4 hr' W).mono ?_
  rintro e w' ⟨rfl,hg⟩
  exact ⟨_,rfl,⟨h1,by rw [←h2]⟩,hg⟩
theorem PointCC:CC DPoint 140:=by
  intro B W v t ⟨ht,hv⟩
  subst hv
  rw [←ht.dim.2]
  exact PtCT_any _ _ _ _ _ _ W
theorem PointBC:BC DPoint 48 1:=by
  intro h B W v t hk hw hkd
  cases h with
  | zero=>exact hk.elim
  | succ h =>
    obtain ⟨k,d,n,f,kids⟩:=t
    obtain ⟨p,cap,q,c2,rfl,hf,_⟩:=hk
    obtain rfl:k=1:=hkd
    unfold wt at hw
    obtain ⟨r,hr⟩ : ∃ r:Nat,d % 4=r:=⟨(d % 4).toNat,by omega⟩
    obtain ⟨h1,h2⟩:=PtT.new d n f kids hf.lt
    refine (point_any d r hr p q n cap kids.length c2 f (by omega) W hf).mono ?_
    rintro e w' ⟨rfl,hg⟩
    have hrt:(d % 4).toNat=r:=by rw [hr];rfl
    exact ⟨_,rfl,⟨h1,by rw [h2];show _=(ptOf (d % 4).toNat n f).v;rw [hrt]⟩,hg⟩
theorem PR.keep {B:Nat→Prop} {W W':World} (g:Kept B W W') {p:Option Addr} {ps:List Pt} (h:PR W p ps) (hb:0<ps.length→∀ a,p=some a→B a.block):PR W' p ps:=by
  refine ⟨h.some_,fun a ha i t hi=>?_⟩
  have h0:0<ps.length:=by have:=(List.getElem?_eq_some_iff.1 hi).1;omega
  have hB:B (a.add (i*6)).block:=by rw [add_block];exact hb h0 a ha
  obtain ⟨h0,h1,h2,h3,h4,h5⟩:=h.at_ a ha i t hi
  exact ⟨g _ _ hB h0,g _ _ hB h1,g _ _ hB h2,g _ _ hB h3,g _ _ hB h4,g _ _ hB h5⟩
def DMpt (B:Nat→Prop) (W:World) (v:Value) (t:Raw):Prop:=∃ r f kids p c,t=.mk 4 (r:Nat) 0 f kids∧r<4∧(∀ s ∈ kids,PtT s)∧v=.agg #[.slice p kids.length c,.int .u8 r]∧PR W p (kids.map ptR)∧(0<kids.length→∀ a,p=some a→B a.block)
theorem DMpt.dk:DK DMpt where
  keep:=fun g ⟨r,f,kids,p,c,e,hr,hs,ev,hp,hb⟩=>⟨r,f,kids,p,c,e,hr,hs,ev,hp.keep g (by rw [List.length_map];exact hb),hb⟩
  weak:=fun hl ⟨r,f,kids,p,c,e,hr,hs,ev,hp,hb⟩=>⟨r,f,kids,p,c,e,hr,hs,ev,hp,fun h0 a ha=>hl _ (hb h0 a ha)⟩
  one:=fun ⟨r,f,kids,p,c,e,hr,hs,ev,hp,hb⟩=>⟨_,_,ev,rfl,rfl⟩
theorem DMpt.form {B:Nat→Prop} {W:World} {v:Value} {t:Raw} : DMpt B W v t→∃ (p:Option Addr) (n c r:Nat),v=.agg #[.slice p n c,.int .u8 r]:=fun ⟨r,f,kids,p,c,e,hr,hs,ev,hp,hb⟩=>⟨p,_,c,r,ev⟩
theorem DMpt.d4 {B:Nat→Prop} {W:World} {v:Value} {t:Raw} : DMpt B W v t→dimR t<4:=fun ⟨r,f,kids,p,c,e,hr,_⟩=>by subst e;show ((r:Nat):Int).toNat<4;omega
theorem PR.lt {W:World} {p:Option Addr} {ps:List Pt} (h:PR W p ps) (h0:0<ps.length) (a:Addr) (ha:p=some a):a.block<W.heap.size:=by
  have hc:=(h.at_ a ha 0 (ps[0]'h0) (List.getElem?_eq_getElem h0)).1
  have:=World.block_lt_of_cell? W _ hc
  rw [add_block] at this
  exact this
theorem MptCC:CC DMpt 147:=by
  intro B W v t ⟨r,f,kids,p,c,e,hr,hs,ev,hp,hb⟩
  subst e ev
  exact MPCT_any r _ c p W
theorem MptFC:FC DMpt 110:=by
  intro B W v t r' hd hok hr' hB
  obtain ⟨r,f,kids,p,c,rfl,hr,hs,rfl,hp,hb⟩:=hd
  rw [force_node]
  obtain ⟨n,hn⟩ : ∃ n,kids.length=n:=⟨_,rfl⟩
  have hn2:n≤2513169434843:=by rw [←hn];unfold okT at hok;exact hok.2.1
  have hoks:∀ u ∈ kids.map ptR,u.Ok:=fun u hu=>by obtain ⟨s,h1,rfl⟩:=List.mem_map.1 hu;exact (hs s h1).ok
  have hmap:(kids.map ptR).map (fun u=>u.force r')=(forceTs r' kids).map ptR:=by
    refine List.ext_getElem? fun i=>?_
    rw [List.getElem?_map,List.getElem?_map,List.getElem?_map,forceTs_get]
    cases h:kids[i]? with
    | none=>rfl
    | some s=>simp only [Option.map_some];rw [((hs s (List.mem_of_getElem? h)).force r' hr').2]
  rw [hn]
  have HG:=Lib.hid (gt_alloc_r (World.grownBy_alloc W (.cells #[.slice p n c,.int .u8 r] 101) none) (.cells #[.slice none 0 0,.int .u8 0] 101))
  have HF:=Lib.hid (fun w (g:W.grownBy w none)=>forceSlice_any r' hr' p (kids.map ptR) n c (by rw [List.length_map];exact hn) hn2 hoks w (hp.mono g))
  rw [hmap] at HF
  have HC:Hid (∀ w,((W.alloc (.cells #[.slice p n c,.int .u8 r] 101)).alloc (.cells #[.slice none 0 0,.int .u8 0] 101)).grownBy w none→w.cell? ⟨W.heap.size+1,0,none⟩=some (.slice none 0 0)∧w.cell? ⟨W.heap.size+1,1,none⟩=some (.int .u8 0)∧w.frozen? ⟨W.heap.size+1,0,none⟩=false∧w.frozen? ⟨W.heap.size+1,1,none⟩=false):=fun w g=>by
    have hb:=g.block (W.heap.size+1) (by simp) (by simp)
    refine ⟨g.cell (by simp) (by simp),g.cell (by simp) (by simp),?_,?_⟩ <;> (rw [World.frozen?_of_block hb];simp)
  have hfin:Hid (∀ (w:World) (a:Addr),PR w (some a) ((forceTs r' kids).map ptR)→W.heap.size+2≤a.block→((W.alloc (.cells #[.slice p n c,.int .u8 r] 101)).alloc (.cells #[.slice none 0 0,.int .u8 0] 101)).grownBy w none→FPost DMpt B W (.mk 4 (r':Nat) 0 (fF r r' f) (forceTs r' kids)) (.returned (.agg #[.slice (some a) n n,.int .u8 r'])) ((w.setCell ⟨W.heap.size+1,0,none⟩ (.slice (some a) n n)).setCell ⟨W.heap.size+1,1,none⟩ (.int .u8 r'))):=fun w a h ha g=>by
    have hne:∀ a',some a=some a'→a'.block≠W.heap.size+1:=fun a' e=>by injection e with e;subst e;omega
    have hl:(forceTs r' kids).length=n:=by rw [forceTs_len,hn]
    refine ⟨_,rfl,⟨r',_,_,some a,n,rfl,hr',fun s hs'=>?_,by rw [hl],(h.set hne _).set hne _,fun h0 a' ha'=>.inr ?_⟩,gt_set_r (gt_set_r (gt_trans HG.out g (.inl rfl)) _ _ (Nat.le_succ _)) _ _ (Nat.le_succ _)⟩
    · obtain ⟨i,hi⟩:=List.getElem?_of_mem hs'
      rw [forceTs_get] at hi
      obtain ⟨u,hu,rfl⟩:=Option.map_eq_some_iff.1 hi
      exact ((hs u (List.mem_of_getElem? hu)).force r' hr').1
    · injection ha' with ha'
      subst ha'
      have:=h.lt (by rw [List.length_map];exact h0) a rfl
      exact ⟨by omega,by simpa [World.setCell] using this⟩
  clear hp hb hok hoks hmap hs hB hn
  go_enter Tryz.func110,Tryz.ntmps110
  go_wp2_with (first
    | (go_at_call 169;refine (HF.out _ HG.out).mono ?_;rintro e w2 ⟨a,rfl,hpr,hab,hg2⟩;obtain ⟨x0,x1,f0,f1⟩:=HC.out _ hg2))
  refine bodyPost_ret (by simp [results,Tryz.results110,go_sem,x0,x1];try rfl) rfl ?_
  exact hfin.out _ _ hpr (by simpa using hab) hg2
theorem multiPoint_fr (h:Nat) (B:Nat→Prop) (W:World) (d:Int) (r:Nat) (hr:d % 4=r) (p q:Option Addr) (n cap m c2:Nat) (f:Nat→Nat) (kids:List Raw) (hm:kids.length=m)
    (hk:KD B (h+1) W (.agg #[.int .i64 4,.int .i64 d,.slice p n cap,.slice q m c2]) (.mk 4 d n f kids)) (hw:wt (.mk 4 d n f kids)≤2513169434843) :
    Calls Tryz.prog 54 #[.agg #[.int .i64 4,.int .i64 d,.slice p n cap,.slice q m c2]] W fun e w'=>∃ v,e=.returned v∧MPIs w' v (mpR r (ptsOf kids)) ((ptsOf kids).map fun t=>t.force (dimsP (ptsOf kids)))∧(∀ pp k cc x,v=.agg #[.slice pp k cc,x]→0<k→∀ a,pp=some a→W.heap.size≤a.block)∧W.grownBy w' none:=by
  obtain ⟨p',cap',q',c2',e0,hf,h1,h2,h3,hm1,hm2,hm3,hm4,_⟩:=hk
  obtain ⟨rfl,rfl,rfl,rfl⟩ : p=p'∧cap=cap'∧q=q'∧c2=c2':=by simp [hm] at e0;exact ⟨e0.1.1,e0.1.2,e0.2.1,e0.2.2⟩
  have hr4:r<4:=by omega
  rw [hm] at hm1
  have hwk:wts kids≤2513169434843:=by unfold wt at hw;omega
  have hml:m≤2513169434843:=by have:=wts_len kids;omega
  have HKid:=Lib.hid (fun w (g:W.grownBy w none) a (ha:q=some a) j t (hj:kids[j]?=some t)=>(by
      obtain ⟨c0,c1,c2,c3,k0,k1,k2,k3,k4⟩:=hm4 a ha j t hj
      exact ⟨c0,c1,c2,c3,k0.mono g,g.cell k1 (by simp),g.cell k2 (by simp),g.cell k3 (by simp),g.cell k4 (by simp)⟩ : ∃ c0 c1 c2 c3,KD B h w (.agg #[c0,c1,c2,c3]) t∧w.cell? (a.add (j*4))=some c0∧w.cell? ⟨(a.add (j*4)).block,(a.add (j*4)).off+1,none⟩=some c1∧w.cell? ⟨(a.add (j*4)).block,(a.add (j*4)).off+2,none⟩=some c2∧w.cell? ⟨(a.add (j*4)).block,(a.add (j*4)).off+3,none⟩=some c3))
  have HGt:Hid (∀ j,j<m→∃ t,kids[j]?=some t):=fun j hj=>⟨kids[j]'(by omega),List.getElem?_eq_getElem (by omega)⟩
  have HWt:=Lib.hid (fun j t (hj:kids[j]?=some t)=>(by have:=wts_mem kids j t hj;omega:wt t≤2513169434843))
  have HPT:=Lib.hid (fun j t (hj:kids[j]?=some t)=>ptsOf_take kids j t hj)
  have HLen:Hid (∀ j,j≤m→(ptsOf (kids.take j)).length≤2513169434843):=fun j hj=>by
    have:=ptsOf_len (kids.take j)
    rw [List.length_take] at this
    omega
  have HPE:Hid (ptsOf (kids.take m)=ptsOf kids):=by rw [←hm,List.take_length];rfl
  have hqn:=Lib.hid hm3
  have HP0:Hid (ptsOf (kids.take 0)=[]):=by simp [ptsOf];exact trivial
  have HG:=Lib.hid (gt_alloc_r (World.grownBy_alloc W (.cells #[.int .i64 4,.int .i64 d,.slice p n cap,.slice q m c2] 33) none) (.cells #[.slice none 0 0,.int .u8 0] 101))
  have HA:Hid (∀ w,((W.alloc (.cells #[.int .i64 4,.int .i64 d,.slice p n cap,.slice q m c2] 33)).alloc (.cells #[.slice none 0 0,.int .u8 0] 101)).grownBy w none→w.cell? ⟨W.heap.size,0,none⟩=some (.int .i64 4)∧w.cell? ⟨W.heap.size,1,none⟩=some (.int .i64 d)):=fun w g=>⟨g.cell (by simp) (by simp),g.cell (by simp) (by simp)⟩
  have HC:Hid (∀ w,((W.alloc (.cells #[.int .i64 4,.int .i64 d,.slice p n cap,.slice q m c2] 33)).alloc (.cells #[.slice none 0 0,.int .u8 0] 101)).grownBy w none→w.cell? ⟨W.heap.size+1,0,none⟩=some (.slice none 0 0)∧w.cell? ⟨W.heap.size+1,1,none⟩=some (.int .u8 0)∧w.frozen? ⟨W.heap.size+1,0,none⟩=false∧w.frozen? ⟨W.heap.size+1,1,none⟩=false):=fun w g=>by
    have hb:=g.block (W.heap.size+1) (by simp) (by simp)
    refine ⟨g.cell (by simp) (by simp),g.cell (by simp) (by simp),?_,?_⟩ <;> (rw [World.frozen?_of_block hb];simp)
  have HO:=Lib.hid (fun w=>dimOf_r d r hr w)
  have HFN:=Lib.hid (fun w=>MPForce_nil r hr4 w)
  clear hm4 hm3 hf hw e0 hr hm hwk
  generalize hW0:(W.alloc (.cells #[.int .i64 4,.int .i64 d,.slice p n cap,.slice q m c2] 33)).alloc (.cells #[.slice none 0 0,.int .u8 0] 101)=W0 at HG HA HC
  have hs0:W.heap.size+2≤W0.heap.size:=by rw [←hW0];simp
  have HW0:=Lib.hid hW0
  clear hW0
  go_enter Tryz.func54,Tryz.ntmps54
  go_wp2_with fail
  rw [HW0.out]
  clear HW0
  go_loopw [3,9] (fun x i wr=>∃ j:Nat,j≤m∧i=.int .i64 j∧(∀ t ∈ ptsOf (kids.take j),t.Ok)∧AppV 87 6 W0.heap.size W0 (.slice none 0 0) wr x (ptsOf (kids.take j)).length (flatP (ptsOf (kids.take j)))) (fun _ i _=>m - (intOf i).toNat)
  case atStart=>exact ⟨0,by omega,rfl,by rw [HP0.out];intro t h;simp at h,by rw [HP0.out];exact AppV.nil _ _ _ _⟩
  case round =>
    obtain ⟨j,hj,rfl,hok,H⟩:=hrel
    rename World=>wr
    have g0:=H.grown0
    have Gw:=gt_trans HG.out g0 (.inl rfl)
    obtain ⟨k0,k1⟩:=HA.out _ g0
    obtain ⟨px,cx,rfl⟩:=H.slice
    have hlen:=HLen.out j hj
    have hbig:W.heap.size<wr.heap.size:=by have:=g0.size;omega
    have hbig2:W.heap.size+1<wr.heap.size:=by have:=g0.size;omega
    by_cases hjm:j<m
    · obtain ⟨t,ht⟩:=HGt.out j hjm
      obtain ⟨a,rfl⟩ : ∃ a,q=some a:=by
        cases q with
        | none=>have:=hqn.out rfl;omega
        | some a=>exact ⟨a,rfl⟩
      obtain ⟨c0,c1,c2,c3,kk,q0,q1,q2,q3⟩:=HKid.out wr Gw a rfl j t ht
      have hwt:=HWt.out j t ht
      have hpt:=HPT.out j t ht
      clear ht
      obtain ⟨e1,d1,n1,f1,kids1,p1,cap1,q1',cq1,rfl,rfl,rfl,rfl,rfl⟩:=kk.form4
      generalize hm1':kids1.length=m1 at q3
      obtain ⟨l,hl⟩ : ∃ l,l=(ptsOf (kids.take j)).length:=⟨_,rfl⟩
      by_cases he1:e1=1
      · subst he1
        have hn1:n1≤2513169434843:=by unfold wt at hwt;omega
        have hfv:FVal wr p1 n1 f1:=by
          cases h with
          | zero=>exact kk.elim
          | succ h =>
            obtain ⟨pp,cc,qq,cc2,ee,hf1,_⟩:=kk
            simp at ee
            obtain ⟨⟨rfl,rfl⟩,_⟩:=ee
            exact hf1
        obtain ⟨r1,hr1⟩ : ∃ r1:Nat,d1 % 4=r1:=⟨(d1 % 4).toNat,by omega⟩
        have hptR:ptR (.mk 1 d1 n1 f1 kids1)=ptOf r1 n1 f1:=by show ptOf (d1 % 4).toNat n1 f1=_;rw [hr1];rfl
        have hkk:kindOf (.mk 1 d1 n1 f1 kids1)=1:=rfl
        rw [if_pos hkk,hptR] at hpt
        have hok1:=ptOf_ok r1 n1 f1 (by omega) hfv.lt
        have HPn:=Lib.hid (fun w (g:wr.grownBy w none)=>point_any d1 r1 hr1 p1 q1' n1 cap1 m1 cq1 f1 hn1 w (hfv.mono g))
        clear kk hfv hkk hptR hwt
        revert HPn hpt hok1
        generalize ptOf r1 n1 f1=Q
        obtain ⟨qx,qy,qz,qm,qr,qb⟩:=Q
        intro hpt hok1 HPn
        have HPt2:Hid (∀ w (g:wr.grownBy w none),Calls Tryz.prog 48 #[.agg #[.int .i64 1,.int .i64 d1,.slice p1 n1 cap1,.slice q1' m1 cq1]] w fun e w'=>e=.returned (.agg #[.float .f64 qx,.float .f64 qy,.float .f64 qz,.float .f64 qm,.int .u8 qr,.bool qb])∧w.grownBy w' none):=HPn.out
        have hfin:Hid (∀ v1 w1,AppV 87 6 W0.heap.size W0 (.slice none 0 0) w1 v1 ((ptsOf (kids.take j)).length+1) (flatP (ptsOf (kids.take j))++[.float .f64 qx,.float .f64 qy,.float .f64 qz,.float .f64 qm,.int .u8 qr,.bool qb])→(∀ t ∈ ptsOf (kids.take (j+1)),t.Ok)∧AppV 87 6 W0.heap.size W0 (.slice none 0 0) w1 v1 (ptsOf (kids.take (j+1))).length (flatP (ptsOf (kids.take (j+1))))):=fun v1 w1 hh=>by
          rw [hpt,flatP_snoc,List.length_append]
          exact ⟨fun t ht=>by rcases List.mem_append.1 ht with ht | ht;exact hok t ht;rw [List.mem_singleton.1 ht];exact hok1,hh⟩
        have HB5:Hid (∀ w,wr.grownBy w none→AppV 87 6 W0.heap.size W0 (.slice none 0 0) w (.slice px (ptsOf (kids.take j)).length cx) (ptsOf (kids.take j)).length (flatP (ptsOf (kids.take j)))):=fun w g=>H.beside g
        have HG5:=Lib.hid (World.grownBy_alloc wr (.cells #[.int .i64 1,.int .i64 d1,.slice p1 n1 cap1,.slice q1' m1 cq1] 33) none)
        clear HPn hpt hok1 hok H hl
        generalize (ptsOf (kids.take j)).length=l at HB5 hfin hlen ⊢
        generalize flatP (ptsOf (kids.take j))=cs at HB5 hfin
        go_wp2_with (first
          | (go_at_call 48;refine (HPt2.out _ HG5.out).mono ?_;rintro e w2 ⟨rfl,hg2⟩;have G2:=gt_trans HG5.out hg2 (.inl rfl))
          | (at_builtin;refine app_cells rfl _ _ _ rfl Tryz.underlying99 (.agg #[.float .f64 0,.float .f64 0,.float .f64 0,.float .f64 0,.int .u8 0,.bool false]) 48 infoPt rfl (by omega) (HB5.out _ G2) rfl rfl (by first | rfl | simp) _ (by first | rfl | simp) (by simp [Value.oneCell']) (Nat.le_refl _) (by omega) (by omega) ?_;intro v1 w1 H1;have HH:=Lib.hid (hfin.out _ _ H1);clear H1))
        exact ⟨⟨j+1,by omega,by go_num,HH.out⟩,by simp [intOf];omega⟩
      · have hkk:¬ kindOf (.mk e1 d1 n1 f1 kids1)=1:=he1
        rw [if_neg hkk,List.append_nil] at hpt
        have HFin:Hid (∀ w,wr.grownBy w none→(∀ t ∈ ptsOf (kids.take (j+1)),t.Ok)∧AppV 87 6 W0.heap.size W0 (.slice none 0 0) w (.slice px (ptsOf (kids.take j)).length cx) (ptsOf (kids.take (j+1))).length (flatP (ptsOf (kids.take (j+1))))):=fun w g=>by rw [hpt];exact ⟨hok,H.beside g⟩
        have hb1:(e1==1)=false:=by simpa using he1
        clear hkk hpt kk hwt hok H hl
        generalize (ptsOf (kids.take j)).length=l at HFin hlen ⊢
        go_wp2_with fail
        exact ⟨⟨j+1,by omega,by go_num,HFin.out _ (World.grownBy_alloc _ _ _)⟩,by simp [intOf];omega⟩
    · obtain rfl:j=m:=by omega
      rw [HPE.out] at H hok hlen ⊢
      clear HPE HPT HLen HKid HGt HWt HP0
      have hok':=hok
      obtain ⟨ps,hpsd⟩ : ∃ ps,ps=ptsOf kids:=⟨_,rfl⟩
      have HPS:=Lib.hid hpsd
      rw [←hpsd] at H hok hlen ⊢
      clear hpsd hok'
      by_cases hps:ps=[]
      · have hmr:mpR r (ptsOf kids)=r:=by unfold mpR;rw [if_pos (HPS.out ▸ hps)]
        have hmap:((ptsOf kids).map fun t=>t.force (dimsP (ptsOf kids)))=[]:=by rw [←HPS.out,hps];rfl
        have HE1:=Lib.hid (And.intro hmr hmap)
        have hl0:ps.length=0:=by rw [hps];rfl
        rw [hl0]
        clear hmr hmap hps hl0 H hok hlen HPS
        go_wp2_with fail
        go_wp2_with (first
          | (go_at_call 104;refine (HO.out _).mono ?_;rintro e w3 ⟨rfl,rfl⟩)
          | (go_at_call 110;refine (HFN.out _).mono ?_;rintro e w2 ⟨v,rfl,hmp,hg2⟩;obtain ⟨hv1,hv2,pp,cc,rfl,hv3⟩:=hmp;obtain ⟨x0,x1,f0,f1⟩:=HC.out _ (gt_trans g0 hg2 (.inl rfl))))
        refine bodyPost_ret (by simp [results,Tryz.results54,go_sem,x0,x1];try rfl) rfl ?_
        refine ⟨_,rfl,?_,(fun pp' k' cc' x' e hk=>by simp at e;omega),gt_set_r (gt_set_r (gt_trans Gw hg2 (.inl rfl)) _ _ (Nat.le_succ _)) _ _ (Nat.le_succ _)⟩
        rw [HE1.out.1,HE1.out.2]
        exact ⟨hv1,hv2,pp,cc,rfl,⟨fun h=>absurd h (by simp),fun a' _ i t h=>by simp at h⟩⟩
      · have hmr:mpR r (ptsOf kids)=dimsP ps:=by unfold mpR;rw [if_neg (HPS.out ▸ hps),HPS.out]
        have hl0:0<ps.length:=Nat.pos_of_ne_zero fun e=>hps (List.eq_nil_of_length_eq_zero e)
        have hpr:PR wr px ps:=PR.of_own rfl H.own
        have HNM:=Lib.hid (fun w (g:wr.grownBy w none)=>NewMultiPoint_any px ps ps.length cx rfl hl0 hlen hok w (hpr.mono g) (fun a ha=>by subst ha;have:=(H.own.lt a.block rfl).2;exact Nat.lt_of_lt_of_le this g.size))
        have hbl:((ps.length:Int)==0)=false:=by rw [beq_eq_false_iff_ne];omega
        have HMR:Hid (∀ (w:World) v,MPIs w v (dimsP ps) (ps.map fun t=>t.force (dimsP ps))→MPIs w v (mpR r (ptsOf kids)) ((ptsOf kids).map fun t=>t.force (dimsP (ptsOf kids)))):=fun w v h=>by rw [hmr,←HPS.out];exact h
        have hml2:(ps.map fun t=>t.force (dimsP ps)).length=ps.length:=by simp
        obtain ⟨qs,hqs⟩ : ∃ qs,qs=ps.map fun t=>t.force (dimsP ps):=⟨_,rfl⟩
        rw [←hqs] at HNM HMR hml2
        generalize dimsP ps=D at HNM HMR
        clear hmr hps hpr H hok HPS hqs
        generalize ps.length=l at HNM hbl hl0 hlen hml2 ⊢
        go_wp2_with fail
        go_wp2_with (first
          | (go_at_call 111;refine (HNM.out _ (gt_refl _ _)).mono ?_;rintro e w2 ⟨v,rfl,hmp,hbk,hg2⟩;obtain ⟨hv1,hv2,pp,cc,rfl,hv3⟩:=hmp;obtain ⟨x0,x1,f0,f1⟩:=HC.out _ (gt_trans g0 hg2 (.inl rfl))))
        refine bodyPost_ret (by simp [results,Tryz.results54,go_sem,x0,x1];try rfl) rfl ?_
        refine ⟨_,rfl,?_,(fun pp' k' cc' x' e hk a ha=>by have h9:=hbk pp qs.length cc (.int .u8 D) rfl a (by simp at e;rw [e.1.1];exact ha);have:=Gw.size;omega),gt_set_r (gt_set_r (gt_trans Gw hg2 (.inl rfl)) _ _ (Nat.le_succ _)) _ _ (Nat.le_succ _)⟩
        have hbk2:∀ a,pp=some a→a.block≠W.heap.size+1:=fun a ha=>by
          have:=hbk pp qs.length cc (.int .u8 D) rfl a ha
          omega
        exact HMR.out _ _ ⟨hv1,hv2,pp,cc,by rw [hml2],(hv3.set hbk2 _).set hbk2 _⟩
theorem MptBC:BC DMpt 54 4:=by
  intro h B W v t hk hw hkd
  have hk0:=hk
  obtain ⟨k,d,n,f,kids⟩:=t
  obtain rfl:k=4:=hkd
  cases h with
  | zero=>exact hk.elim
  | succ h =>
  obtain ⟨p,cap,q,c2,rfl,hf,h1,h2,h3,hm1,hm2,hm3,hm4,_⟩:=hk
  obtain ⟨r,hr⟩ : ∃ r:Nat,d % 4=r:=⟨(d % 4).toNat,by omega⟩
  have hrt:(d % 4).toNat=r:=by rw [hr];rfl
  refine (multiPoint_fr h B W d r hr p q n cap kids.length c2 f kids rfl hk0 hw).mono ?_
  rintro e w' ⟨v',rfl,⟨hd4,hoks,pp,c,rfl,hpr⟩,hbk,hg⟩
  -- the kids that are points, and what they lie like
  have hfl:∀ s ∈ kids,kindOf s=1→PtT (newT s)∧ptR (newT s)=ptR s:=by
    intro s hs hk1
    obtain ⟨i,hi⟩:=List.getElem?_of_mem hs
    cases q with
    | none=>have:=hm3 rfl;have:=(List.getElem?_eq_some_iff.1 hi).1;omega
    | some a =>
      obtain ⟨c0,c1,c2',c3,kk,_⟩:=hm4 a rfl i s hi
      cases h with
      | zero=>exact kk.elim
      | succ h =>
        obtain ⟨k1,d1,n1,f1,kids1⟩:=s
        obtain rfl:k1=1:=hk1
        obtain ⟨_,_,_,_,_,hf1,_⟩:=kk
        exact PtT.new d1 n1 f1 kids1 hf1.lt
  have hacc:Acc 4 kids kids.length=(kids.filter fun t=>decide (kindOf t=1)).map newT:=by
    unfold Acc
    rw [List.take_length]
    exact kept4 kids
  have hPts:(Acc 4 kids kids.length).map ptR=ptsOf kids:=by
    rw [hacc,List.map_map]
    unfold ptsOf
    refine List.map_congr_left fun s hs=>?_
    have:=List.mem_filter.1 hs
    exact (hfl s this.1 (by simpa using this.2)).2
  have hPT:∀ s ∈ Acc 4 kids kids.length,PtT s:=fun s hs=>by
    rw [hacc] at hs
    obtain ⟨u,hu,rfl⟩:=List.mem_map.1 hs
    have:=List.mem_filter.1 hu
    exact (hfl u this.1 (by simpa using this.2)).1
  have hdims:dimsP (ptsOf kids)=dimsOf (Acc 4 kids kids.length):=by
    rw [hacc]
    unfold ptsOf
    exact (dims4 _ (fun t ht=>by simpa using (List.mem_filter.1 ht).2)).symm
  have e:newT (.mk 4 d n f kids)=nodeT 4 r f (Acc 4 kids kids.length):=by rw [newT_node _ _ _ _ _ (by decide) (by decide),hrt,show kindN 4=4 by decide]
  obtain ⟨f',e2⟩:=node_one 4 r f (Acc 4 kids kids.length)
  rw [e,e2]
  generalize Acc 4 kids kids.length=L at hPts hPT hdims
  have hPe:(ptsOf kids=[])↔L=[]:=by rw [←hPts];simp
  refine ⟨_,rfl,?_,hg⟩
  by_cases hL:L=[]
  · rw [if_pos hL,if_pos hL]
    have h0:ptsOf kids=[]:=hPe.2 hL
    have e3:mpR r (ptsOf kids)=r:=by unfold mpR;rw [if_pos h0]
    rw [e3] at hd4
    rw [e3,h0]
    refine ⟨r,f',[],pp,c,rfl,hd4,(fun s hs=>by simp at hs),rfl,?_,fun h=>absurd h (by simp)⟩
    rw [h0] at hpr
    exact hpr
  · rw [if_neg hL,if_neg hL]
    have h0:¬ ptsOf kids=[]:=fun h=>hL (hPe.1 h)
    have e3:mpR r (ptsOf kids)=dimsOf L:=by unfold mpR;rw [if_neg h0,hdims]
    rw [hdims] at hpr hbk ⊢
    have hmap:(ptsOf kids).map (fun u=>u.force (dimsOf L))=(forceTs (dimsOf L) L).map ptR:=by
      rw [←hPts]
      refine List.ext_getElem? fun i=>?_
      rw [List.getElem?_map,List.getElem?_map,List.getElem?_map,forceTs_get]
      cases h:L[i]? with
      | none=>rfl
      | some s=>simp only [Option.map_some];rw [((hPT s (List.mem_of_getElem? h)).force _ (dimsOf_lt L)).2]
    rw [hmap] at hpr hbk ⊢
    rw [List.length_map] at hbk ⊢
    rw [e3] at hbk ⊢
    refine ⟨dimsOf L,f',forceTs (dimsOf L) L,pp,c,rfl,dimsOf_lt L,fun s hs=>?_,rfl,hpr,fun h1 a ha=>⟨hbk pp _ c _ rfl h1 a ha,hpr.lt (by rw [List.length_map];exact h1) a ha⟩⟩
    obtain ⟨i,hi⟩:=List.getElem?_of_mem hs
    rw [forceTs_get] at hi
    obtain ⟨u,hu,rfl⟩:=Option.map_eq_some_iff.1 hi
    exact ((hPT u (List.mem_of_getElem? hu)).force _ (dimsOf_lt L)).1
end
section
open Go.RowKit
theorem AsPoint (fx fy fz fm er:Nat) (eb:Bool) (W:World):Calls Tryz.prog 49 #[.agg #[.float .f64 fx,.float .f64 fy,.float .f64 fz,.float .f64 fm,.int .u8 er,.bool eb]] W fun e w'=>e=.returned (.agg #[.int .i64 1,.iface 165 (.pointer (some ⟨W.heap.size,0,none⟩))])∧(w'.cell? ⟨W.heap.size,0,none⟩=some (.float .f64 fx)∧w'.cell? ⟨W.heap.size,1,none⟩=some (.float .f64 fy)∧w'.cell? ⟨W.heap.size,2,none⟩=some (.float .f64 fz)∧w'.cell? ⟨W.heap.size,3,none⟩=some (.float .f64 fm)∧w'.cell? ⟨W.heap.size,4,none⟩=some (.int .u8 er)∧w'.cell? ⟨W.heap.size,5,none⟩=some (.bool eb))∧W.heap.size<w'.heap.size∧W.grownBy w' none:=by
  have hsf:=run_store_flt Tryz.prog
  go_enter Tryz.func49,Tryz.ntmps49
  go_wp2_with fail
  go_returns
  refine ⟨rfl,?_,by simp;omega,gt_alloc_r (World.grownBy_alloc _ _ _) _⟩
  simp
theorem MustAsPoint (fx fy fz fm er:Nat) (eb:Bool) (b:Nat) (W:World) (h0:W.cell? ⟨b,0,none⟩=some (.float .f64 fx)) (h1:W.cell? ⟨b,1,none⟩=some (.float .f64 fy)) (h2:W.cell? ⟨b,2,none⟩=some (.float .f64 fz)) (h3:W.cell? ⟨b,3,none⟩=some (.float .f64 fm)) (h4:W.cell? ⟨b,4,none⟩=some (.int .u8 er)) (h5:W.cell? ⟨b,5,none⟩=some (.bool eb)) (hb:b<W.heap.size):Calls Tryz.prog 75 #[.agg #[.int .i64 1,.iface 165 (.pointer (some ⟨b,0,none⟩))]] W fun e w'=>e=.returned (.agg #[.float .f64 fx,.float .f64 fy,.float .f64 fz,.float .f64 fm,.int .u8 er,.bool eb])∧W.grownBy w' none:=by
  have hsf:=run_store_flt Tryz.prog
  have hta:∀ (w:World) (v:Value),(Instr.typeAssert (.iface 165 v) 20 165 false).run Tryz.prog w=.ok v w:=fun w v=>by kernel_rfl
  go_enter Tryz.func75,Tryz.ntmps75
  have hb1:b<W.heap.size+1:=by omega
  have hb2:b<W.heap.size+1+1:=by omega
  go_wp2_with (go_in)
  go_returns
  exact ⟨rfl,by first | exact gt_alloc_r (gt_alloc_r (World.grownBy_alloc _ _ _) _) _ | exact gt_alloc_r (World.grownBy_alloc _ _ _) _⟩
theorem AsLineString (er:Nat) (ep:Option Addr) (en ec:Nat) (W:World):Calls Tryz.prog 51 #[.agg #[.int .u8 er,.slice ep en ec]] W fun e w'=>e=.returned (.agg #[.int .i64 2,.iface 167 (.pointer (some ⟨W.heap.size,0,none⟩))])∧(w'.cell? ⟨W.heap.size,0,none⟩=some (.int .u8 er)∧w'.cell? ⟨W.heap.size,1,none⟩=some (.slice ep en ec))∧W.heap.size<w'.heap.size∧W.grownBy w' none:=by
  go_enter Tryz.func51,Tryz.ntmps51
  go_wp2_with fail
  go_returns
  refine ⟨rfl,?_,by simp;omega,gt_alloc_r (World.grownBy_alloc _ _ _) _⟩
  simp
theorem MustAsLineString (er:Nat) (ep:Option Addr) (en ec:Nat) (b:Nat) (W:World) (h0:W.cell? ⟨b,0,none⟩=some (.int .u8 er)) (h1:W.cell? ⟨b,1,none⟩=some (.slice ep en ec)) (hb:b<W.heap.size):Calls Tryz.prog 64 #[.agg #[.int .i64 2,.iface 167 (.pointer (some ⟨b,0,none⟩))]] W fun e w'=>e=.returned (.agg #[.int .u8 er,.slice ep en ec])∧W.grownBy w' none:=by
  have hta:∀ (w:World) (v:Value),(Instr.typeAssert (.iface 167 v) 20 167 false).run Tryz.prog w=.ok v w:=fun w v=>by kernel_rfl
  go_enter Tryz.func64,Tryz.ntmps64
  have hb1:b<W.heap.size+1:=by omega
  have hb2:b<W.heap.size+1+1:=by omega
  go_wp2_with (go_in)
  go_returns
  exact ⟨rfl,by first | exact gt_alloc_r (gt_alloc_r (World.grownBy_alloc _ _ _) _) _ | exact gt_alloc_r (World.grownBy_alloc _ _ _) _⟩
theorem AsPolygon (ep:Option Addr) (en ec er:Nat) (W:World):Calls Tryz.prog 53 #[.agg #[.slice ep en ec,.int .u8 er]] W fun e w'=>e=.returned (.agg #[.int .i64 3,.iface 170 (.pointer (some ⟨W.heap.size,0,none⟩))])∧(w'.cell? ⟨W.heap.size,0,none⟩=some (.slice ep en ec)∧w'.cell? ⟨W.heap.size,1,none⟩=some (.int .u8 er))∧W.heap.size<w'.heap.size∧W.grownBy w' none:=by
  go_enter Tryz.func53,Tryz.ntmps53
  go_wp2_with fail
  go_returns
  refine ⟨rfl,?_,by simp;omega,gt_alloc_r (World.grownBy_alloc _ _ _) _⟩
  simp
theorem MustAsPolygon (ep:Option Addr) (en ec er:Nat) (b:Nat) (W:World) (h0:W.cell? ⟨b,0,none⟩=some (.slice ep en ec)) (h1:W.cell? ⟨b,1,none⟩=some (.int .u8 er)) (hb:b<W.heap.size):Calls Tryz.prog 66 #[.agg #[.int .i64 3,.iface 170 (.pointer (some ⟨b,0,none⟩))]] W fun e w'=>e=.returned (.agg #[.slice ep en ec,.int .u8 er])∧W.grownBy w' none:=by
  have hta:∀ (w:World) (v:Value),(Instr.typeAssert (.iface 170 v) 20 170 false).run Tryz.prog w=.ok v w:=fun w v=>by kernel_rfl
  go_enter Tryz.func66,Tryz.ntmps66
  have hb1:b<W.heap.size+1:=by omega
  have hb2:b<W.heap.size+1+1:=by omega
  go_wp2_with (go_in)
  go_returns
  exact ⟨rfl,by first | exact gt_alloc_r (gt_alloc_r (World.grownBy_alloc _ _ _) _) _ | exact gt_alloc_r (World.grownBy_alloc _ _ _) _⟩
theorem AsMultiPoint (ep:Option Addr) (en ec er:Nat) (W:World):Calls Tryz.prog 55 #[.agg #[.slice ep en ec,.int .u8 er]] W fun e w'=>e=.returned (.agg #[.int .i64 4,.iface 173 (.pointer (some ⟨W.heap.size,0,none⟩))])∧(w'.cell? ⟨W.heap.size,0,none⟩=some (.slice ep en ec)∧w'.cell? ⟨W.heap.size,1,none⟩=some (.int .u8 er))∧W.heap.size<w'.heap.size∧W.grownBy w' none:=by
  go_enter Tryz.func55,Tryz.ntmps55
  go_wp2_with fail
  go_returns
  refine ⟨rfl,?_,by simp;omega,gt_alloc_r (World.grownBy_alloc _ _ _) _⟩
  simp
theorem MustAsMultiPoint (ep:Option Addr) (en ec er:Nat) (b:Nat) (W:World) (h0:W.cell? ⟨b,0,none⟩=some (.slice ep en ec)) (h1:W.cell? ⟨b,1,none⟩=some (.int .u8 er)) (hb:b<W.heap.size):Calls Tryz.prog 79 #[.agg #[.int .i64 4,.iface 173 (.pointer (some ⟨b,0,none⟩))]] W fun e w'=>e=.returned (.agg #[.slice ep en ec,.int .u8 er])∧W.grownBy w' none:=by
  have hta:∀ (w:World) (v:Value),(Instr.typeAssert (.iface 173 v) 20 173 false).run Tryz.prog w=.ok v w:=fun w v=>by kernel_rfl
  go_enter Tryz.func79,Tryz.ntmps79
  have hb1:b<W.heap.size+1:=by omega
  have hb2:b<W.heap.size+1+1:=by omega
  go_wp2_with (go_in)
  go_returns
  exact ⟨rfl,by first | exact gt_alloc_r (gt_alloc_r (World.grownBy_alloc _ _ _) _) _ | exact gt_alloc_r (World.grownBy_alloc _ _ _) _⟩
theorem AsMultiLineString (ep:Option Addr) (en ec er:Nat) (W:World):Calls Tryz.prog 57 #[.agg #[.slice ep en ec,.int .u8 er]] W fun e w'=>e=.returned (.agg #[.int .i64 5,.iface 176 (.pointer (some ⟨W.heap.size,0,none⟩))])∧(w'.cell? ⟨W.heap.size,0,none⟩=some (.slice ep en ec)∧w'.cell? ⟨W.heap.size,1,none⟩=some (.int .u8 er))∧W.heap.size<w'.heap.size∧W.grownBy w' none:=by
  go_enter Tryz.func57,Tryz.ntmps57
  go_wp2_with fail
  go_returns
  refine ⟨rfl,?_,by simp;omega,gt_alloc_r (World.grownBy_alloc _ _ _) _⟩
  simp
theorem MustAsMultiLineString (ep:Option Addr) (en ec er:Nat) (b:Nat) (W:World) (h0:W.cell? ⟨b,0,none⟩=some (.slice ep en ec)) (h1:W.cell? ⟨b,1,none⟩=some (.int .u8 er)) (hb:b<W.heap.size):Calls Tryz.prog 68 #[.agg #[.int .i64 5,.iface 176 (.pointer (some ⟨b,0,none⟩))]] W fun e w'=>e=.returned (.agg #[.slice ep en ec,.int .u8 er])∧W.grownBy w' none:=by
  have hta:∀ (w:World) (v:Value),(Instr.typeAssert (.iface 176 v) 20 176 false).run Tryz.prog w=.ok v w:=fun w v=>by kernel_rfl
  go_enter Tryz.func68,Tryz.ntmps68
  have hb1:b<W.heap.size+1:=by omega
  have hb2:b<W.heap.size+1+1:=by omega
  go_wp2_with (go_in)
  go_returns
  exact ⟨rfl,by first | exact gt_alloc_r (gt_alloc_r (World.grownBy_alloc _ _ _) _) _ | exact gt_alloc_r (World.grownBy_alloc _ _ _) _⟩
theorem AsMultiPolygon (ep:Option Addr) (en ec er:Nat) (W:World):Calls Tryz.prog 59 #[.agg #[.slice ep en ec,.int .u8 er]] W fun e w'=>e=.returned (.agg #[.int .i64 6,.iface 179 (.pointer (some ⟨W.heap.size,0,none⟩))])∧(w'.cell? ⟨W.heap.size,0,none⟩=some (.slice ep en ec)∧w'.cell? ⟨W.heap.size,1,none⟩=some (.int .u8 er))∧W.heap.size<w'.heap.size∧W.grownBy w' none:=by
  go_enter Tryz.func59,Tryz.ntmps59
  go_wp2_with fail
  go_returns
  refine ⟨rfl,?_,by simp;omega,gt_alloc_r (World.grownBy_alloc _ _ _) _⟩
  simp
theorem MustAsMultiPolygon (ep:Option Addr) (en ec er:Nat) (b:Nat) (W:World) (h0:W.cell? ⟨b,0,none⟩=some (.slice ep en ec)) (h1:W.cell? ⟨b,1,none⟩=some (.int .u8 er)) (hb:b<W.heap.size):Calls Tryz.prog 70 #[.agg #[.int .i64 6,.iface 179 (.pointer (some ⟨b,0,none⟩))]] W fun e w'=>e=.returned (.agg #[.slice ep en ec,.int .u8 er])∧W.grownBy w' none:=by
  have hta:∀ (w:World) (v:Value),(Instr.typeAssert (.iface 179 v) 20 179 false).run Tryz.prog w=.ok v w:=fun w v=>by kernel_rfl
  go_enter Tryz.func70,Tryz.ntmps70
  have hb1:b<W.heap.size+1:=by omega
  have hb2:b<W.heap.size+1+1:=by omega
  go_wp2_with (go_in)
  go_returns
  exact ⟨rfl,by first | exact gt_alloc_r (gt_alloc_r (World.grownBy_alloc _ _ _) _) _ | exact gt_alloc_r (World.grownBy_alloc _ _ _) _⟩
theorem AsGeometryCollection (ep:Option Addr) (en ec er:Nat) (W:World):Calls Tryz.prog 61 #[.agg #[.slice ep en ec,.int .u8 er]] W fun e w'=>e=.returned (.agg #[.int .i64 0,.iface 183 (.pointer (some ⟨W.heap.size,0,none⟩))])∧(w'.cell? ⟨W.heap.size,0,none⟩=some (.slice ep en ec)∧w'.cell? ⟨W.heap.size,1,none⟩=some (.int .u8 er))∧W.heap.size<w'.heap.size∧W.grownBy w' none:=by
  go_enter Tryz.func61,Tryz.ntmps61
  go_wp2_with fail
  go_returns
  refine ⟨rfl,?_,by simp;omega,gt_alloc_r (World.grownBy_alloc _ _ _) _⟩
  simp
theorem MustAsGeometryCollection (ep:Option Addr) (en ec er:Nat) (b:Nat) (W:World) (h0:W.cell? ⟨b,0,none⟩=some (.slice ep en ec)) (h1:W.cell? ⟨b,1,none⟩=some (.int .u8 er)) (hb:b<W.heap.size):Calls Tryz.prog 62 #[.agg #[.int .i64 0,.iface 183 (.pointer (some ⟨b,0,none⟩))]] W fun e w'=>e=.returned (.agg #[.slice ep en ec,.int .u8 er])∧W.grownBy w' none:=by
  have hta:∀ (w:World) (v:Value),(Instr.typeAssert (.iface 183 v) 20 183 false).run Tryz.prog w=.ok v w:=fun w v=>by kernel_rfl
  go_enter Tryz.func62,Tryz.ntmps62
  have hb1:b<W.heap.size+1:=by omega
  have hb2:b<W.heap.size+1+1:=by omega
  go_wp2_with (go_in)
  go_returns
  exact ⟨rfl,by first | exact gt_alloc_r (gt_alloc_r (World.grownBy_alloc _ _ _) _) _ | exact gt_alloc_r (World.grownBy_alloc _ _ _) _⟩
end
end Go.Proofs.YtlpaecafpbbbkaaGreatDoor
