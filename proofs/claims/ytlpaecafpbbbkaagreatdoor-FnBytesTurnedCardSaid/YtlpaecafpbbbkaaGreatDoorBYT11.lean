/- Sizes of what the reference's New makes; a line made of a geometry, in new blocks. The package's containers, made of a geometry. The package's polygons, several lines and several polygons: all the contracts, together. The points and several points of the package, as trees of plain data. A value of the package as a geometry, and back. -/
import Derived.Test.YtlpaecafpbbbkaaGreatDoorBYT6
import Derived.Test.YtlpaecafpbbbkaaGreatDoorBYT10
set_option linter.unusedVariables false
set_option linter.unusedSimpArgs false
set_option maxRecDepth 100000
set_option maxHeartbeats 24000000
namespace Go.Proofs.YtlpaecafpbbbkaaGreatDoor
section
open Go.RowKit
mutual
def okU (r:Nat):Raw→Prop
  | .mk _ d n _ kids=>d=(r:Nat)∧n≤2000∧kids.length≤2000∧okUs r kids
def okUs (r:Nat):List Raw→Prop
  | []=>True
  | t::ts=>okU r t∧okUs r ts
end
mutual
theorem okU.ok {r:Nat} : ∀ {t:Raw},okU r t→okT t
  | .mk _ _ _ _ _,h=>by unfold okU at h;unfold okT;exact ⟨h.2.1,h.2.2.1,okUs.ok h.2.2.2⟩
theorem okUs.ok {r:Nat} : ∀ {ts:List Raw},okUs r ts→okTs ts
  | [],_=>trivial
  | _::_,h=>by unfold okUs at h;unfold okTs;exact ⟨okU.ok h.1,okUs.ok h.2⟩
end
mutual
theorem okU.force {r D:Nat} (hw:widN D≤widN r):∀ {t:Raw},okU r t→okU D (forceT D t)
  | .mk k d n f kids,h=>by
    unfold okU at h
    obtain ⟨rfl,h1,h2,h3⟩:=h
    unfold forceT okU
    refine ⟨rfl,?_,by rw [forceTs_len];exact h2,okUs.force hw h3⟩
    rw [Int.toNat_natCast]
    have e1:=Nat.mul_le_mul_left (n / widN r) hw
    have e2:=Nat.div_mul_le_self n (widN r)
    omega
theorem okUs.force {r D:Nat} (hw:widN D≤widN r):∀ {ts:List Raw},okUs r ts→okUs D (forceTs D ts)
  | [],_=>trivial
  | _::_,h=>by unfold okUs at h;unfold forceTs okUs;exact ⟨okU.force hw h.1,okUs.force hw h.2⟩
end
theorem widN_and:∀ a b:Nat,a<4→b<4→widN (a &&& b)≤widN a∧widN (a &&& b)≤widN b:=by
  intro a b ha hb
  rcases (by omega:a=0∨a=1∨a=2∨a=3) with rfl | rfl | rfl | rfl <;> rcases (by omega:b=0∨b=1∨b=2∨b=3) with rfl | rfl | rfl | rfl <;> decide
theorem widN_dims:∀ (ks:List Raw) (m:Raw),m ∈ ks→dimR m<4→widN (dimsOf ks)≤widN (dimR m)
  | [],_,h,_=>by simp at h
  | t::ks,m,h,hm=>by
    have hl:=dimsOf_lt ks
    unfold dimsOf
    by_cases ht:dimR t<4
    · rcases List.mem_cons.1 h with rfl | h
      · exact (widN_and _ _ ht hl).1
      · exact Nat.le_trans (widN_and _ _ ht hl).2 (widN_dims ks m h hm)
    · rcases List.mem_cons.1 h with rfl | h
      · exact absurd hm ht
      · have e:dimR t &&& dimsOf ks=(dimR t % 4) &&& dimsOf ks:=by
          apply Nat.eq_of_testBit_eq
          intro i
          rw [Nat.testBit_and,Nat.testBit_and,show (4:Nat)=2 ^ 2 from rfl,Nat.testBit_mod_two_pow]
          by_cases hi:i<2
          · simp [hi]
          · have:(dimsOf ks).testBit i=false:=Nat.testBit_lt_two_pow (Nat.lt_of_lt_of_le hl (by have:=Nat.pow_le_pow_right (n:=2) (by omega) (by omega:2≤i);omega))
            rw [this];simp
        rw [e]
        exact Nat.le_trans (widN_and _ _ (by omega) hl).2 (widN_dims ks m h hm)
theorem okUs_of {D:Nat} : ∀ (ks:List Raw),(∀ m ∈ ks,okU (dimR m) m∧widN D≤widN (dimR m))→okUs D (forceTs D ks)
  | [],_=>trivial
  | m::ks,h=>by unfold forceTs okUs;exact ⟨okU.force (h m List.mem_cons_self).2 (h m List.mem_cons_self).1,okUs_of ks fun s hs=>h s (List.mem_cons_of_mem _ hs)⟩
mutual
theorem new_okU:∀ t:Raw,wt t≤2000→okU (dimR (newT t)) (newT t)∧dimR (newT t)<4
  | .mk k d n f kids,hw=>by
    unfold wt at hw
    have hd:(d % 4).toNat<4:=by omega
    have hd2:(d % 4)=((d % 4).toNat:Int):=by omega
    unfold newT
    split
    · show okU (d % 4).toNat _∧(d % 4).toNat<4
      refine ⟨?_,hd⟩
      unfold okU
      have e2:=Nat.div_mul_le_self n (widN (d % 4).toNat)
      have e1:=Nat.mul_le_mul_right (widN (d % 4).toNat) (Nat.min_le_left (n / widN (d % 4).toNat) 1)
      exact ⟨hd2,by omega,by simp,trivial⟩
    · split
      · show okU (d % 4).toNat _∧(d % 4).toNat<4
        refine ⟨?_,hd⟩
        unfold okU
        have e2:=Nat.div_mul_le_self n (widN (d % 4).toNat)
        exact ⟨hd2,by omega,by simp,trivial⟩
      · obtain ⟨f',e⟩:=node_one (kindN k) (d % 4).toNat f ((newTs kids).filter (keepT (kindN k)))
        rw [e]
        have hk:=news_okU kids (by omega)
        have hlen:((newTs kids).filter (keepT (kindN k))).length≤2000:=by
          have h1:=List.length_filter_le (keepT (kindN k)) (newTs kids)
          have h2:∀ l:List Raw,(newTs l).length=l.length:=fun l=>by
            induction l with
            | nil=>rfl
            | cons t l ih=>unfold newTs;simp [ih]
          have h3:=wts_len kids
          rw [h2] at h1
          omega
        by_cases hks:(newTs kids).filter (keepT (kindN k))=[]
        · rw [if_pos hks,if_pos hks]
          refine ⟨?_,hd⟩
          unfold okU
          exact ⟨rfl,by omega,by simp,trivial⟩
        · rw [if_neg hks,if_neg hks]
          refine ⟨?_,dimsOf_lt _⟩
          show okU ((dimsOf ((newTs kids).filter (keepT (kindN k))):Nat):Int).toNat _
          rw [Int.toNat_natCast]
          unfold okU
          exact ⟨rfl,by omega,by rw [forceTs_len];exact hlen,okUs_of _ fun m hm=>⟨(hk m ((List.mem_filter.1 hm).1)).1,widN_dims _ m hm (hk m ((List.mem_filter.1 hm).1)).2⟩⟩
theorem news_okU:∀ ts:List Raw,wts ts≤2000→∀ m ∈ newTs ts,okU (dimR m) m∧dimR m<4
  | [],_,m,hm=>by unfold newTs at hm;simp at hm
  | t::ts,hw,m,hm=>by
    unfold wts at hw
    unfold newTs at hm
    rcases List.mem_cons.1 hm with rfl | hm
    · exact new_okU t (by omega)
    · exact news_okU ts (by omega) m hm
end
theorem new_ok (t:Raw) (h:wt t≤2000):okT (newT t):=(new_okU t h).1.ok
theorem okTs_of:∀ (ts:List Raw),(∀ m ∈ ts,okT m)→okTs ts
  | [],_=>trivial
  | m::ts,h=>⟨h m List.mem_cons_self,okTs_of ts fun s hs=>h s (List.mem_cons_of_mem _ hs)⟩
theorem DLine.form {B:Nat→Prop} {W:World} {v:Value} {t:Raw} : DLine B W v t→∃ (r:Nat) (p:Option Addr) (n c:Nat),v=.agg #[.int .u8 r,.slice p n c]:=fun ⟨r,n,f,p,_,_,_,ev,_⟩=>⟨r,p,n,n,ev⟩
theorem DLine.d4 {B:Nat→Prop} {W:World} {v:Value} {t:Raw} : DLine B W v t→dimR t<4:=fun ⟨r,n,f,p,e,hr,_⟩=>by subst e;show ((r:Nat):Int).toNat<4;omega
theorem DNode.form {k:Int} {D:(Nat→Prop)→World→Value→Raw→Prop} {B:Nat→Prop} {W:World} {v:Value} {t:Raw} : DNode k D B W v t→∃ (p:Option Addr) (n c r:Nat),v=.agg #[.slice p n c,.int .u8 r]:=fun ⟨r,f,kids,p,c,_,_,ev,_⟩=>⟨p,_,c,r,ev⟩
theorem DNode.d4 {k:Int} {D:(Nat→Prop)→World→Value→Raw→Prop} {B:Nat→Prop} {W:World} {v:Value} {t:Raw} : DNode k D B W v t→dimR t<4:=fun ⟨r,f,kids,p,c,e,hr,_⟩=>by subst e;show ((r:Nat):Int).toNat<4;omega
theorem DNode.anyf {k:Int} {D:(Nat→Prop)→World→Value→Raw→Prop} {B:Nat→Prop} {W:World} {v:Value} {r n:Nat} {f f':Nat→Nat} {kids:List Raw} : DNode k D B W v (.mk k r n f kids)→DNode k D B W v (.mk k r 0 f' kids):=fun ⟨r,f,kids,p,c,e,hr,ev,h⟩=>by
  simp only [Raw.mk.injEq] at e
  obtain ⟨_,e1,_,_,e2⟩:=e
  have e1:=Int.ofNat.inj e1
  subst e1 e2
  exact ⟨_,_,_,p,c,rfl,hr,ev,h⟩
theorem LineFC:FC DLine 128:=by
  intro B W v t r' ⟨r,n,f,p,ht,hr,hm,hv,hf,hb⟩ hok hr' hB
  subst ht hv
  refine (LineForce_any r r' n hr hr' (by unfold okT at hok;exact hok.1) hm p f W hf (fun a ha=>hB _ (hb a ha))).mono ?_
  rintro e w' ⟨p',rfl,hf',hat,hg⟩
  refine ⟨_,rfl,⟨r',_,_,p',by unfold forceT;rw [Int.toNat_natCast];rfl,hr',Nat.mul_mod_left _ _,rfl,hf',fun a ha=>?_⟩,hg⟩
  rcases hat a ha with h | h
  · exact .inl (hb a h)
  · exact .inr h
theorem LineCC:CC DLine 129:=by
  intro B W v t ⟨r,n,f,p,ht,hr,hm,hv,hf,hb⟩
  subst ht hv
  exact LineCT_any r (.slice p n n) ⟨_,_,_,rfl⟩ W
end
section
open Go.RowKit
theorem keepPg (t:Raw):keepT 3 (newT t)=decide (kindOf t=2):=by
  unfold keepT
  rw [kindOf_new]
  have e:kidOf 3=2:=by decide
  rw [e]
  have e2:decide ((2:Int)<0)=false:=by decide
  rw [e2,Bool.false_or]
  apply decide_eq_decide.2
  unfold kindN
  split <;> omega
end
section
open Go.RowKit
abbrev DPg:=DNode 3 DLine
abbrev DMl:=DNode 5 DLine
abbrev DMp:=DNode 6 DPg
theorem DPg.dk:DK DPg:=DNode.dk DLine.dk
theorem DMl.dk:DK DMl:=DNode.dk DLine.dk
theorem DMp.dk:DK DMp:=DNode.dk DPg.dk
theorem PgCT (D:(Nat→Prop)→World→Value→Raw→Prop):CC (DNode 3 D) 145:=by
  intro B W v t ⟨r,f,kids,p,c,ht,hr,hv,_⟩
  subst ht hv
  generalize kids.length=n
  go_enter Tryz.func145,Tryz.ntmps145
  go_wp2_with fail
  go_ret
  exact ⟨rfl,World.grownBy_alloc _ _ _⟩
theorem PgFC:FC DPg 108:=PgForce_of DLine.dk DLine.form LineFC
theorem MlFC:FC DMl 112:=MlForce_of DLine.dk DLine.form LineFC
theorem MpFC:FC DMp 114:=MpForce_of DPg.dk DNode.form PgFC
end
section
open Go.RowKit
def PtT (s:Raw):Prop:=∃ r n f,s=.mk 1 (r:Nat) n f []∧r<4∧(n=0∨n=widN r)∧∀ i,f i<18446744073709551616
def DPoint (B:Nat→Prop) (W:World) (v:Value) (t:Raw):Prop:=PtT t∧v=(ptR t).v
theorem ptR_of {r n:Nat} {f:Nat→Nat} {kids:List Raw} (hr:r<4):ptR (.mk 1 (r:Nat) n f kids)=ptOf r n f:=by
  show ptOf ((r:Int) % 4).toNat n f=_
  have:((r:Int) % 4).toNat=r:=by omega
  rw [this]
theorem PtT.ok {s:Raw} (h:PtT s):(ptR s).Ok:=by
  obtain ⟨r,n,f,rfl,hr,_,hf⟩:=h
  rw [ptR_of hr]
  exact ptOf_ok r n f hr hf
theorem PtT.dim {s:Raw} (h:PtT s):dimR s<4∧(ptR s).r=dimR s:=by
  obtain ⟨r,n,f,rfl,hr,_,hf⟩:=h
  rw [ptR_of hr,ptOf_r]
  have:dimR (.mk 1 (r:Nat) n f [])=r:=by show ((r:Nat):Int).toNat=r;omega
  rw [this]
  exact ⟨hr,rfl⟩
theorem fFb_lt (r D:Nat) (f:Nat→Nat) (hf:∀ i,f i<18446744073709551616) (i:Nat):fF r D f i<18446744073709551616:=by
  unfold fF plX plY plZ plM
  split
  · exact hf _
  · split
    · exact hf _
    · split
      · split
        · exact hf _
        · omega
      · split
        · exact hf _
        · omega
theorem PtT.force {s:Raw} (h:PtT s) (D:Nat) (hD:D<4):PtT (forceT D s)∧(ptR s).force D=ptR (forceT D s):=by
  obtain ⟨r,n,f,rfl,hr,hn,hf⟩:=h
  have hw:=widN_le r hr
  have hwD:=widN_le D hD
  have e:forceT D (.mk 1 (r:Nat) n f [])=.mk 1 (D:Nat) (n / widN r*widN D) (fF r D f) []:=by unfold forceT;rw [Int.toNat_natCast];rfl
  rw [e,ptR_of hr,ptR_of hD]
  refine ⟨⟨D,_,_,rfl,hD,?_,fFb_lt r D f hf⟩,?_⟩
  · rcases hn with rfl | rfl
    · left;simp
    · right;rw [Nat.div_self (by omega),Nat.one_mul]
  · rcases hn with rfl | rfl
    · have e1:ptOf r 0 f=ptE r:=by unfold ptOf;rw [if_pos (Nat.zero_div _)]
      rw [e1,Nat.zero_div,Nat.zero_mul]
      unfold Pt.force ptOf ptE
      rw [if_neg (by simp),if_pos (Nat.zero_div _)]
    · have e1:widN r / widN r=1:=Nat.div_self (by omega)
      have e2:ptOf r (widN r) f=⟨plX r f 0,plY r f 0,plZ r f 0,plM r f 0,r,true⟩:=by unfold ptOf;rw [if_neg (by omega)]
      rw [e2,e1,Nat.one_mul]
      obtain ⟨p1,p2,p3,p4⟩:=fF_place r D hr hD f
      have e3:ptOf D (widN D) (fF r D f)=⟨plX D (fF r D f) 0,plY D (fF r D f) 0,plZ D (fF r D f) 0,plM D (fF r D f) 0,D,true⟩:=by unfold ptOf;rw [if_neg (by rw [Nat.div_self (by omega)];omega)]
      rw [e3,p1,p2,p3,p4]
      unfold Pt.force
      rw [if_pos rfl]
theorem ptOf_min (r n:Nat) (hr:r<4) (f:Nat→Nat):ptOf r (min (n / widN r) 1*widN r) f=ptOf r n f:=by
  have hw:=widN_le r hr
  unfold ptOf
  rw [Nat.mul_div_cancel _ (by omega)]
  generalize n / widN r=L
  by_cases h:L=0
  · rw [if_pos h,if_pos (by omega)]
  · rw [if_neg h,if_neg (by omega)]
theorem PtT.new (d:Int) (n:Nat) (f:Nat→Nat) (kids:List Raw) (hf:∀ i,f i<18446744073709551616):PtT (newT (.mk 1 d n f kids))∧ptR (newT (.mk 1 d n f kids))=ptR (.mk 1 d n f kids):=by
  obtain ⟨r,hr,hr4⟩ : ∃ r:Nat,d % 4=r∧r<4:=⟨(d % 4).toNat,by omega,by omega⟩
  have hrt:(d % 4).toNat=r:=by rw [hr];rfl
  have e:newT (.mk 1 d n f kids)=.mk 1 (r:Nat) (min (n / widN r) 1*widN r) f []:=by rw [new1,hrt,hr]
  rw [e,ptR_of hr4,ptOf_min r n hr4]
  refine ⟨⟨r,_,f,rfl,hr4,?_,hf⟩,by show _=ptOf (d % 4).toNat n f;rw [hrt]⟩
  generalize n / widN r=L
  by_cases h:L=0
  · left;rw [h];simp
  · right;rw [show min L 1=1 by omega,Nat.one_mul]
theorem PointFC:FC DPoint 213:=by
  intro B W v t r' ⟨ht,hv⟩ hok hr' hB
  subst hv
  obtain ⟨h1,h2⟩:=ht.force r' hr'
  have h3:=ht.dim
  have h4:(ptR t).r<4:=by omega
  refine (PtForce_any (ptR t).x (ptR t).y (ptR t).z (ptR t).m (ptR t).r (ptR t).b r' h4 hr' W).mono ?_
  rintro e w' ⟨rfl,hg⟩
  exact ⟨_,rfl,⟨h1,by rw [←h2]⟩,hg⟩
theorem PointCC:CC DPoint 140:=by
  intro B W v t ⟨ht,hv⟩
  subst hv
  rw [←ht.dim.2]
  exact PtCT_any _ _ _ _ _ _ W
theorem PR.keep {B:Nat→Prop} {W W':World} (g:Kept B W W') {p:Option Addr} {ps:List Pt} (h:PR W p ps) (hb:0<ps.length→∀ a,p=some a→B a.block):PR W' p ps:=by
  refine ⟨h.some_,fun a ha i t hi=>?_⟩
  have h0:0<ps.length:=by have:=(List.getElem?_eq_some_iff.1 hi).1;omega
  have hB:B (a.add (i*6)).block:=by rw [add_block];exact hb h0 a ha
  obtain ⟨h0,h1,h2,h3,h4,h5⟩:=h.at_ a ha i t hi
  exact ⟨g _ _ hB h0,g _ _ hB h1,g _ _ hB h2,g _ _ hB h3,g _ _ hB h4,g _ _ hB h5⟩
def DMpt (B:Nat→Prop) (W:World) (v:Value) (t:Raw):Prop:=∃ r f kids p c,t=.mk 4 (r:Nat) 0 f kids∧r<4∧(∀ s ∈ kids,PtT s)∧v=.agg #[.slice p kids.length c,.int .u8 r]∧PR W p (kids.map ptR)∧(0<kids.length→∀ a,p=some a→B a.block)
theorem DMpt.dk:DK DMpt where
  keep:=fun g ⟨r,f,kids,p,c,e,hr,hs,ev,hp,hb⟩=>⟨r,f,kids,p,c,e,hr,hs,ev,hp.keep g (by rw [List.length_map];exact hb),hb⟩
  weak:=fun hl ⟨r,f,kids,p,c,e,hr,hs,ev,hp,hb⟩=>⟨r,f,kids,p,c,e,hr,hs,ev,hp,fun h0 a ha=>hl _ (hb h0 a ha)⟩
  one:=fun ⟨r,f,kids,p,c,e,hr,hs,ev,hp,hb⟩=>⟨_,_,ev,rfl,rfl⟩
theorem DMpt.form {B:Nat→Prop} {W:World} {v:Value} {t:Raw} : DMpt B W v t→∃ (p:Option Addr) (n c r:Nat),v=.agg #[.slice p n c,.int .u8 r]:=fun ⟨r,f,kids,p,c,e,hr,hs,ev,hp,hb⟩=>⟨p,_,c,r,ev⟩
theorem DMpt.d4 {B:Nat→Prop} {W:World} {v:Value} {t:Raw} : DMpt B W v t→dimR t<4:=fun ⟨r,f,kids,p,c,e,hr,_⟩=>by subst e;show ((r:Nat):Int).toNat<4;omega
theorem PR.lt {W:World} {p:Option Addr} {ps:List Pt} (h:PR W p ps) (h0:0<ps.length) (a:Addr) (ha:p=some a):a.block<W.heap.size:=by
  have hc:=(h.at_ a ha 0 (ps[0]'h0) (List.getElem?_eq_getElem h0)).1
  have:=World.block_lt_of_cell? W _ hc
  rw [add_block] at this
  exact this
theorem MptCC:CC DMpt 147:=by
  intro B W v t ⟨r,f,kids,p,c,e,hr,hs,ev,hp,hb⟩
  subst e ev
  exact MPCT_any r _ c p W
theorem MptFC:FC DMpt 110:=by
  intro B W v t r' hd hok hr' hB
  obtain ⟨r,f,kids,p,c,rfl,hr,hs,rfl,hp,hb⟩:=hd
  rw [force_node]
  obtain ⟨n,hn⟩ : ∃ n,kids.length=n:=⟨_,rfl⟩
  have hn2:n≤2000:=by rw [←hn];unfold okT at hok;exact hok.2.1
  have hoks:∀ u ∈ kids.map ptR,u.Ok:=fun u hu=>by obtain ⟨s,h1,rfl⟩:=List.mem_map.1 hu;exact (hs s h1).ok
  have hmap:(kids.map ptR).map (fun u=>u.force r')=(forceTs r' kids).map ptR:=by
    refine List.ext_getElem? fun i=>?_
    rw [List.getElem?_map,List.getElem?_map,List.getElem?_map,forceTs_get]
    cases h:kids[i]? with
    | none=>rfl
    | some s=>simp only [Option.map_some];rw [((hs s (List.mem_of_getElem? h)).force r' hr').2]
  rw [hn]
  have HG:=Lib.hid (gt_alloc_r (World.grownBy_alloc W (.cells #[.slice p n c,.int .u8 r] 101) none) (.cells #[.slice none 0 0,.int .u8 0] 101))
  have HF:=Lib.hid (fun w (g:W.grownBy w none)=>forceSlice_any r' hr' p (kids.map ptR) n c (by rw [List.length_map];exact hn) hn2 hoks w (hp.mono g))
  rw [hmap] at HF
  have HC:Hid (∀ w,((W.alloc (.cells #[.slice p n c,.int .u8 r] 101)).alloc (.cells #[.slice none 0 0,.int .u8 0] 101)).grownBy w none→w.cell? ⟨W.heap.size+1,0,none⟩=some (.slice none 0 0)∧w.cell? ⟨W.heap.size+1,1,none⟩=some (.int .u8 0)∧w.frozen? ⟨W.heap.size+1,0,none⟩=false∧w.frozen? ⟨W.heap.size+1,1,none⟩=false):=fun w g=>by
    have hb:=g.block (W.heap.size+1) (by simp) (by simp)
    refine ⟨g.cell (by simp) (by simp),g.cell (by simp) (by simp),?_,?_⟩ <;> (rw [World.frozen?_of_block hb];simp)
  have hfin:Hid (∀ (w:World) (a:Addr),PR w (some a) ((forceTs r' kids).map ptR)→W.heap.size+2≤a.block→((W.alloc (.cells #[.slice p n c,.int .u8 r] 101)).alloc (.cells #[.slice none 0 0,.int .u8 0] 101)).grownBy w none→FPost DMpt B W (.mk 4 (r':Nat) 0 (fF r r' f) (forceTs r' kids)) (.returned (.agg #[.slice (some a) n n,.int .u8 r'])) ((w.setCell ⟨W.heap.size+1,0,none⟩ (.slice (some a) n n)).setCell ⟨W.heap.size+1,1,none⟩ (.int .u8 r'))):=fun w a h ha g=>by
    have hne:∀ a',some a=some a'→a'.block≠W.heap.size+1:=fun a' e=>by injection e with e;subst e;omega
    have hl:(forceTs r' kids).length=n:=by rw [forceTs_len,hn]
    refine ⟨_,rfl,⟨r',_,_,some a,n,rfl,hr',fun s hs'=>?_,by rw [hl],(h.set hne _).set hne _,fun h0 a' ha'=>.inr ?_⟩,gt_set_r (gt_set_r (gt_trans HG.out g (.inl rfl)) _ _ (Nat.le_succ _)) _ _ (Nat.le_succ _)⟩
    · obtain ⟨i,hi⟩:=List.getElem?_of_mem hs'
      rw [forceTs_get] at hi
      obtain ⟨u,hu,rfl⟩:=Option.map_eq_some_iff.1 hi
      exact ((hs u (List.mem_of_getElem? hu)).force r' hr').1
    · injection ha' with ha'
      subst ha'
      have:=h.lt (by rw [List.length_map];exact h0) a rfl
      exact ⟨by omega,by simpa [World.setCell] using this⟩
  clear hp hb hok hoks hmap hs hB hn
  go_enter Tryz.func110,Tryz.ntmps110
  go_wp2_with (first
    | (go_at_call 169;refine (HF.out _ HG.out).mono ?_;rintro e w2 ⟨a,rfl,hpr,hab,hg2⟩;obtain ⟨x0,x1,f0,f1⟩:=HC.out _ hg2))
  refine bodyPost_ret (by simp [results,Tryz.results110,go_sem,x0,x1];try rfl) rfl ?_
  exact hfin.out _ _ hpr (by simpa using hab) hg2
end
section
open Go.RowKit
theorem AsPoint (fx fy fz fm er:Nat) (eb:Bool) (W:World):Calls Tryz.prog 49 #[.agg #[.float .f64 fx,.float .f64 fy,.float .f64 fz,.float .f64 fm,.int .u8 er,.bool eb]] W fun e w'=>e=.returned (.agg #[.int .i64 1,.iface 165 (.pointer (some ⟨W.heap.size,0,none⟩))])∧(w'.cell? ⟨W.heap.size,0,none⟩=some (.float .f64 fx)∧w'.cell? ⟨W.heap.size,1,none⟩=some (.float .f64 fy)∧w'.cell? ⟨W.heap.size,2,none⟩=some (.float .f64 fz)∧w'.cell? ⟨W.heap.size,3,none⟩=some (.float .f64 fm)∧w'.cell? ⟨W.heap.size,4,none⟩=some (.int .u8 er)∧w'.cell? ⟨W.heap.size,5,none⟩=some (.bool eb))∧W.heap.size<w'.heap.size∧W.grownBy w' none:=by
  have hsf:=run_store_flt Tryz.prog
  go_enter Tryz.func49,Tryz.ntmps49
  go_wp2_with fail
  go_returns
  refine ⟨rfl,?_,by simp;omega,gt_alloc_r (World.grownBy_alloc _ _ _) _⟩
  simp
theorem MustAsPoint (fx fy fz fm er:Nat) (eb:Bool) (b:Nat) (W:World) (h0:W.cell? ⟨b,0,none⟩=some (.float .f64 fx)) (h1:W.cell? ⟨b,1,none⟩=some (.float .f64 fy)) (h2:W.cell? ⟨b,2,none⟩=some (.float .f64 fz)) (h3:W.cell? ⟨b,3,none⟩=some (.float .f64 fm)) (h4:W.cell? ⟨b,4,none⟩=some (.int .u8 er)) (h5:W.cell? ⟨b,5,none⟩=some (.bool eb)) (hb:b<W.heap.size):Calls Tryz.prog 75 #[.agg #[.int .i64 1,.iface 165 (.pointer (some ⟨b,0,none⟩))]] W fun e w'=>e=.returned (.agg #[.float .f64 fx,.float .f64 fy,.float .f64 fz,.float .f64 fm,.int .u8 er,.bool eb])∧W.grownBy w' none:=by
  have hsf:=run_store_flt Tryz.prog
  have hta:∀ (w:World) (v:Value),(Instr.typeAssert (.iface 165 v) 20 165 false).run Tryz.prog w=.ok v w:=fun w v=>by kernel_rfl
  go_enter Tryz.func75,Tryz.ntmps75
  have hb1:b<W.heap.size+1:=by omega
  have hb2:b<W.heap.size+1+1:=by omega
  go_wp2_with (go_in)
  go_returns
  exact ⟨rfl,by first | exact gt_alloc_r (gt_alloc_r (World.grownBy_alloc _ _ _) _) _ | exact gt_alloc_r (World.grownBy_alloc _ _ _) _⟩
theorem AsLineString (er:Nat) (ep:Option Addr) (en ec:Nat) (W:World):Calls Tryz.prog 51 #[.agg #[.int .u8 er,.slice ep en ec]] W fun e w'=>e=.returned (.agg #[.int .i64 2,.iface 167 (.pointer (some ⟨W.heap.size,0,none⟩))])∧(w'.cell? ⟨W.heap.size,0,none⟩=some (.int .u8 er)∧w'.cell? ⟨W.heap.size,1,none⟩=some (.slice ep en ec))∧W.heap.size<w'.heap.size∧W.grownBy w' none:=by
  go_enter Tryz.func51,Tryz.ntmps51
  go_wp2_with fail
  go_returns
  refine ⟨rfl,?_,by simp;omega,gt_alloc_r (World.grownBy_alloc _ _ _) _⟩
  simp
theorem MustAsLineString (er:Nat) (ep:Option Addr) (en ec:Nat) (b:Nat) (W:World) (h0:W.cell? ⟨b,0,none⟩=some (.int .u8 er)) (h1:W.cell? ⟨b,1,none⟩=some (.slice ep en ec)) (hb:b<W.heap.size):Calls Tryz.prog 64 #[.agg #[.int .i64 2,.iface 167 (.pointer (some ⟨b,0,none⟩))]] W fun e w'=>e=.returned (.agg #[.int .u8 er,.slice ep en ec])∧W.grownBy w' none:=by
  have hta:∀ (w:World) (v:Value),(Instr.typeAssert (.iface 167 v) 20 167 false).run Tryz.prog w=.ok v w:=fun w v=>by kernel_rfl
  go_enter Tryz.func64,Tryz.ntmps64
  have hb1:b<W.heap.size+1:=by omega
  have hb2:b<W.heap.size+1+1:=by omega
  go_wp2_with (go_in)
  go_returns
  exact ⟨rfl,by first | exact gt_alloc_r (gt_alloc_r (World.grownBy_alloc _ _ _) _) _ | exact gt_alloc_r (World.grownBy_alloc _ _ _) _⟩
theorem AsPolygon (ep:Option Addr) (en ec er:Nat) (W:World):Calls Tryz.prog 53 #[.agg #[.slice ep en ec,.int .u8 er]] W fun e w'=>e=.returned (.agg #[.int .i64 3,.iface 170 (.pointer (some ⟨W.heap.size,0,none⟩))])∧(w'.cell? ⟨W.heap.size,0,none⟩=some (.slice ep en ec)∧w'.cell? ⟨W.heap.size,1,none⟩=some (.int .u8 er))∧W.heap.size<w'.heap.size∧W.grownBy w' none:=by
  go_enter Tryz.func53,Tryz.ntmps53
  go_wp2_with fail
  go_returns
  refine ⟨rfl,?_,by simp;omega,gt_alloc_r (World.grownBy_alloc _ _ _) _⟩
  simp
theorem MustAsPolygon (ep:Option Addr) (en ec er:Nat) (b:Nat) (W:World) (h0:W.cell? ⟨b,0,none⟩=some (.slice ep en ec)) (h1:W.cell? ⟨b,1,none⟩=some (.int .u8 er)) (hb:b<W.heap.size):Calls Tryz.prog 66 #[.agg #[.int .i64 3,.iface 170 (.pointer (some ⟨b,0,none⟩))]] W fun e w'=>e=.returned (.agg #[.slice ep en ec,.int .u8 er])∧W.grownBy w' none:=by
  have hta:∀ (w:World) (v:Value),(Instr.typeAssert (.iface 170 v) 20 170 false).run Tryz.prog w=.ok v w:=fun w v=>by kernel_rfl
  go_enter Tryz.func66,Tryz.ntmps66
  have hb1:b<W.heap.size+1:=by omega
  have hb2:b<W.heap.size+1+1:=by omega
  go_wp2_with (go_in)
  go_returns
  exact ⟨rfl,by first | exact gt_alloc_r (gt_alloc_r (World.grownBy_alloc _ _ _) _) _ | exact gt_alloc_r (World.grownBy_alloc _ _ _) _⟩
theorem AsMultiPoint (ep:Option Addr) (en ec er:Nat) (W:World):Calls Tryz.prog 55 #[.agg #[.slice ep en ec,.int .u8 er]] W fun e w'=>e=.returned (.agg #[.int .i64 4,.iface 173 (.pointer (some ⟨W.heap.size,0,none⟩))])∧(w'.cell? ⟨W.heap.size,0,none⟩=some (.slice ep en ec)∧w'.cell? ⟨W.heap.size,1,none⟩=some (.int .u8 er))∧W.heap.size<w'.heap.size∧W.grownBy w' none:=by
  go_enter Tryz.func55,Tryz.ntmps55
  go_wp2_with fail
  go_returns
  refine ⟨rfl,?_,by simp;omega,gt_alloc_r (World.grownBy_alloc _ _ _) _⟩
  simp
theorem MustAsMultiPoint (ep:Option Addr) (en ec er:Nat) (b:Nat) (W:World) (h0:W.cell? ⟨b,0,none⟩=some (.slice ep en ec)) (h1:W.cell? ⟨b,1,none⟩=some (.int .u8 er)) (hb:b<W.heap.size):Calls Tryz.prog 79 #[.agg #[.int .i64 4,.iface 173 (.pointer (some ⟨b,0,none⟩))]] W fun e w'=>e=.returned (.agg #[.slice ep en ec,.int .u8 er])∧W.grownBy w' none:=by
  have hta:∀ (w:World) (v:Value),(Instr.typeAssert (.iface 173 v) 20 173 false).run Tryz.prog w=.ok v w:=fun w v=>by kernel_rfl
  go_enter Tryz.func79,Tryz.ntmps79
  have hb1:b<W.heap.size+1:=by omega
  have hb2:b<W.heap.size+1+1:=by omega
  go_wp2_with (go_in)
  go_returns
  exact ⟨rfl,by first | exact gt_alloc_r (gt_alloc_r (World.grownBy_alloc _ _ _) _) _ | exact gt_alloc_r (World.grownBy_alloc _ _ _) _⟩
theorem AsMultiLineString (ep:Option Addr) (en ec er:Nat) (W:World):Calls Tryz.prog 57 #[.agg #[.slice ep en ec,.int .u8 er]] W fun e w'=>e=.returned (.agg #[.int .i64 5,.iface 176 (.pointer (some ⟨W.heap.size,0,none⟩))])∧(w'.cell? ⟨W.heap.size,0,none⟩=some (.slice ep en ec)∧w'.cell? ⟨W.heap.size,1,none⟩=some (.int .u8 er))∧W.heap.size<w'.heap.size∧W.grownBy w' none:=by
  go_enter Tryz.func57,Tryz.ntmps57
  go_wp2_with fail
  go_returns
  refine ⟨rfl,?_,by simp;omega,gt_alloc_r (World.grownBy_alloc _ _ _) _⟩
  simp
theorem MustAsMultiLineString (ep:Option Addr) (en ec er:Nat) (b:Nat) (W:World) (h0:W.cell? ⟨b,0,none⟩=some (.slice ep en ec)) (h1:W.cell? ⟨b,1,none⟩=some (.int .u8 er)) (hb:b<W.heap.size):Calls Tryz.prog 68 #[.agg #[.int .i64 5,.iface 176 (.pointer (some ⟨b,0,none⟩))]] W fun e w'=>e=.returned (.agg #[.slice ep en ec,.int .u8 er])∧W.grownBy w' none:=by
  have hta:∀ (w:World) (v:Value),(Instr.typeAssert (.iface 176 v) 20 176 false).run Tryz.prog w=.ok v w:=fun w v=>by kernel_rfl
  go_enter Tryz.func68,Tryz.ntmps68
  have hb1:b<W.heap.size+1:=by omega
  have hb2:b<W.heap.size+1+1:=by omega
  go_wp2_with (go_in)
  go_returns
  exact ⟨rfl,by first | exact gt_alloc_r (gt_alloc_r (World.grownBy_alloc _ _ _) _) _ | exact gt_alloc_r (World.grownBy_alloc _ _ _) _⟩
theorem AsMultiPolygon (ep:Option Addr) (en ec er:Nat) (W:World):Calls Tryz.prog 59 #[.agg #[.slice ep en ec,.int .u8 er]] W fun e w'=>e=.returned (.agg #[.int .i64 6,.iface 179 (.pointer (some ⟨W.heap.size,0,none⟩))])∧(w'.cell? ⟨W.heap.size,0,none⟩=some (.slice ep en ec)∧w'.cell? ⟨W.heap.size,1,none⟩=some (.int .u8 er))∧W.heap.size<w'.heap.size∧W.grownBy w' none:=by
  go_enter Tryz.func59,Tryz.ntmps59
  go_wp2_with fail
  go_returns
  refine ⟨rfl,?_,by simp;omega,gt_alloc_r (World.grownBy_alloc _ _ _) _⟩
  simp
theorem MustAsMultiPolygon (ep:Option Addr) (en ec er:Nat) (b:Nat) (W:World) (h0:W.cell? ⟨b,0,none⟩=some (.slice ep en ec)) (h1:W.cell? ⟨b,1,none⟩=some (.int .u8 er)) (hb:b<W.heap.size):Calls Tryz.prog 70 #[.agg #[.int .i64 6,.iface 179 (.pointer (some ⟨b,0,none⟩))]] W fun e w'=>e=.returned (.agg #[.slice ep en ec,.int .u8 er])∧W.grownBy w' none:=by
  have hta:∀ (w:World) (v:Value),(Instr.typeAssert (.iface 179 v) 20 179 false).run Tryz.prog w=.ok v w:=fun w v=>by kernel_rfl
  go_enter Tryz.func70,Tryz.ntmps70
  have hb1:b<W.heap.size+1:=by omega
  have hb2:b<W.heap.size+1+1:=by omega
  go_wp2_with (go_in)
  go_returns
  exact ⟨rfl,by first | exact gt_alloc_r (gt_alloc_r (World.grownBy_alloc _ _ _) _) _ | exact gt_alloc_r (World.grownBy_alloc _ _ _) _⟩
theorem AsGeometryCollection (ep:Option Addr) (en ec er:Nat) (W:World):Calls Tryz.prog 61 #[.agg #[.slice ep en ec,.int .u8 er]] W fun e w'=>e=.returned (.agg #[.int .i64 0,.iface 183 (.pointer (some ⟨W.heap.size,0,none⟩))])∧(w'.cell? ⟨W.heap.size,0,none⟩=some (.slice ep en ec)∧w'.cell? ⟨W.heap.size,1,none⟩=some (.int .u8 er))∧W.heap.size<w'.heap.size∧W.grownBy w' none:=by
  go_enter Tryz.func61,Tryz.ntmps61
  go_wp2_with fail
  go_returns
  refine ⟨rfl,?_,by simp;omega,gt_alloc_r (World.grownBy_alloc _ _ _) _⟩
  simp
theorem MustAsGeometryCollection (ep:Option Addr) (en ec er:Nat) (b:Nat) (W:World) (h0:W.cell? ⟨b,0,none⟩=some (.slice ep en ec)) (h1:W.cell? ⟨b,1,none⟩=some (.int .u8 er)) (hb:b<W.heap.size):Calls Tryz.prog 62 #[.agg #[.int .i64 0,.iface 183 (.pointer (some ⟨b,0,none⟩))]] W fun e w'=>e=.returned (.agg #[.slice ep en ec,.int .u8 er])∧W.grownBy w' none:=by
  have hta:∀ (w:World) (v:Value),(Instr.typeAssert (.iface 183 v) 20 183 false).run Tryz.prog w=.ok v w:=fun w v=>by kernel_rfl
  go_enter Tryz.func62,Tryz.ntmps62
  have hb1:b<W.heap.size+1:=by omega
  have hb2:b<W.heap.size+1+1:=by omega
  go_wp2_with (go_in)
  go_returns
  exact ⟨rfl,by first | exact gt_alloc_r (gt_alloc_r (World.grownBy_alloc _ _ _) _) _ | exact gt_alloc_r (World.grownBy_alloc _ _ _) _⟩
end
end Go.Proofs.YtlpaecafpbbbkaaGreatDoor
