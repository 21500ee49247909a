/- Sizes of what the reference's New makes; a line made of a geometry, in new blocks. -/
import Derived.Test.YtlpaecafpbbbkaaGreatDoorRCT10
import Derived.Test.YtlpaecafpbbbkaaGreatDoorRCT14
set_option linter.unusedVariables false
set_option linter.unusedSimpArgs false
set_option maxRecDepth 100000
set_option maxHeartbeats 24000000
namespace Go.Proofs.YtlpaecafpbbbkaaGreatDoor
section
open Go.RowKit
mutual
def okU (r:Nat):Raw→Prop
  | .mk _ d n _ kids=>d=(r:Nat)∧n≤2513169434843∧kids.length≤2513169434843∧okUs r kids
def okUs (r:Nat):List Raw→Prop
  | []=>True
  | t::ts=>okU r t∧okUs r ts
end
mutual
theorem okU.ok {r:Nat} : ∀ {t:Raw},okU r t→okT t
  | .mk _ _ _ _ _,h=>by unfold okU at h;unfold okT;exact ⟨h.2.1,h.2.2.1,okUs.ok h.2.2.2⟩
theorem okUs.ok {r:Nat} : ∀ {ts:List Raw},okUs r ts→okTs ts
  | [],_=>trivial
  | _::_,h=>by unfold okUs at h;unfold okTs;exact ⟨okU.ok h.1,okUs.ok h.2⟩
end
mutual
theorem okU.force {r D:Nat} (hw:widN D≤widN r):∀ {t:Raw},okU r t→okU D (forceT D t)
  | .mk k d n f kids,h=>by
    unfold okU at h
    obtain ⟨rfl,h1,h2,h3⟩:=h
    unfold forceT okU
    refine ⟨rfl,?_,by rw [forceTs_len];exact h2,okUs.force hw h3⟩
    rw [Int.toNat_natCast]
    have e1:=Nat.mul_le_mul_left (n / widN r) hw
    have e2:=Nat.div_mul_le_self n (widN r)
    omega
theorem okUs.force {r D:Nat} (hw:widN D≤widN r):∀ {ts:List Raw},okUs r ts→okUs D (forceTs D ts)
  | [],_=>trivial
  | _::_,h=>by unfold okUs at h;unfold forceTs okUs;exact ⟨okU.force hw h.1,okUs.force hw h.2⟩
end
theorem widN_and:∀ a b:Nat,a<4→b<4→widN (a &&& b)≤widN a∧widN (a &&& b)≤widN b:=by
  intro a b ha hb
  rcases (by omega:a=0∨a=1∨a=2∨a=3) with rfl | rfl | rfl | rfl <;> rcases (by omega:b=0∨b=1∨b=2∨b=3) with rfl | rfl | rfl | rfl <;> decide
theorem widN_dims:∀ (ks:List Raw) (m:Raw),m ∈ ks→dimR m<4→widN (dimsOf ks)≤widN (dimR m)
  | [],_,h,_=>by simp at h
  | t::ks,m,h,hm=>by
    have hl:=dimsOf_lt ks
    unfold dimsOf
    by_cases ht:dimR t<4
    · rcases List.mem_cons.1 h with rfl | h
      · exact (widN_and _ _ ht hl).1
      · exact Nat.le_trans (widN_and _ _ ht hl).2 (widN_dims ks m h hm)
    · rcases List.mem_cons.1 h with rfl | h
      · exact absurd hm ht
      · have e:dimR t &&& dimsOf ks=(dimR t % 4) &&& dimsOf ks:=by
          apply Nat.eq_of_testBit_eq
          intro i
          rw [Nat.testBit_and,Nat.testBit_and,show (4:Nat)=2 ^ 2 from rfl,Nat.testBit_mod_two_pow]
          by_cases hi:i<2
          · simp [hi]
          · have:(dimsOf ks).testBit i=false:=Nat.testBit_lt_two_pow (Nat.lt_of_lt_of_le hl (by have:=Nat.pow_le_pow_right (n:=2) (by omega) (by omega:2≤i);omega))
            rw [this];simp
        rw [e]
        exact Nat.le_trans (widN_and _ _ (by omega) hl).2 (widN_dims ks m h hm)
theorem okUs_of {D:Nat} : ∀ (ks:List Raw),(∀ m ∈ ks,okU (dimR m) m∧widN D≤widN (dimR m))→okUs D (forceTs D ks)
  | [],_=>trivial
  | m::ks,h=>by unfold forceTs okUs;exact ⟨okU.force (h m List.mem_cons_self).2 (h m List.mem_cons_self).1,okUs_of ks fun s hs=>h s (List.mem_cons_of_mem _ hs)⟩
mutual
theorem new_okU:∀ t:Raw,wt t≤2513169434843→okU (dimR (newT t)) (newT t)∧dimR (newT t)<4
  | .mk k d n f kids,hw=>by
    unfold wt at hw
    have hd:(d % 4).toNat<4:=by omega
    have hd2:(d % 4)=((d % 4).toNat:Int):=by omega
    unfold newT
    split
    · show okU (d % 4).toNat _∧(d % 4).toNat<4
      refine ⟨?_,hd⟩
      unfold okU
      have e2:=Nat.div_mul_le_self n (widN (d % 4).toNat)
      have e1:=Nat.mul_le_mul_right (widN (d % 4).toNat) (Nat.min_le_left (n / widN (d % 4).toNat) 1)
      exact ⟨hd2,by omega,by simp,trivial⟩
    · split
      · show okU (d % 4).toNat _∧(d % 4).toNat<4
        refine ⟨?_,hd⟩
        unfold okU
        have e2:=Nat.div_mul_le_self n (widN (d % 4).toNat)
        exact ⟨hd2,by omega,by simp,trivial⟩
      · obtain ⟨f',e⟩:=node_one (kindN k) (d % 4).toNat f ((newTs kids).filter (keepT (kindN k)))
        rw [e]
        have hk:=news_okU kids (by omega)
        have hlen:((newTs kids).filter (keepT (kindN k))).length≤2513169434843:=by
          have h1:=List.length_filter_le (keepT (kindN k)) (newTs kids)
          have h2:∀ l:List Raw,(newTs l).length=l.length:=fun l=>by
            induction l with
            | nil=>rfl
            | cons t l ih=>unfold newTs;simp [ih]
          have h3:=wts_len kids
          rw [h2] at h1
          omega
        by_cases hks:(newTs kids).filter (keepT (kindN k))=[]
        · rw [if_pos hks,if_pos hks]
          refine ⟨?_,hd⟩
          unfold okU
          exact ⟨rfl,by omega,by simp,trivial⟩
        · rw [if_neg hks,if_neg hks]
          refine ⟨?_,dimsOf_lt _⟩
          show okU ((dimsOf ((newTs kids).filter (keepT (kindN k))):Nat):Int).toNat _
          rw [Int.toNat_natCast]
          unfold okU
          exact ⟨rfl,by omega,by rw [forceTs_len];exact hlen,okUs_of _ fun m hm=>⟨(hk m ((List.mem_filter.1 hm).1)).1,widN_dims _ m hm (hk m ((List.mem_filter.1 hm).1)).2⟩⟩
theorem news_okU:∀ ts:List Raw,wts ts≤2513169434843→∀ m ∈ newTs ts,okU (dimR m) m∧dimR m<4
  | [],_,m,hm=>by unfold newTs at hm;simp at hm
  | t::ts,hw,m,hm=>by
    unfold wts at hw
    unfold newTs at hm
    rcases List.mem_cons.1 hm with rfl | hm
    · exact new_okU t (by omega)
    · exact news_okU ts (by omega) m hm
end
theorem new_ok (t:Raw) (h:wt t≤2513169434843):okT (newT t):=(new_okU t h).1.ok
theorem okTs_of:∀ (ts:List Raw),(∀ m ∈ ts,okT m)→okTs ts
  | [],_=>trivial
  | m::ts,h=>⟨h m List.mem_cons_self,okTs_of ts fun s hs=>h s (List.mem_cons_of_mem _ hs)⟩
def MPost (D:(Nat→Prop)→World→Value→Raw→Prop) (W:World) (t:Raw) (e:Ending) (w':World):Prop:=∃ v',e=.returned v'∧D (Fr W w') w' v' t∧W.grownBy w' none
def BC (D:(Nat→Prop)→World→Value→Raw→Prop) (fB:Nat) (kk:Int):Prop:=∀ (h:Nat) (B:Nat→Prop) (W:World) (v:Value) (t:Raw),KD B h W v t→wt t≤2513169434843→kindOf t=kk→Calls Tryz.prog fB #[v] W (MPost D W (newT t))
theorem DLine.form {B:Nat→Prop} {W:World} {v:Value} {t:Raw} : DLine B W v t→∃ (r:Nat) (p:Option Addr) (n c:Nat),v=.agg #[.int .u8 r,.slice p n c]:=fun ⟨r,n,f,p,_,_,_,ev,_⟩=>⟨r,p,n,n,ev⟩
theorem DLine.d4 {B:Nat→Prop} {W:World} {v:Value} {t:Raw} : DLine B W v t→dimR t<4:=fun ⟨r,n,f,p,e,hr,_⟩=>by subst e;show ((r:Nat):Int).toNat<4;omega
theorem DNode.form {k:Int} {D:(Nat→Prop)→World→Value→Raw→Prop} {B:Nat→Prop} {W:World} {v:Value} {t:Raw} : DNode k D B W v t→∃ (p:Option Addr) (n c r:Nat),v=.agg #[.slice p n c,.int .u8 r]:=fun ⟨r,f,kids,p,c,_,_,ev,_⟩=>⟨p,_,c,r,ev⟩
theorem DNode.d4 {k:Int} {D:(Nat→Prop)→World→Value→Raw→Prop} {B:Nat→Prop} {W:World} {v:Value} {t:Raw} : DNode k D B W v t→dimR t<4:=fun ⟨r,f,kids,p,c,e,hr,_⟩=>by subst e;show ((r:Nat):Int).toNat<4;omega
theorem DNode.anyf {k:Int} {D:(Nat→Prop)→World→Value→Raw→Prop} {B:Nat→Prop} {W:World} {v:Value} {r n:Nat} {f f':Nat→Nat} {kids:List Raw} : DNode k D B W v (.mk k r n f kids)→DNode k D B W v (.mk k r 0 f' kids):=fun ⟨r,f,kids,p,c,e,hr,ev,h⟩=>by
  simp only [Raw.mk.injEq] at e
  obtain ⟨_,e1,_,_,e2⟩:=e
  have e1:=Int.ofNat.inj e1
  subst e1 e2
  exact ⟨_,_,_,p,c,rfl,hr,ev,h⟩
theorem LineFC:FC DLine 128:=by
  intro B W v t r' ⟨r,n,f,p,ht,hr,hm,hv,hf,hb⟩ hok hr' hB
  subst ht hv
  refine (LineForce_any r r' n hr hr' (by unfold okT at hok;exact hok.1) hm p f W hf (fun a ha=>hB _ (hb a ha))).mono ?_
  rintro e w' ⟨p',rfl,hf',hat,hg⟩
  refine ⟨_,rfl,⟨r',_,_,p',by unfold forceT;rw [Int.toNat_natCast];rfl,hr',Nat.mul_mod_left _ _,rfl,hf',fun a ha=>?_⟩,hg⟩
  rcases hat a ha with h | h
  · exact .inl (hb a h)
  · exact .inr h
theorem LineCC:CC DLine 129:=by
  intro B W v t ⟨r,n,f,p,ht,hr,hm,hv,hf,hb⟩
  subst ht hv
  exact LineCT_any r (.slice p n n) ⟨_,_,_,rfl⟩ W
theorem line_fr (d:Int) (r:Nat) (hr:d % 4=r) (p q:Option Addr) (n cap m c2:Nat) (f:Nat→Nat) (hn:n≤2513169434843) (W:World) (hf:FVal W p n f) :
    Calls Tryz.prog 50 #[.agg #[.int .i64 2,.int .i64 d,.slice p n cap,.slice q m c2]] W fun e w'=>∃ a,e=.returned (.agg #[.int .u8 r,.slice (some a) (n - n % widN r) (n - n % widN r)])∧FVal w' (some a) (n - n % widN r) f∧Fr W w' a.block∧W.grownBy w' none:=by
  have HS:=Lib.hid (fun w (g:W.grownBy w none)=>sequence_any d r hr p n cap f hn w (hf.mono g))
  generalize n - n % widN r=N at HS ⊢
  clear hr hf
  have HG:=Lib.hid (gt_alloc_r (World.grownBy_alloc W (.cells #[.int .i64 2,.int .i64 d,.slice p n cap,.slice q m c2] 33) none) (.cells #[.int .u8 0,.slice none 0 0] 93))
  have HC:Hid (∀ w,((W.alloc (.cells #[.int .i64 2,.int .i64 d,.slice p n cap,.slice q m c2] 33)).alloc (.cells #[.int .u8 0,.slice none 0 0] 93)).grownBy w none→w.cell? ⟨W.heap.size+1,0,none⟩=some (.int .u8 0)∧w.cell? ⟨W.heap.size+1,1,none⟩=some (.slice none 0 0)∧w.frozen? ⟨W.heap.size+1,0,none⟩=false∧w.frozen? ⟨W.heap.size+1,1,none⟩=false):=fun w g=>by
    have hb:=g.block (W.heap.size+1) (by simp) (by simp)
    refine ⟨g.cell (by simp) (by simp),g.cell (by simp) (by simp),?_,?_⟩ <;> (rw [World.frozen?_of_block hb];simp)
  go_enter Tryz.func50,Tryz.ntmps50
  go_wp2_with (first
    | (go_at_call 101;refine (HS.out _ HG.out).mono ?_;rintro e w' ⟨a,rfl,hv,ha,hbl,hg1⟩)
    | (go_at_call 107;refine (NewLineString_any _ _ ⟨_,_,rfl⟩ ⟨_,_,_,rfl⟩ _).mono ?_;rintro e w'' ⟨rfl,hg2⟩;obtain ⟨x0,x1,x2,x3⟩:=HC.out _ (gt_trans hg1 hg2 (.inl rfl))))
  have ha':W.heap.size+2≤a.block:=by simpa using ha
  have hgr:=gt_set_r (gt_set_r (gt_trans (gt_trans HG.out hg1 (.inl rfl)) hg2 (.inl rfl)) ⟨W.heap.size+1,0,none⟩ (.int .u8 r) (Nat.le_succ _)) ⟨W.heap.size+1,1,none⟩ (.slice (some a) N N) (Nat.le_succ _)
  have hv2:=((hv.mono hg2).set (q:=⟨W.heap.size+1,0,none⟩) (by show a.block≠W.heap.size+1;omega) (.int .u8 r)).set (q:=⟨W.heap.size+1,1,none⟩) (by show a.block≠W.heap.size+1;omega) (.slice (some a) N N)
  have z0:=World.cell?_setCell_same (w:=w'') (v:=.int .u8 r) (h:=x0)
  have z1:(w''.setCell ⟨W.heap.size+1,0,none⟩ (.int .u8 r)).cell? ⟨W.heap.size+1,1,none⟩=some (.slice none 0 0):=(World.cell?_setCell_other (w:=w'') (a:=⟨W.heap.size+1,0,none⟩) (b:=⟨W.heap.size+1,1,none⟩) (v:=.int .u8 r) (h:=by simp)).trans x1
  have z2:=World.cell?_setCell_same (v:=.slice (some a) N N) (h:=z1)
  have hbl2:a.block<((w''.setCell ⟨W.heap.size+1,0,none⟩ (.int .u8 r)).setCell ⟨W.heap.size+1,1,none⟩ (.slice (some a) N N)).heap.size:=by
    have h2:=hg2.size
    simp [World.setCell]
    omega
  clear hv ha hg1 hg2
  refine bodyPost_ret (by simp [results,Tryz.results50,go_sem,z0,z2];try rfl) rfl ?_
  exact ⟨a,rfl,hv2,⟨by omega,hbl2⟩,hgr⟩
theorem LineBC:BC DLine 50 2:=by
  intro h B W v t hk hw hkd
  cases h with
  | zero=>exact hk.elim
  | succ h =>
    obtain ⟨k,d,n,f,kids⟩:=t
    obtain ⟨p,cap,q,c2,rfl,hf,_⟩:=hk
    obtain rfl:k=2:=hkd
    unfold wt at hw
    obtain ⟨r,hr⟩ : ∃ r:Nat,d % 4=r:=⟨(d % 4).toNat,by omega⟩
    refine (line_fr d r hr p q n cap kids.length c2 f (by omega) W hf).mono ?_
    rintro e w' ⟨a,rfl,hf',hb,hg⟩
    have e1:n - n % widN r=n / widN r*widN r:=by have:=Nat.div_add_mod n (widN r);rw [Nat.mul_comm] at this;omega
    rw [e1] at hf' ⊢
    have hrt:(d % 4).toNat=r:=by rw [hr];rfl
    refine ⟨_,rfl,⟨r,n / widN r*widN r,f,some a,?_,by omega,Nat.mul_mod_left _ _,rfl,hf',fun a' ha=>by injection ha with ha;subst ha;exact hb⟩,hg⟩
    unfold newT
    rw [if_neg (by decide),if_pos (by decide),hrt,hr]
end
end Go.Proofs.YtlpaecafpbbbkaaGreatDoor
