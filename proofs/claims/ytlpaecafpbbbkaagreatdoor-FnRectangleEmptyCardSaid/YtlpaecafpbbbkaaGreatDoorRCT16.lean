/- The package's containers, made of a geometry. -/
import Derived.Test.YtlpaecafpbbbkaaGreatDoorRCT10
import Derived.Test.YtlpaecafpbbbkaaGreatDoorRCT15
set_option linter.unusedVariables false
set_option linter.unusedSimpArgs false
set_option maxRecDepth 100000
set_option maxHeartbeats 24000000
namespace Go.Proofs.YtlpaecafpbbbkaaGreatDoor
section
open Go.RowKit
theorem keepPg (t:Raw):keepT 3 (newT t)=decide (kindOf t=2):=by
  unfold keepT
  rw [kindOf_new]
  have e:kidOf 3=2:=by decide
  rw [e]
  have e2:decide ((2:Int)<0)=false:=by decide
  rw [e2,Bool.false_or]
  apply decide_eq_decide.2
  unfold kindN
  split <;> omega
theorem PgBuild_of {D:(Nat→Prop)→World→Value→Raw→Prop} (K:DK D) (hfm:∀ {B:Nat→Prop} {W:World} {v:Value} {t:Raw},D B W v t→∃ (r:Nat) (p:Option Addr) (n c:Nat),v=.agg #[.int .u8 r,.slice p n c]) (HE:BC D 50 2)
    (HN:∀ (B:Nat→Prop) (W:World) (p:Option Addr) (n c:Nat) (ts:List Raw) (f:Nat→Nat),RowD D B W p ts→ts.length=n→0<n→n≤2513169434843→okTs ts→(∀ b,B b→b<W.heap.size)→Calls Tryz.prog 109 #[.slice p n c] W (FPost (DNode 3 D) B W (nodeT 3 0 f ts)))
    (HF:FC (DNode 3 D) 108):BC (DNode 3 D) 52 3:=by
  intro h B W v t hk hw hkd
  obtain ⟨k,d,n,f,kids⟩:=t
  obtain rfl:k=3:=hkd
  cases h with
  | zero=>exact hk.elim
  | succ h =>
  obtain ⟨p,cap,q,c2,rfl,hf,h1,h2,h3,hm1,hm2,hm3,hm4,_⟩:=hk
  obtain ⟨m,hm⟩ : ∃ m,kids.length=m:=⟨_,rfl⟩
  obtain ⟨r,hr⟩ : ∃ r:Nat,d % 4=r:=⟨(d % 4).toNat,by omega⟩
  have hrt:(d % 4).toNat=r:=by rw [hr];rfl
  have hr4:r<4:=by omega
  rw [newT_node _ _ _ _ _ (by decide) (by decide),hrt,show kindN 3=3 by decide,hm]
  rw [hm] at hm1
  have hwk:wts kids≤2513169434843:=by unfold wt at hw;omega
  have hml:m≤2513169434843:=by have:=wts_len kids;omega
  have HKid:Hid (∀ w,W.grownBy w none→∀ j,j<m→∃ t a c0 c1 c2 c3,kids[j]?=some t∧q=some a∧KD B h w (.agg #[c0,c1,c2,c3]) t∧wt t≤2513169434843∧w.cell? (a.add (j*4))=some c0∧w.cell? ⟨(a.add (j*4)).block,(a.add (j*4)).off+1,none⟩=some c1∧w.cell? ⟨(a.add (j*4)).block,(a.add (j*4)).off+2,none⟩=some c2∧w.cell? ⟨(a.add (j*4)).block,(a.add (j*4)).off+3,none⟩=some c3):=fun w g j hj=>by
    obtain ⟨a,rfl⟩ : ∃ a,q=some a:=by
      cases q with
      | none=>have:=hm3 rfl;omega
      | some a=>exact ⟨a,rfl⟩
    have hj':kids[j]?=some (kids[j]'(by omega)):=List.getElem?_eq_getElem (by omega)
    obtain ⟨c0,c1,c2,c3,k0,k1,k2,k3,k4⟩:=hm4 a rfl j _ hj'
    exact ⟨_,a,c0,c1,c2,c3,hj',rfl,k0.mono g,by have:=wts_mem kids j _ hj';omega,g.cell k1 (by simp),g.cell k2 (by simp),g.cell k3 (by simp),g.cell k4 (by simp)⟩
  have HAS:=Lib.hid (fun j t (hj:kids[j]?=some t)=>Acc_succ 3 kids j t hj)
  have HAL:=Lib.hid (fun j (hj:j≤m)=>Acc_len 3 kids j (by omega))
  have HA0:Hid (Acc 3 kids 0=[]):=by show Acc 3 kids 0=[];simp [Acc,newTs]
  have HG:=Lib.hid (gt_alloc_r (World.grownBy_alloc W (.cells #[.int .i64 3,.int .i64 d,.slice p n cap,.slice q m c2] 33) none) (.cells #[.slice none 0 0,.int .u8 0] 97))
  have HA:Hid (∀ w,((W.alloc (.cells #[.int .i64 3,.int .i64 d,.slice p n cap,.slice q m c2] 33)).alloc (.cells #[.slice none 0 0,.int .u8 0] 97)).grownBy w none→w.cell? ⟨W.heap.size,0,none⟩=some (.int .i64 3)∧w.cell? ⟨W.heap.size,1,none⟩=some (.int .i64 d)):=fun w g=>⟨g.cell (by simp) (by simp),g.cell (by simp) (by simp)⟩
  have HC:Hid (∀ w,((W.alloc (.cells #[.int .i64 3,.int .i64 d,.slice p n cap,.slice q m c2] 33)).alloc (.cells #[.slice none 0 0,.int .u8 0] 97)).grownBy w none→w.cell? ⟨W.heap.size+1,0,none⟩=some (.slice none 0 0)∧w.cell? ⟨W.heap.size+1,1,none⟩=some (.int .u8 0)∧w.frozen? ⟨W.heap.size+1,0,none⟩=false∧w.frozen? ⟨W.heap.size+1,1,none⟩=false):=fun w g=>by
    have hb:=g.block (W.heap.size+1) (by simp) (by simp)
    refine ⟨g.cell (by simp) (by simp),g.cell (by simp) (by simp),?_,?_⟩ <;> (rw [World.frozen?_of_block hb];simp)
  have HO:=Lib.hid (fun w=>dimOf_r d r hr w)
  have HFM:Hid (∀ (B:Nat→Prop) (W:World) (v:Value) (t:Raw),D B W v t→∃ (r:Nat) (p:Option Addr) (n c:Nat),v=.agg #[.int .u8 r,.slice p n c]):=fun B W v t h=>hfm h
  have HB1:Hid (∀ w c0 c1 c2 c3 t,KD B h w (.agg #[c0,c1,c2,c3]) t→wt t≤2513169434843→kindOf t=2→Calls Tryz.prog 50 #[.agg #[c0,c1,c2,c3]] w (MPost D w (newT t))):=fun w c0 c1 c2 c3 t h1 h2 h3=>HE h B w _ t h1 h2 h3
  have hokA:Hid (∀ j,j≤m→okTs (Acc 3 kids j)):=fun j hj=>okTs_of _ fun t ht=>by
    have h1:=(List.mem_filter.1 ht).1
    exact (news_okU (kids.take j) (by
      have:=wts_append (kids.take j) (kids.drop j)
      rw [List.take_append_drop] at this
      omega) t h1).1.ok
  have hsnoc:Hid (∀ (wr w3 w4:World) x l L cs c0 c1 t g capp,l=L.length→((W.alloc (.cells #[.int .i64 3,.int .i64 d,.slice p n cap,.slice q m c2] 33)).alloc (.cells #[.slice none 0 0,.int .u8 0] 97)).heap.size≤wr.heap.size→RowS D 93 ((W.alloc (.cells #[.int .i64 3,.int .i64 d,.slice p n cap,.slice q m c2] 33)).alloc (.cells #[.slice none 0 0,.int .u8 0] 97)).heap.size (fun _=>False) wr x l (fun i=>L[i]?) cs→wr.grownBy w3 none→D (Fr wr w3) w3 (.agg #[c0,c1]) t→∀ w5,w3.grownBy w5 none→w4.ownsRow ((W.alloc (.cells #[.int .i64 3,.int .i64 d,.slice p n cap,.slice q m c2] 33)).alloc (.cells #[.slice none 0 0,.int .u8 0] 97)).heap.size 93 2 (.slice (some ⟨g,0,none⟩) (l+1) capp) (l+1) (cs++[c0,c1])→w5.grownBy w4 x.ownBlock→(x.ownBlock=some g∨g=w5.heap.size) →
      RowS D 93 ((W.alloc (.cells #[.int .i64 3,.int .i64 d,.slice p n cap,.slice q m c2] 33)).alloc (.cells #[.slice none 0 0,.int .u8 0] 97)).heap.size (fun _=>False) w4 (.slice (some ⟨g,0,none⟩) (l+1) capp) (L++[t]).length (fun i=>(L++[t])[i]?) (cs++[c0,c1])∧wr.grownBy w4 x.ownBlock):=fun wr w3 w4 x l L cs c0 c1 t g capp hl hs hrow g3 hd w5 g5 hown g4 hg=>by
    subst hl
    have hlt:=hrow.1.lt
    refine ⟨?_,gt_trans (gt_weak (gt_trans g3 g5 (.inl rfl)) _) g4 (.inl rfl)⟩
    have:=RowS.snoc K hrow (fun b hb=>hb.elim) hs (gt_trans g3 g5 (.inl rfl)) (K.weak (fun b hb=>⟨.inr ⟨by have:=hb.1;omega,by have:=hb.2;have:=g5.size;omega⟩,fun e=>by have:=(hlt b e).2;have:=hb.1;omega⟩) (K.mono g5 hd)) hown g4 hg
    rw [List.length_append,List.length_singleton]
    refine this.sel fun i t' hi=>?_
    show (if i=L.length then some t else if i<L.length then L[i]? else none)=some t'
    have hi':(L++[t])[i]?=some t':=hi
    by_cases h1:i<L.length
    · rw [List.getElem?_append_left h1] at hi'
      rw [if_neg (by omega),if_pos h1];exact hi'
    · rw [List.getElem?_append_right (by omega)] at hi'
      have h2:=(List.getElem?_eq_some_iff.1 hi').1
      have h3:i=L.length:=by simp at h2;omega
      rw [if_pos h3]
      subst h3
      simpa using hi'
  have hfin1:Hid (∀ (wr w':World) px cx cs,((W.alloc (.cells #[.int .i64 3,.int .i64 d,.slice p n cap,.slice q m c2] 33)).alloc (.cells #[.slice none 0 0,.int .u8 0] 97)).grownBy wr none→RowS D 93 ((W.alloc (.cells #[.int .i64 3,.int .i64 d,.slice p n cap,.slice q m c2] 33)).alloc (.cells #[.slice none 0 0,.int .u8 0] 97)).heap.size (fun _=>False) wr (.slice px (Acc 3 kids m).length cx) (Acc 3 kids m).length (fun i=>(Acc 3 kids m)[i]?) cs→0<(Acc 3 kids m).length→Calls Tryz.prog 109 #[.slice px (Acc 3 kids m).length cx] wr (FPost (DNode 3 D) (Fr ((W.alloc (.cells #[.int .i64 3,.int .i64 d,.slice p n cap,.slice q m c2] 33)).alloc (.cells #[.slice none 0 0,.int .u8 0] 97)) wr) wr (nodeT 3 0 f (Acc 3 kids m)))):=fun wr w' px cx cs g hrow h0=>by
    exact HN (Fr ((W.alloc (.cells #[.int .i64 3,.int .i64 d,.slice p n cap,.slice q m c2] 33)).alloc (.cells #[.slice none 0 0,.int .u8 0] 97)) wr) wr px _ cx (Acc 3 kids m) f (hrow.row K rfl (fun b hb=>hb.elim) (fun b h1 h2=>⟨h1,h2⟩)) rfl h0 (Nat.le_trans (HAL.out m (Nat.le_refl _)) hml) (hokA.out m (Nat.le_refl _)) (fun b hb=>hb.2)
  have hfin2:Hid (∀ (wr w':World) v',((W.alloc (.cells #[.int .i64 3,.int .i64 d,.slice p n cap,.slice q m c2] 33)).alloc (.cells #[.slice none 0 0,.int .u8 0] 97)).grownBy wr none→wr.grownBy w' none→0<(Acc 3 kids m).length→DNode 3 D (fun b=>Fr ((W.alloc (.cells #[.int .i64 3,.int .i64 d,.slice p n cap,.slice q m c2] 33)).alloc (.cells #[.slice none 0 0,.int .u8 0] 97)) wr b∨Fr wr w' b) w' v' (nodeT 3 0 f (Acc 3 kids m))→∃ px nx cx rx,v'=.agg #[.slice px nx cx,.int .u8 rx]∧MPost (DNode 3 D) W (nodeT 3 r f (Acc 3 kids m)) (.returned (.agg #[.slice px nx cx,.int .u8 rx])) ((w'.setCell ⟨W.heap.size+1,0,none⟩ (.slice px nx cx)).setCell ⟨W.heap.size+1,1,none⟩ (.int .u8 rx))):=fun wr w' v' g g' h0 hd=>by
    obtain ⟨px,nx,cx,rx,rfl⟩:=hd.form
    have hne:Acc 3 kids m≠[]:=fun e=>by rw [e] at h0;simp at h0
    have e:nodeT 3 r f (Acc 3 kids m)=nodeT 3 r f (Acc 3 kids m):=rfl
    refine ⟨px,nx,cx,rx,rfl,_,rfl,?_,gt_set_r (gt_set_r (gt_trans (gt_trans HG.out g (.inl rfl)) g' (.inl rfl)) _ _ (by show W.heap.size≤W.heap.size+1;omega)) _ _ (by show W.heap.size≤W.heap.size+1;omega)⟩
    have s0:W.heap.size+2=((W.alloc (.cells #[.int .i64 3,.int .i64 d,.slice p n cap,.slice q m c2] 33)).alloc (.cells #[.slice none 0 0,.int .u8 0] 97)).heap.size:=by simp
    have s1:=g.size
    have s2:=g'.size
    have nB:∀ b,(Fr ((W.alloc (.cells #[.int .i64 3,.int .i64 d,.slice p n cap,.slice q m c2] 33)).alloc (.cells #[.slice none 0 0,.int .u8 0] 97)) wr b∨Fr wr w' b)→W.heap.size+2≤b∧b<w'.heap.size:=fun b hb=>by
      rcases hb with hb | hb
      · exact ⟨by rw [s0];exact hb.1,Nat.lt_of_lt_of_le hb.2 s2⟩
      · exact ⟨by rw [s0];exact Nat.le_trans s1 hb.1,hb.2⟩
    have h1:=(DNode.dk K).keep (.set (q:=⟨W.heap.size+1,1,none⟩) (fun hb=>by have:=(nB _ hb).1;simp at this) (.int .u8 rx)) ((DNode.dk K).keep (.set (q:=⟨W.heap.size+1,0,none⟩) (fun hb=>by have:=(nB _ hb).1;simp at this) (.slice px nx cx)) hd)
    have h2:=(DNode.dk K).weak (B':=Fr W ((w'.setCell ⟨W.heap.size+1,0,none⟩ (.slice px nx cx)).setCell ⟨W.heap.size+1,1,none⟩ (.int .u8 rx))) (fun b hb=>⟨by have:=(nB _ hb).1;omega,by have:=(nB _ hb).2;simpa [World.setCell] using this⟩) h1
    obtain ⟨f1,e1⟩:=node_one 3 0 f (Acc 3 kids m)
    obtain ⟨f2,e2⟩:=node_one 3 r f (Acc 3 kids m)
    rw [if_neg hne,if_neg hne] at e1 e2
    rw [e1] at h2
    rw [e2]
    exact h2.anyf
  have hfin3:Hid (∀ (wr:World),((W.alloc (.cells #[.int .i64 3,.int .i64 d,.slice p n cap,.slice q m c2] 33)).alloc (.cells #[.slice none 0 0,.int .u8 0] 97)).grownBy wr none→(Acc 3 kids m).length=0→Calls Tryz.prog 108 #[.agg #[.slice none 0 0,.int .u8 0],.int .u8 r] wr (fun e w'=>∃ px nx cx rx,e=.returned (.agg #[.slice px nx cx,.int .u8 rx])∧wr.grownBy w' none∧MPost (DNode 3 D) W (nodeT 3 r f (Acc 3 kids m)) (.returned (.agg #[.slice px nx cx,.int .u8 rx])) ((w'.setCell ⟨W.heap.size+1,0,none⟩ (.slice px nx cx)).setCell ⟨W.heap.size+1,1,none⟩ (.int .u8 rx)))):=fun wr g h0=>by
    have hd0:DNode 3 D (fun _=>False) wr (.agg #[.slice none 0 0,.int .u8 0]) (.mk 3 ((0:Nat):Int) 0 f []):=⟨0,f,[],none,0,rfl,by omega,rfl,Nat.le_refl _,by decide,fun h=>by simp at h,fun a ha=>by cases ha⟩
    refine (HF (fun _=>False) wr _ _ r hd0 (by unfold okT okTs;exact ⟨by omega,by simp,trivial⟩) hr4 (fun b hb=>hb.elim)).mono ?_
    rintro e w' ⟨v',rfl,hd,g'⟩
    obtain ⟨px,nx,cx,rx,rfl⟩:=hd.form
    refine ⟨px,nx,cx,rx,rfl,g',_,rfl,?_,gt_set_r (gt_set_r (gt_trans (gt_trans HG.out g (.inl rfl)) g' (.inl rfl)) _ _ (by show W.heap.size≤W.heap.size+1;omega)) _ _ (by show W.heap.size≤W.heap.size+1;omega)⟩
    have s0:W.heap.size+2=((W.alloc (.cells #[.int .i64 3,.int .i64 d,.slice p n cap,.slice q m c2] 33)).alloc (.cells #[.slice none 0 0,.int .u8 0] 97)).heap.size:=by simp
    have s1:=g.size
    have s2:=g'.size
    have nB:∀ b,(False∨Fr wr w' b)→W.heap.size+2≤b∧b<w'.heap.size:=fun b hb=>by
      rcases hb with hb | hb
      · exact hb.elim
      · exact ⟨by rw [s0];exact Nat.le_trans s1 hb.1,hb.2⟩
    have h1:=(DNode.dk K).keep (.set (q:=⟨W.heap.size+1,1,none⟩) (fun hb=>by have:=(nB _ hb).1;simp at this) (.int .u8 rx)) ((DNode.dk K).keep (.set (q:=⟨W.heap.size+1,0,none⟩) (fun hb=>by have:=(nB _ hb).1;simp at this) (.slice px nx cx)) hd)
    have h2:=(DNode.dk K).weak (B':=Fr W ((w'.setCell ⟨W.heap.size+1,0,none⟩ (.slice px nx cx)).setCell ⟨W.heap.size+1,1,none⟩ (.int .u8 rx))) (fun b hb=>⟨by have:=(nB _ hb).1;omega,by have:=(nB _ hb).2;simpa [World.setCell] using this⟩) h1
    have hnil:Acc 3 kids m=[]:=List.eq_nil_of_length_eq_zero h0
    have e2:nodeT 3 r f (Acc 3 kids m)=.mk 3 (r:Nat) 0 f []:=by unfold nodeT;rw [if_pos hnil]
    rw [force_node] at h2
    rw [e2]
    exact h2.anyf
  clear hm4 hm3 hf hw hr hm hwk hrt HN HF HE hfm
  generalize hW0:((W.alloc (.cells #[.int .i64 3,.int .i64 d,.slice p n cap,.slice q m c2] 33)).alloc (.cells #[.slice none 0 0,.int .u8 0] 97))=W0 at HG HA HC hsnoc hfin1 hfin2 hfin3
  have hs0:W.heap.size+2≤W0.heap.size:=by rw [←hW0];simp
  have HW0:=Lib.hid hW0
  clear hW0
  go_enter Tryz.func52,Tryz.ntmps52
  go_wp2_with fail
  rw [HW0.out]
  clear HW0
  go_loopw [3,9] (fun x i wr=>∃ (j:Nat) (cs:List Value),j≤m∧i=.int .i64 j∧W0.grownBy wr none∧RowS D 93 W0.heap.size (fun _=>False) wr x (Acc 3 kids j).length (fun i=>(Acc 3 kids j)[i]?) cs) (fun _ i _=>m - (intOf i).toNat)
  case atStart=>exact ⟨0,[],by omega,rfl,gt_refl _ _,by rw [HA0.out];exact (RowS.nil W0).sel fun i t h=>by simp at h⟩
  case round =>
    obtain ⟨j,cs,hj,rfl,g0,hrow⟩:=hrel
    rename World=>wr
    have Gw:=gt_trans HG.out g0 (.inl rfl)
    obtain ⟨k0,k1⟩:=HA.out _ g0
    obtain ⟨px,cx,rfl,hx1,hx2,_⟩:=own_form hrow.1
    have hlen:=HAL.out j hj
    have hbig:W.heap.size<wr.heap.size:=by have:=g0.size;omega
    have hbig2:W.heap.size+1<wr.heap.size:=by have:=g0.size;omega
    have hbig3:W0.heap.size≤wr.heap.size:=g0.size
    by_cases hjm:j<m
    · obtain ⟨t,a,c0,c1,c2,c3,ht,rfl,kk,hwt,q0,q1,q2,q3⟩:=HKid.out wr Gw j hjm
      have hacc:=HAS.out j t ht
      have hkt:=keepPg t
      have HMk:=Lib.hid (fun w (g:wr.grownBy w none) (h3:kindOf t=2)=>HB1.out w c0 c1 c2 c3 t (kk.mono g) hwt h3)
      obtain ⟨e1,d1,n1,f1,kids1,p1,cap1,q1',cq1,rfl,rfl,rfl,rfl,rfl⟩:=kk.form4
      generalize hm1':kids1.length=m1 at q3 HMk
      have HG5:=Lib.hid (World.grownBy_alloc wr (.cells #[.int .i64 e1,.int .i64 d1,.slice p1 n1 cap1,.slice q1' m1 cq1] 33) none)
      have HKp:Hid (∀ w,wr.grownBy w none→RowS D 93 W0.heap.size (fun _=>False) w (.slice px (Acc 3 kids j).length cx) (Acc 3 kids j).length (fun i=>(Acc 3 kids j)[i]?) cs):=fun w g=>hrow.kept K g
      have hob:∀ b,(Value.slice px (Acc 3 kids j).length cx).ownBlock=some b→W0.heap.size≤b:=fun b hb=>(hrow.1.lt b hb).1
      by_cases he1:e1=2
      · subst he1
        have hkt2:keepT 3 (newT (.mk 2 d1 n1 f1 kids1))=true:=by rw [hkt];rfl
        rw [if_pos hkt2] at hacc
        have HMk1:=Lib.hid (fun w (g:wr.grownBy w none)=>HMk.out w g rfl)
        have HSN:=Lib.hid (fun (w2 w3 w4:World) c0 c1 g capp (g2:wr.grownBy w2 none) (g3:w2.grownBy w3 none) (hd:D (Fr w2 w3) w3 (.agg #[c0,c1]) (newT (.mk 2 d1 n1 f1 kids1))) w5 (g5:w3.grownBy w5 none) (hown:w4.ownsRow W0.heap.size 93 2 (.slice (some ⟨g,0,none⟩) ((Acc 3 kids j).length+1) capp) ((Acc 3 kids j).length+1) (cs++[c0,c1])) (g4:w5.grownBy w4 (Value.slice px (Acc 3 kids j).length cx).ownBlock) (hg:(Value.slice px (Acc 3 kids j).length cx).ownBlock=some g∨g=w5.heap.size) =>
          (by
            obtain ⟨h1,h2⟩:=hsnoc.out w2 w3 w4 _ _ (Acc 3 kids j) cs c0 c1 (newT (.mk 2 d1 n1 f1 kids1)) g capp rfl (Nat.le_trans hbig3 g2.size) (hrow.kept K g2) g3 hd w5 g5 hown g4 hg
            rw [hacc]
            refine ⟨h1,gt_trans (gt_trans g0 g2 (.inl rfl)) h2 ?_⟩
            cases hx:(Value.slice px (Acc 3 kids j).length cx).ownBlock with
            | none=>exact .inl rfl
            | some b=>exact .inr (.inr ⟨b,rfl,hob b hx⟩)
            : RowS D 93 W0.heap.size (fun _=>False) w4 (.slice (some ⟨g,0,none⟩) ((Acc 3 kids j).length+1) capp) (Acc 3 kids (j+1)).length (fun i=>(Acc 3 kids (j+1))[i]?) (cs++[c0,c1])∧W0.grownBy w4 none))
        have HOw:=Lib.hid (fun w (g:wr.grownBy w none)=>(HKp.out w g).1)
        clear hkt hkt2 hacc HMk hwt ht kk hrow HKp hob
        generalize newT (.mk 2 d1 n1 f1 kids1)=tn at HMk1 HSN
        generalize (Acc 3 kids j).length=l at HSN HOw hlen hx1 ⊢
        go_wp2_with (first
          | (go_at_call 50;refine (HMk1.out _ HG5.out).mono ?_;rintro e w2 ⟨v2,rfl,hd2,hg2⟩;obtain ⟨er,ep,en,ec,rfl⟩:=HFM.out _ _ _ _ hd2;have HD2:=Lib.hid hd2;clear hd2;have G2:=gt_trans HG5.out hg2 (.inl rfl))
          | (at_builtin;refine app_cells2 (size:=2) (n:=l) (xs:=cs) (base:=W0.heap.size) rfl _ _ _ rfl Tryz.underlying95 (.agg #[.int .u8 0,.slice none 0 0]) 32 infoPg rfl (Nat.succ_pos 1) rfl rfl (by first | rfl | simp) _ (HOw.out _ (gt_alloc_r G2 _)) (by first | rfl | simp) (by simp [Value.oneCell']) (Nat.succ_pos 0) (by have:=G2.size;simp;omega) (by omega) (by omega) ?_;intro gg cap7 w7 hown7 hg7 hat7;have HFin:=Lib.hid (HSN.out _ _ _ _ _ _ _ HG5.out hg2 HD2.out _ (World.grownBy_alloc _ _ none) hown7 hg7 hat7);clear hown7 hg7 hat7))
        exact ⟨⟨j+1,_,by omega,by go_num,HFin.out.2,HFin.out.1⟩,by simp [intOf];omega⟩
      · have hkt2:¬ keepT 3 (newT (.mk e1 d1 n1 f1 kids1))=true:=by rw [hkt];show ¬ decide (e1=2)=true;simpa using he1
        rw [if_neg hkt2,List.append_nil] at hacc
        have hb1:(e1==2)=false:=by simpa using he1
        have HFin:Hid (∀ w,wr.grownBy w none→W0.grownBy w none∧RowS D 93 W0.heap.size (fun _=>False) w (.slice px (Acc 3 kids j).length cx) (Acc 3 kids (j+1)).length (fun i=>(Acc 3 kids (j+1))[i]?) cs):=fun w g=>by rw [hacc];exact ⟨gt_trans g0 g (.inl rfl),HKp.out w g⟩
        clear hkt hkt2 hacc HMk hwt ht kk hrow HKp hob
        generalize (Acc 3 kids j).length=l at HFin hlen hx1 ⊢
        go_wp2_with fail
        exact ⟨⟨j+1,_,by omega,by go_num,(HFin.out _ (World.grownBy_alloc _ _ _)).1,(HFin.out _ (World.grownBy_alloc _ _ _)).2⟩,by simp [intOf];omega⟩
    · obtain rfl:j=m:=by omega
      clear HKid HAS HB1 hokA hsnoc HA0 HAL
      by_cases hps:(Acc 3 kids j).length=0
      · have HF3:=Lib.hid (fun w g=>hfin3.out w g hps)
        rw [hps]
        clear hrow hfin1 hfin2 hfin3
        go_wp2_with fail
        go_wp2_with (first
          | (go_at_call 104;refine (HO.out _).mono ?_;rintro e w3 ⟨rfl,rfl⟩)
          | (go_at_call 108;refine (HF3.out _ g0).mono ?_;rintro e w2 ⟨px,nx,cx,rx,rfl,hg2,hmp⟩;have HMP:=Lib.hid hmp;clear hmp;obtain ⟨x0,x1,f0,f1⟩:=HC.out _ (gt_trans g0 hg2 (.inl rfl))))
        refine bodyPost_ret (by simp [results,Tryz.results52,go_sem,x0,x1];try rfl) rfl ?_
        exact HMP.out
      · have hps0:0<(Acc 3 kids j).length:=by omega
        have HF1:=Lib.hid (hfin1.out wr wr px cx cs g0 hrow hps0)
        have HF2:=Lib.hid (fun w' v' g' hd=>hfin2.out wr w' v' g0 g' hps0 hd)
        have hbl:(((Acc 3 kids j).length:Int)==0)=false:=by rw [beq_eq_false_iff_ne];omega
        clear hrow hfin1 hfin2 hfin3 hps
        generalize nodeT 3 0 f (Acc 3 kids j)=tn at HF1 HF2
        generalize (Acc 3 kids j).length=l at HF1 hlen hx1 hbl hps0 ⊢
        go_wp2_with fail
        go_wp2_with (first
          | (go_at_call 109;refine HF1.out.mono ?_;rintro e w2 ⟨v2,rfl,hd2,hg2⟩;obtain ⟨px2,nx2,cx2,rx2,rfl,hmp⟩:=HF2.out _ _ hg2 hd2;have HMP:=Lib.hid hmp;clear hmp hd2;obtain ⟨x0,x1,f0,f1⟩:=HC.out _ (gt_trans g0 hg2 (.inl rfl))))
        refine bodyPost_ret (by simp [results,Tryz.results52,go_sem,x0,x1];try rfl) rfl ?_
        exact HMP.out
theorem keepMl (t:Raw):keepT 5 (newT t)=decide (kindOf t=2):=by
  unfold keepT
  rw [kindOf_new]
  have e:kidOf 5=2:=by decide
  rw [e]
  have e2:decide ((2:Int)<0)=false:=by decide
  rw [e2,Bool.false_or]
  apply decide_eq_decide.2
  unfold kindN
  split <;> omega
theorem MlBuild_of {D:(Nat→Prop)→World→Value→Raw→Prop} (K:DK D) (hfm:∀ {B:Nat→Prop} {W:World} {v:Value} {t:Raw},D B W v t→∃ (r:Nat) (p:Option Addr) (n c:Nat),v=.agg #[.int .u8 r,.slice p n c]) (HE:BC D 50 2)
    (HN:∀ (B:Nat→Prop) (W:World) (p:Option Addr) (n c:Nat) (ts:List Raw) (f:Nat→Nat),RowD D B W p ts→ts.length=n→0<n→n≤2513169434843→okTs ts→(∀ b,B b→b<W.heap.size)→Calls Tryz.prog 113 #[.slice p n c] W (FPost (DNode 5 D) B W (nodeT 5 0 f ts)))
    (HF:FC (DNode 5 D) 112):BC (DNode 5 D) 56 5:=by
  intro h B W v t hk hw hkd
  obtain ⟨k,d,n,f,kids⟩:=t
  obtain rfl:k=5:=hkd
  cases h with
  | zero=>exact hk.elim
  | succ h =>
  obtain ⟨p,cap,q,c2,rfl,hf,h1,h2,h3,hm1,hm2,hm3,hm4,_⟩:=hk
  obtain ⟨m,hm⟩ : ∃ m,kids.length=m:=⟨_,rfl⟩
  obtain ⟨r,hr⟩ : ∃ r:Nat,d % 4=r:=⟨(d % 4).toNat,by omega⟩
  have hrt:(d % 4).toNat=r:=by rw [hr];rfl
  have hr4:r<4:=by omega
  rw [newT_node _ _ _ _ _ (by decide) (by decide),hrt,show kindN 5=5 by decide,hm]
  rw [hm] at hm1
  have hwk:wts kids≤2513169434843:=by unfold wt at hw;omega
  have hml:m≤2513169434843:=by have:=wts_len kids;omega
  have HKid:Hid (∀ w,W.grownBy w none→∀ j,j<m→∃ t a c0 c1 c2 c3,kids[j]?=some t∧q=some a∧KD B h w (.agg #[c0,c1,c2,c3]) t∧wt t≤2513169434843∧w.cell? (a.add (j*4))=some c0∧w.cell? ⟨(a.add (j*4)).block,(a.add (j*4)).off+1,none⟩=some c1∧w.cell? ⟨(a.add (j*4)).block,(a.add (j*4)).off+2,none⟩=some c2∧w.cell? ⟨(a.add (j*4)).block,(a.add (j*4)).off+3,none⟩=some c3):=fun w g j hj=>by
    obtain ⟨a,rfl⟩ : ∃ a,q=some a:=by
      cases q with
      | none=>have:=hm3 rfl;omega
      | some a=>exact ⟨a,rfl⟩
    have hj':kids[j]?=some (kids[j]'(by omega)):=List.getElem?_eq_getElem (by omega)
    obtain ⟨c0,c1,c2,c3,k0,k1,k2,k3,k4⟩:=hm4 a rfl j _ hj'
    exact ⟨_,a,c0,c1,c2,c3,hj',rfl,k0.mono g,by have:=wts_mem kids j _ hj';omega,g.cell k1 (by simp),g.cell k2 (by simp),g.cell k3 (by simp),g.cell k4 (by simp)⟩
  have HAS:=Lib.hid (fun j t (hj:kids[j]?=some t)=>Acc_succ 5 kids j t hj)
  have HAL:=Lib.hid (fun j (hj:j≤m)=>Acc_len 5 kids j (by omega))
  have HA0:Hid (Acc 5 kids 0=[]):=by show Acc 5 kids 0=[];simp [Acc,newTs]
  have HG:=Lib.hid (gt_alloc_r (World.grownBy_alloc W (.cells #[.int .i64 5,.int .i64 d,.slice p n cap,.slice q m c2] 33) none) (.cells #[.slice none 0 0,.int .u8 0] 104))
  have HA:Hid (∀ w,((W.alloc (.cells #[.int .i64 5,.int .i64 d,.slice p n cap,.slice q m c2] 33)).alloc (.cells #[.slice none 0 0,.int .u8 0] 104)).grownBy w none→w.cell? ⟨W.heap.size,0,none⟩=some (.int .i64 5)∧w.cell? ⟨W.heap.size,1,none⟩=some (.int .i64 d)):=fun w g=>⟨g.cell (by simp) (by simp),g.cell (by simp) (by simp)⟩
  have HC:Hid (∀ w,((W.alloc (.cells #[.int .i64 5,.int .i64 d,.slice p n cap,.slice q m c2] 33)).alloc (.cells #[.slice none 0 0,.int .u8 0] 104)).grownBy w none→w.cell? ⟨W.heap.size+1,0,none⟩=some (.slice none 0 0)∧w.cell? ⟨W.heap.size+1,1,none⟩=some (.int .u8 0)∧w.frozen? ⟨W.heap.size+1,0,none⟩=false∧w.frozen? ⟨W.heap.size+1,1,none⟩=false):=fun w g=>by
    have hb:=g.block (W.heap.size+1) (by simp) (by simp)
    refine ⟨g.cell (by simp) (by simp),g.cell (by simp) (by simp),?_,?_⟩ <;> (rw [World.frozen?_of_block hb];simp)
  have HO:=Lib.hid (fun w=>dimOf_r d r hr w)
  have HFM:Hid (∀ (B:Nat→Prop) (W:World) (v:Value) (t:Raw),D B W v t→∃ (r:Nat) (p:Option Addr) (n c:Nat),v=.agg #[.int .u8 r,.slice p n c]):=fun B W v t h=>hfm h
  have HB1:Hid (∀ w c0 c1 c2 c3 t,KD B h w (.agg #[c0,c1,c2,c3]) t→wt t≤2513169434843→kindOf t=2→Calls Tryz.prog 50 #[.agg #[c0,c1,c2,c3]] w (MPost D w (newT t))):=fun w c0 c1 c2 c3 t h1 h2 h3=>HE h B w _ t h1 h2 h3
  have hokA:Hid (∀ j,j≤m→okTs (Acc 5 kids j)):=fun j hj=>okTs_of _ fun t ht=>by
    have h1:=(List.mem_filter.1 ht).1
    exact (news_okU (kids.take j) (by
      have:=wts_append (kids.take j) (kids.drop j)
      rw [List.take_append_drop] at this
      omega) t h1).1.ok
  have hsnoc:Hid (∀ (wr w3 w4:World) x l L cs c0 c1 t g capp,l=L.length→((W.alloc (.cells #[.int .i64 5,.int .i64 d,.slice p n cap,.slice q m c2] 33)).alloc (.cells #[.slice none 0 0,.int .u8 0] 104)).heap.size≤wr.heap.size→RowS D 93 ((W.alloc (.cells #[.int .i64 5,.int .i64 d,.slice p n cap,.slice q m c2] 33)).alloc (.cells #[.slice none 0 0,.int .u8 0] 104)).heap.size (fun _=>False) wr x l (fun i=>L[i]?) cs→wr.grownBy w3 none→D (Fr wr w3) w3 (.agg #[c0,c1]) t→∀ w5,w3.grownBy w5 none→w4.ownsRow ((W.alloc (.cells #[.int .i64 5,.int .i64 d,.slice p n cap,.slice q m c2] 33)).alloc (.cells #[.slice none 0 0,.int .u8 0] 104)).heap.size 93 2 (.slice (some ⟨g,0,none⟩) (l+1) capp) (l+1) (cs++[c0,c1])→w5.grownBy w4 x.ownBlock→(x.ownBlock=some g∨g=w5.heap.size) →
      RowS D 93 ((W.alloc (.cells #[.int .i64 5,.int .i64 d,.slice p n cap,.slice q m c2] 33)).alloc (.cells #[.slice none 0 0,.int .u8 0] 104)).heap.size (fun _=>False) w4 (.slice (some ⟨g,0,none⟩) (l+1) capp) (L++[t]).length (fun i=>(L++[t])[i]?) (cs++[c0,c1])∧wr.grownBy w4 x.ownBlock):=fun wr w3 w4 x l L cs c0 c1 t g capp hl hs hrow g3 hd w5 g5 hown g4 hg=>by
    subst hl
    have hlt:=hrow.1.lt
    refine ⟨?_,gt_trans (gt_weak (gt_trans g3 g5 (.inl rfl)) _) g4 (.inl rfl)⟩
    have:=RowS.snoc K hrow (fun b hb=>hb.elim) hs (gt_trans g3 g5 (.inl rfl)) (K.weak (fun b hb=>⟨.inr ⟨by have:=hb.1;omega,by have:=hb.2;have:=g5.size;omega⟩,fun e=>by have:=(hlt b e).2;have:=hb.1;omega⟩) (K.mono g5 hd)) hown g4 hg
    rw [List.length_append,List.length_singleton]
    refine this.sel fun i t' hi=>?_
    show (if i=L.length then some t else if i<L.length then L[i]? else none)=some t'
    have hi':(L++[t])[i]?=some t':=hi
    by_cases h1:i<L.length
    · rw [List.getElem?_append_left h1] at hi'
      rw [if_neg (by omega),if_pos h1];exact hi'
    · rw [List.getElem?_append_right (by omega)] at hi'
      have h2:=(List.getElem?_eq_some_iff.1 hi').1
      have h3:i=L.length:=by simp at h2;omega
      rw [if_pos h3]
      subst h3
      simpa using hi'
  have hfin1:Hid (∀ (wr w':World) px cx cs,((W.alloc (.cells #[.int .i64 5,.int .i64 d,.slice p n cap,.slice q m c2] 33)).alloc (.cells #[.slice none 0 0,.int .u8 0] 104)).grownBy wr none→RowS D 93 ((W.alloc (.cells #[.int .i64 5,.int .i64 d,.slice p n cap,.slice q m c2] 33)).alloc (.cells #[.slice none 0 0,.int .u8 0] 104)).heap.size (fun _=>False) wr (.slice px (Acc 5 kids m).length cx) (Acc 5 kids m).length (fun i=>(Acc 5 kids m)[i]?) cs→0<(Acc 5 kids m).length→Calls Tryz.prog 113 #[.slice px (Acc 5 kids m).length cx] wr (FPost (DNode 5 D) (Fr ((W.alloc (.cells #[.int .i64 5,.int .i64 d,.slice p n cap,.slice q m c2] 33)).alloc (.cells #[.slice none 0 0,.int .u8 0] 104)) wr) wr (nodeT 5 0 f (Acc 5 kids m)))):=fun wr w' px cx cs g hrow h0=>by
    exact HN (Fr ((W.alloc (.cells #[.int .i64 5,.int .i64 d,.slice p n cap,.slice q m c2] 33)).alloc (.cells #[.slice none 0 0,.int .u8 0] 104)) wr) wr px _ cx (Acc 5 kids m) f (hrow.row K rfl (fun b hb=>hb.elim) (fun b h1 h2=>⟨h1,h2⟩)) rfl h0 (Nat.le_trans (HAL.out m (Nat.le_refl _)) hml) (hokA.out m (Nat.le_refl _)) (fun b hb=>hb.2)
  have hfin2:Hid (∀ (wr w':World) v',((W.alloc (.cells #[.int .i64 5,.int .i64 d,.slice p n cap,.slice q m c2] 33)).alloc (.cells #[.slice none 0 0,.int .u8 0] 104)).grownBy wr none→wr.grownBy w' none→0<(Acc 5 kids m).length→DNode 5 D (fun b=>Fr ((W.alloc (.cells #[.int .i64 5,.int .i64 d,.slice p n cap,.slice q m c2] 33)).alloc (.cells #[.slice none 0 0,.int .u8 0] 104)) wr b∨Fr wr w' b) w' v' (nodeT 5 0 f (Acc 5 kids m))→∃ px nx cx rx,v'=.agg #[.slice px nx cx,.int .u8 rx]∧MPost (DNode 5 D) W (nodeT 5 r f (Acc 5 kids m)) (.returned (.agg #[.slice px nx cx,.int .u8 rx])) ((w'.setCell ⟨W.heap.size+1,0,none⟩ (.slice px nx cx)).setCell ⟨W.heap.size+1,1,none⟩ (.int .u8 rx))):=fun wr w' v' g g' h0 hd=>by
    obtain ⟨px,nx,cx,rx,rfl⟩:=hd.form
    have hne:Acc 5 kids m≠[]:=fun e=>by rw [e] at h0;simp at h0
    have e:nodeT 5 r f (Acc 5 kids m)=nodeT 5 r f (Acc 5 kids m):=rfl
    refine ⟨px,nx,cx,rx,rfl,_,rfl,?_,gt_set_r (gt_set_r (gt_trans (gt_trans HG.out g (.inl rfl)) g' (.inl rfl)) _ _ (by show W.heap.size≤W.heap.size+1;omega)) _ _ (by show W.heap.size≤W.heap.size+1;omega)⟩
    have s0:W.heap.size+2=((W.alloc (.cells #[.int .i64 5,.int .i64 d,.slice p n cap,.slice q m c2] 33)).alloc (.cells #[.slice none 0 0,.int .u8 0] 104)).heap.size:=by simp
    have s1:=g.size
    have s2:=g'.size
    have nB:∀ b,(Fr ((W.alloc (.cells #[.int .i64 5,.int .i64 d,.slice p n cap,.slice q m c2] 33)).alloc (.cells #[.slice none 0 0,.int .u8 0] 104)) wr b∨Fr wr w' b)→W.heap.size+2≤b∧b<w'.heap.size:=fun b hb=>by
      rcases hb with hb | hb
      · exact ⟨by rw [s0];exact hb.1,Nat.lt_of_lt_of_le hb.2 s2⟩
      · exact ⟨by rw [s0];exact Nat.le_trans s1 hb.1,hb.2⟩
    have h1:=(DNode.dk K).keep (.set (q:=⟨W.heap.size+1,1,none⟩) (fun hb=>by have:=(nB _ hb).1;simp at this) (.int .u8 rx)) ((DNode.dk K).keep (.set (q:=⟨W.heap.size+1,0,none⟩) (fun hb=>by have:=(nB _ hb).1;simp at this) (.slice px nx cx)) hd)
    have h2:=(DNode.dk K).weak (B':=Fr W ((w'.setCell ⟨W.heap.size+1,0,none⟩ (.slice px nx cx)).setCell ⟨W.heap.size+1,1,none⟩ (.int .u8 rx))) (fun b hb=>⟨by have:=(nB _ hb).1;omega,by have:=(nB _ hb).2;simpa [World.setCell] using this⟩) h1
    obtain ⟨f1,e1⟩:=node_one 5 0 f (Acc 5 kids m)
    obtain ⟨f2,e2⟩:=node_one 5 r f (Acc 5 kids m)
    rw [if_neg hne,if_neg hne] at e1 e2
    rw [e1] at h2
    rw [e2]
    exact h2.anyf
  have hfin3:Hid (∀ (wr:World),((W.alloc (.cells #[.int .i64 5,.int .i64 d,.slice p n cap,.slice q m c2] 33)).alloc (.cells #[.slice none 0 0,.int .u8 0] 104)).grownBy wr none→(Acc 5 kids m).length=0→Calls Tryz.prog 112 #[.agg #[.slice none 0 0,.int .u8 0],.int .u8 r] wr (fun e w'=>∃ px nx cx rx,e=.returned (.agg #[.slice px nx cx,.int .u8 rx])∧wr.grownBy w' none∧MPost (DNode 5 D) W (nodeT 5 r f (Acc 5 kids m)) (.returned (.agg #[.slice px nx cx,.int .u8 rx])) ((w'.setCell ⟨W.heap.size+1,0,none⟩ (.slice px nx cx)).setCell ⟨W.heap.size+1,1,none⟩ (.int .u8 rx)))):=fun wr g h0=>by
    have hd0:DNode 5 D (fun _=>False) wr (.agg #[.slice none 0 0,.int .u8 0]) (.mk 5 ((0:Nat):Int) 0 f []):=⟨0,f,[],none,0,rfl,by omega,rfl,Nat.le_refl _,by decide,fun h=>by simp at h,fun a ha=>by cases ha⟩
    refine (HF (fun _=>False) wr _ _ r hd0 (by unfold okT okTs;exact ⟨by omega,by simp,trivial⟩) hr4 (fun b hb=>hb.elim)).mono ?_
    rintro e w' ⟨v',rfl,hd,g'⟩
    obtain ⟨px,nx,cx,rx,rfl⟩:=hd.form
    refine ⟨px,nx,cx,rx,rfl,g',_,rfl,?_,gt_set_r (gt_set_r (gt_trans (gt_trans HG.out g (.inl rfl)) g' (.inl rfl)) _ _ (by show W.heap.size≤W.heap.size+1;omega)) _ _ (by show W.heap.size≤W.heap.size+1;omega)⟩
    have s0:W.heap.size+2=((W.alloc (.cells #[.int .i64 5,.int .i64 d,.slice p n cap,.slice q m c2] 33)).alloc (.cells #[.slice none 0 0,.int .u8 0] 104)).heap.size:=by simp
    have s1:=g.size
    have s2:=g'.size
    have nB:∀ b,(False∨Fr wr w' b)→W.heap.size+2≤b∧b<w'.heap.size:=fun b hb=>by
      rcases hb with hb | hb
      · exact hb.elim
      · exact ⟨by rw [s0];exact Nat.le_trans s1 hb.1,hb.2⟩
    have h1:=(DNode.dk K).keep (.set (q:=⟨W.heap.size+1,1,none⟩) (fun hb=>by have:=(nB _ hb).1;simp at this) (.int .u8 rx)) ((DNode.dk K).keep (.set (q:=⟨W.heap.size+1,0,none⟩) (fun hb=>by have:=(nB _ hb).1;simp at this) (.slice px nx cx)) hd)
    have h2:=(DNode.dk K).weak (B':=Fr W ((w'.setCell ⟨W.heap.size+1,0,none⟩ (.slice px nx cx)).setCell ⟨W.heap.size+1,1,none⟩ (.int .u8 rx))) (fun b hb=>⟨by have:=(nB _ hb).1;omega,by have:=(nB _ hb).2;simpa [World.setCell] using this⟩) h1
    have hnil:Acc 5 kids m=[]:=List.eq_nil_of_length_eq_zero h0
    have e2:nodeT 5 r f (Acc 5 kids m)=.mk 5 (r:Nat) 0 f []:=by unfold nodeT;rw [if_pos hnil]
    rw [force_node] at h2
    rw [e2]
    exact h2.anyf
  clear hm4 hm3 hf hw hr hm hwk hrt HN HF HE hfm
  generalize hW0:((W.alloc (.cells #[.int .i64 5,.int .i64 d,.slice p n cap,.slice q m c2] 33)).alloc (.cells #[.slice none 0 0,.int .u8 0] 104))=W0 at HG HA HC hsnoc hfin1 hfin2 hfin3
  have hs0:W.heap.size+2≤W0.heap.size:=by rw [←hW0];simp
  have HW0:=Lib.hid hW0
  clear hW0
  go_enter Tryz.func56,Tryz.ntmps56
  go_wp2_with fail
  rw [HW0.out]
  clear HW0
  go_loopw [3,9] (fun x i wr=>∃ (j:Nat) (cs:List Value),j≤m∧i=.int .i64 j∧W0.grownBy wr none∧RowS D 93 W0.heap.size (fun _=>False) wr x (Acc 5 kids j).length (fun i=>(Acc 5 kids j)[i]?) cs) (fun _ i _=>m - (intOf i).toNat)
  case atStart=>exact ⟨0,[],by omega,rfl,gt_refl _ _,by rw [HA0.out];exact (RowS.nil W0).sel fun i t h=>by simp at h⟩
  case round =>
    obtain ⟨j,cs,hj,rfl,g0,hrow⟩:=hrel
    rename World=>wr
    have Gw:=gt_trans HG.out g0 (.inl rfl)
    obtain ⟨k0,k1⟩:=HA.out _ g0
    obtain ⟨px,cx,rfl,hx1,hx2,_⟩:=own_form hrow.1
    have hlen:=HAL.out j hj
    have hbig:W.heap.size<wr.heap.size:=by have:=g0.size;omega
    have hbig2:W.heap.size+1<wr.heap.size:=by have:=g0.size;omega
    have hbig3:W0.heap.size≤wr.heap.size:=g0.size
    by_cases hjm:j<m
    · obtain ⟨t,a,c0,c1,c2,c3,ht,rfl,kk,hwt,q0,q1,q2,q3⟩:=HKid.out wr Gw j hjm
      have hacc:=HAS.out j t ht
      have hkt:=keepMl t
      have HMk:=Lib.hid (fun w (g:wr.grownBy w none) (h3:kindOf t=2)=>HB1.out w c0 c1 c2 c3 t (kk.mono g) hwt h3)
      obtain ⟨e1,d1,n1,f1,kids1,p1,cap1,q1',cq1,rfl,rfl,rfl,rfl,rfl⟩:=kk.form4
      generalize hm1':kids1.length=m1 at q3 HMk
      have HG5:=Lib.hid (World.grownBy_alloc wr (.cells #[.int .i64 e1,.int .i64 d1,.slice p1 n1 cap1,.slice q1' m1 cq1] 33) none)
      have HKp:Hid (∀ w,wr.grownBy w none→RowS D 93 W0.heap.size (fun _=>False) w (.slice px (Acc 5 kids j).length cx) (Acc 5 kids j).length (fun i=>(Acc 5 kids j)[i]?) cs):=fun w g=>hrow.kept K g
      have hob:∀ b,(Value.slice px (Acc 5 kids j).length cx).ownBlock=some b→W0.heap.size≤b:=fun b hb=>(hrow.1.lt b hb).1
      by_cases he1:e1=2
      · subst he1
        have hkt2:keepT 5 (newT (.mk 2 d1 n1 f1 kids1))=true:=by rw [hkt];rfl
        rw [if_pos hkt2] at hacc
        have HMk1:=Lib.hid (fun w (g:wr.grownBy w none)=>HMk.out w g rfl)
        have HSN:=Lib.hid (fun (w2 w3 w4:World) c0 c1 g capp (g2:wr.grownBy w2 none) (g3:w2.grownBy w3 none) (hd:D (Fr w2 w3) w3 (.agg #[c0,c1]) (newT (.mk 2 d1 n1 f1 kids1))) w5 (g5:w3.grownBy w5 none) (hown:w4.ownsRow W0.heap.size 93 2 (.slice (some ⟨g,0,none⟩) ((Acc 5 kids j).length+1) capp) ((Acc 5 kids j).length+1) (cs++[c0,c1])) (g4:w5.grownBy w4 (Value.slice px (Acc 5 kids j).length cx).ownBlock) (hg:(Value.slice px (Acc 5 kids j).length cx).ownBlock=some g∨g=w5.heap.size) =>
          (by
            obtain ⟨h1,h2⟩:=hsnoc.out w2 w3 w4 _ _ (Acc 5 kids j) cs c0 c1 (newT (.mk 2 d1 n1 f1 kids1)) g capp rfl (Nat.le_trans hbig3 g2.size) (hrow.kept K g2) g3 hd w5 g5 hown g4 hg
            rw [hacc]
            refine ⟨h1,gt_trans (gt_trans g0 g2 (.inl rfl)) h2 ?_⟩
            cases hx:(Value.slice px (Acc 5 kids j).length cx).ownBlock with
            | none=>exact .inl rfl
            | some b=>exact .inr (.inr ⟨b,rfl,hob b hx⟩)
            : RowS D 93 W0.heap.size (fun _=>False) w4 (.slice (some ⟨g,0,none⟩) ((Acc 5 kids j).length+1) capp) (Acc 5 kids (j+1)).length (fun i=>(Acc 5 kids (j+1))[i]?) (cs++[c0,c1])∧W0.grownBy w4 none))
        have HOw:=Lib.hid (fun w (g:wr.grownBy w none)=>(HKp.out w g).1)
        clear hkt hkt2 hacc HMk hwt ht kk hrow HKp hob
        generalize newT (.mk 2 d1 n1 f1 kids1)=tn at HMk1 HSN
        generalize (Acc 5 kids j).length=l at HSN HOw hlen hx1 ⊢
        go_wp2_with (first
          | (go_at_call 50;refine (HMk1.out _ HG5.out).mono ?_;rintro e w2 ⟨v2,rfl,hd2,hg2⟩;obtain ⟨er,ep,en,ec,rfl⟩:=HFM.out _ _ _ _ hd2;have HD2:=Lib.hid hd2;clear hd2;have G2:=gt_trans HG5.out hg2 (.inl rfl))
          | (at_builtin;refine app_cells2 (size:=2) (n:=l) (xs:=cs) (base:=W0.heap.size) rfl _ _ _ rfl Tryz.underlying95 (.agg #[.int .u8 0,.slice none 0 0]) 32 infoMl rfl (Nat.succ_pos 1) rfl rfl (by first | rfl | simp) _ (HOw.out _ (gt_alloc_r G2 _)) (by first | rfl | simp) (by simp [Value.oneCell']) (Nat.succ_pos 0) (by have:=G2.size;simp;omega) (by omega) (by omega) ?_;intro gg cap7 w7 hown7 hg7 hat7;have HFin:=Lib.hid (HSN.out _ _ _ _ _ _ _ HG5.out hg2 HD2.out _ (World.grownBy_alloc _ _ none) hown7 hg7 hat7);clear hown7 hg7 hat7))
        exact ⟨⟨j+1,_,by omega,by go_num,HFin.out.2,HFin.out.1⟩,by simp [intOf];omega⟩
      · have hkt2:¬ keepT 5 (newT (.mk e1 d1 n1 f1 kids1))=true:=by rw [hkt];show ¬ decide (e1=2)=true;simpa using he1
        rw [if_neg hkt2,List.append_nil] at hacc
        have hb1:(e1==2)=false:=by simpa using he1
        have HFin:Hid (∀ w,wr.grownBy w none→W0.grownBy w none∧RowS D 93 W0.heap.size (fun _=>False) w (.slice px (Acc 5 kids j).length cx) (Acc 5 kids (j+1)).length (fun i=>(Acc 5 kids (j+1))[i]?) cs):=fun w g=>by rw [hacc];exact ⟨gt_trans g0 g (.inl rfl),HKp.out w g⟩
        clear hkt hkt2 hacc HMk hwt ht kk hrow HKp hob
        generalize (Acc 5 kids j).length=l at HFin hlen hx1 ⊢
        go_wp2_with fail
        exact ⟨⟨j+1,_,by omega,by go_num,(HFin.out _ (World.grownBy_alloc _ _ _)).1,(HFin.out _ (World.grownBy_alloc _ _ _)).2⟩,by simp [intOf];omega⟩
    · obtain rfl:j=m:=by omega
      clear HKid HAS HB1 hokA hsnoc HA0 HAL
      by_cases hps:(Acc 5 kids j).length=0
      · have HF3:=Lib.hid (fun w g=>hfin3.out w g hps)
        rw [hps]
        clear hrow hfin1 hfin2 hfin3
        go_wp2_with fail
        go_wp2_with (first
          | (go_at_call 104;refine (HO.out _).mono ?_;rintro e w3 ⟨rfl,rfl⟩)
          | (go_at_call 112;refine (HF3.out _ g0).mono ?_;rintro e w2 ⟨px,nx,cx,rx,rfl,hg2,hmp⟩;have HMP:=Lib.hid hmp;clear hmp;obtain ⟨x0,x1,f0,f1⟩:=HC.out _ (gt_trans g0 hg2 (.inl rfl))))
        refine bodyPost_ret (by simp [results,Tryz.results56,go_sem,x0,x1];try rfl) rfl ?_
        exact HMP.out
      · have hps0:0<(Acc 5 kids j).length:=by omega
        have HF1:=Lib.hid (hfin1.out wr wr px cx cs g0 hrow hps0)
        have HF2:=Lib.hid (fun w' v' g' hd=>hfin2.out wr w' v' g0 g' hps0 hd)
        have hbl:(((Acc 5 kids j).length:Int)==0)=false:=by rw [beq_eq_false_iff_ne];omega
        clear hrow hfin1 hfin2 hfin3 hps
        generalize nodeT 5 0 f (Acc 5 kids j)=tn at HF1 HF2
        generalize (Acc 5 kids j).length=l at HF1 hlen hx1 hbl hps0 ⊢
        go_wp2_with fail
        go_wp2_with (first
          | (go_at_call 113;refine HF1.out.mono ?_;rintro e w2 ⟨v2,rfl,hd2,hg2⟩;obtain ⟨px2,nx2,cx2,rx2,rfl,hmp⟩:=HF2.out _ _ hg2 hd2;have HMP:=Lib.hid hmp;clear hmp hd2;obtain ⟨x0,x1,f0,f1⟩:=HC.out _ (gt_trans g0 hg2 (.inl rfl))))
        refine bodyPost_ret (by simp [results,Tryz.results56,go_sem,x0,x1];try rfl) rfl ?_
        exact HMP.out
theorem keepMp (t:Raw):keepT 6 (newT t)=decide (kindOf t=3):=by
  unfold keepT
  rw [kindOf_new]
  have e:kidOf 6=3:=by decide
  rw [e]
  have e2:decide ((3:Int)<0)=false:=by decide
  rw [e2,Bool.false_or]
  apply decide_eq_decide.2
  unfold kindN
  split <;> omega
theorem MpBuild_of {D:(Nat→Prop)→World→Value→Raw→Prop} (K:DK D) (hfm:∀ {B:Nat→Prop} {W:World} {v:Value} {t:Raw},D B W v t→∃ (p:Option Addr) (n c r:Nat),v=.agg #[.slice p n c,.int .u8 r]) (HE:BC D 52 3)
    (HN:∀ (B:Nat→Prop) (W:World) (p:Option Addr) (n c:Nat) (ts:List Raw) (f:Nat→Nat),RowD D B W p ts→ts.length=n→0<n→n≤2513169434843→okTs ts→(∀ b,B b→b<W.heap.size)→Calls Tryz.prog 115 #[.slice p n c] W (FPost (DNode 6 D) B W (nodeT 6 0 f ts)))
    (HF:FC (DNode 6 D) 114):BC (DNode 6 D) 58 6:=by
  intro h B W v t hk hw hkd
  obtain ⟨k,d,n,f,kids⟩:=t
  obtain rfl:k=6:=hkd
  cases h with
  | zero=>exact hk.elim
  | succ h =>
  obtain ⟨p,cap,q,c2,rfl,hf,h1,h2,h3,hm1,hm2,hm3,hm4,_⟩:=hk
  obtain ⟨m,hm⟩ : ∃ m,kids.length=m:=⟨_,rfl⟩
  obtain ⟨r,hr⟩ : ∃ r:Nat,d % 4=r:=⟨(d % 4).toNat,by omega⟩
  have hrt:(d % 4).toNat=r:=by rw [hr];rfl
  have hr4:r<4:=by omega
  rw [newT_node _ _ _ _ _ (by decide) (by decide),hrt,show kindN 6=6 by decide,hm]
  rw [hm] at hm1
  have hwk:wts kids≤2513169434843:=by unfold wt at hw;omega
  have hml:m≤2513169434843:=by have:=wts_len kids;omega
  have HKid:Hid (∀ w,W.grownBy w none→∀ j,j<m→∃ t a c0 c1 c2 c3,kids[j]?=some t∧q=some a∧KD B h w (.agg #[c0,c1,c2,c3]) t∧wt t≤2513169434843∧w.cell? (a.add (j*4))=some c0∧w.cell? ⟨(a.add (j*4)).block,(a.add (j*4)).off+1,none⟩=some c1∧w.cell? ⟨(a.add (j*4)).block,(a.add (j*4)).off+2,none⟩=some c2∧w.cell? ⟨(a.add (j*4)).block,(a.add (j*4)).off+3,none⟩=some c3):=fun w g j hj=>by
    obtain ⟨a,rfl⟩ : ∃ a,q=some a:=by
      cases q with
      | none=>have:=hm3 rfl;omega
      | some a=>exact ⟨a,rfl⟩
    have hj':kids[j]?=some (kids[j]'(by omega)):=List.getElem?_eq_getElem (by omega)
    obtain ⟨c0,c1,c2,c3,k0,k1,k2,k3,k4⟩:=hm4 a rfl j _ hj'
    exact ⟨_,a,c0,c1,c2,c3,hj',rfl,k0.mono g,by have:=wts_mem kids j _ hj';omega,g.cell k1 (by simp),g.cell k2 (by simp),g.cell k3 (by simp),g.cell k4 (by simp)⟩
  have HAS:=Lib.hid (fun j t (hj:kids[j]?=some t)=>Acc_succ 6 kids j t hj)
  have HAL:=Lib.hid (fun j (hj:j≤m)=>Acc_len 6 kids j (by omega))
  have HA0:Hid (Acc 6 kids 0=[]):=by show Acc 6 kids 0=[];simp [Acc,newTs]
  have HG:=Lib.hid (gt_alloc_r (World.grownBy_alloc W (.cells #[.int .i64 6,.int .i64 d,.slice p n cap,.slice q m c2] 33) none) (.cells #[.slice none 0 0,.int .u8 0] 108))
  have HA:Hid (∀ w,((W.alloc (.cells #[.int .i64 6,.int .i64 d,.slice p n cap,.slice q m c2] 33)).alloc (.cells #[.slice none 0 0,.int .u8 0] 108)).grownBy w none→w.cell? ⟨W.heap.size,0,none⟩=some (.int .i64 6)∧w.cell? ⟨W.heap.size,1,none⟩=some (.int .i64 d)):=fun w g=>⟨g.cell (by simp) (by simp),g.cell (by simp) (by simp)⟩
  have HC:Hid (∀ w,((W.alloc (.cells #[.int .i64 6,.int .i64 d,.slice p n cap,.slice q m c2] 33)).alloc (.cells #[.slice none 0 0,.int .u8 0] 108)).grownBy w none→w.cell? ⟨W.heap.size+1,0,none⟩=some (.slice none 0 0)∧w.cell? ⟨W.heap.size+1,1,none⟩=some (.int .u8 0)∧w.frozen? ⟨W.heap.size+1,0,none⟩=false∧w.frozen? ⟨W.heap.size+1,1,none⟩=false):=fun w g=>by
    have hb:=g.block (W.heap.size+1) (by simp) (by simp)
    refine ⟨g.cell (by simp) (by simp),g.cell (by simp) (by simp),?_,?_⟩ <;> (rw [World.frozen?_of_block hb];simp)
  have HO:=Lib.hid (fun w=>dimOf_r d r hr w)
  have HFM:Hid (∀ (B:Nat→Prop) (W:World) (v:Value) (t:Raw),D B W v t→∃ (p:Option Addr) (n c r:Nat),v=.agg #[.slice p n c,.int .u8 r]):=fun B W v t h=>hfm h
  have HB1:Hid (∀ w c0 c1 c2 c3 t,KD B h w (.agg #[c0,c1,c2,c3]) t→wt t≤2513169434843→kindOf t=3→Calls Tryz.prog 52 #[.agg #[c0,c1,c2,c3]] w (MPost D w (newT t))):=fun w c0 c1 c2 c3 t h1 h2 h3=>HE h B w _ t h1 h2 h3
  have hokA:Hid (∀ j,j≤m→okTs (Acc 6 kids j)):=fun j hj=>okTs_of _ fun t ht=>by
    have h1:=(List.mem_filter.1 ht).1
    exact (news_okU (kids.take j) (by
      have:=wts_append (kids.take j) (kids.drop j)
      rw [List.take_append_drop] at this
      omega) t h1).1.ok
  have hsnoc:Hid (∀ (wr w3 w4:World) x l L cs c0 c1 t g capp,l=L.length→((W.alloc (.cells #[.int .i64 6,.int .i64 d,.slice p n cap,.slice q m c2] 33)).alloc (.cells #[.slice none 0 0,.int .u8 0] 108)).heap.size≤wr.heap.size→RowS D 97 ((W.alloc (.cells #[.int .i64 6,.int .i64 d,.slice p n cap,.slice q m c2] 33)).alloc (.cells #[.slice none 0 0,.int .u8 0] 108)).heap.size (fun _=>False) wr x l (fun i=>L[i]?) cs→wr.grownBy w3 none→D (Fr wr w3) w3 (.agg #[c0,c1]) t→∀ w5,w3.grownBy w5 none→w4.ownsRow ((W.alloc (.cells #[.int .i64 6,.int .i64 d,.slice p n cap,.slice q m c2] 33)).alloc (.cells #[.slice none 0 0,.int .u8 0] 108)).heap.size 97 2 (.slice (some ⟨g,0,none⟩) (l+1) capp) (l+1) (cs++[c0,c1])→w5.grownBy w4 x.ownBlock→(x.ownBlock=some g∨g=w5.heap.size) →
      RowS D 97 ((W.alloc (.cells #[.int .i64 6,.int .i64 d,.slice p n cap,.slice q m c2] 33)).alloc (.cells #[.slice none 0 0,.int .u8 0] 108)).heap.size (fun _=>False) w4 (.slice (some ⟨g,0,none⟩) (l+1) capp) (L++[t]).length (fun i=>(L++[t])[i]?) (cs++[c0,c1])∧wr.grownBy w4 x.ownBlock):=fun wr w3 w4 x l L cs c0 c1 t g capp hl hs hrow g3 hd w5 g5 hown g4 hg=>by
    subst hl
    have hlt:=hrow.1.lt
    refine ⟨?_,gt_trans (gt_weak (gt_trans g3 g5 (.inl rfl)) _) g4 (.inl rfl)⟩
    have:=RowS.snoc K hrow (fun b hb=>hb.elim) hs (gt_trans g3 g5 (.inl rfl)) (K.weak (fun b hb=>⟨.inr ⟨by have:=hb.1;omega,by have:=hb.2;have:=g5.size;omega⟩,fun e=>by have:=(hlt b e).2;have:=hb.1;omega⟩) (K.mono g5 hd)) hown g4 hg
    rw [List.length_append,List.length_singleton]
    refine this.sel fun i t' hi=>?_
    show (if i=L.length then some t else if i<L.length then L[i]? else none)=some t'
    have hi':(L++[t])[i]?=some t':=hi
    by_cases h1:i<L.length
    · rw [List.getElem?_append_left h1] at hi'
      rw [if_neg (by omega),if_pos h1];exact hi'
    · rw [List.getElem?_append_right (by omega)] at hi'
      have h2:=(List.getElem?_eq_some_iff.1 hi').1
      have h3:i=L.length:=by simp at h2;omega
      rw [if_pos h3]
      subst h3
      simpa using hi'
  have hfin1:Hid (∀ (wr w':World) px cx cs,((W.alloc (.cells #[.int .i64 6,.int .i64 d,.slice p n cap,.slice q m c2] 33)).alloc (.cells #[.slice none 0 0,.int .u8 0] 108)).grownBy wr none→RowS D 97 ((W.alloc (.cells #[.int .i64 6,.int .i64 d,.slice p n cap,.slice q m c2] 33)).alloc (.cells #[.slice none 0 0,.int .u8 0] 108)).heap.size (fun _=>False) wr (.slice px (Acc 6 kids m).length cx) (Acc 6 kids m).length (fun i=>(Acc 6 kids m)[i]?) cs→0<(Acc 6 kids m).length→Calls Tryz.prog 115 #[.slice px (Acc 6 kids m).length cx] wr (FPost (DNode 6 D) (Fr ((W.alloc (.cells #[.int .i64 6,.int .i64 d,.slice p n cap,.slice q m c2] 33)).alloc (.cells #[.slice none 0 0,.int .u8 0] 108)) wr) wr (nodeT 6 0 f (Acc 6 kids m)))):=fun wr w' px cx cs g hrow h0=>by
    exact HN (Fr ((W.alloc (.cells #[.int .i64 6,.int .i64 d,.slice p n cap,.slice q m c2] 33)).alloc (.cells #[.slice none 0 0,.int .u8 0] 108)) wr) wr px _ cx (Acc 6 kids m) f (hrow.row K rfl (fun b hb=>hb.elim) (fun b h1 h2=>⟨h1,h2⟩)) rfl h0 (Nat.le_trans (HAL.out m (Nat.le_refl _)) hml) (hokA.out m (Nat.le_refl _)) (fun b hb=>hb.2)
  have hfin2:Hid (∀ (wr w':World) v',((W.alloc (.cells #[.int .i64 6,.int .i64 d,.slice p n cap,.slice q m c2] 33)).alloc (.cells #[.slice none 0 0,.int .u8 0] 108)).grownBy wr none→wr.grownBy w' none→0<(Acc 6 kids m).length→DNode 6 D (fun b=>Fr ((W.alloc (.cells #[.int .i64 6,.int .i64 d,.slice p n cap,.slice q m c2] 33)).alloc (.cells #[.slice none 0 0,.int .u8 0] 108)) wr b∨Fr wr w' b) w' v' (nodeT 6 0 f (Acc 6 kids m))→∃ px nx cx rx,v'=.agg #[.slice px nx cx,.int .u8 rx]∧MPost (DNode 6 D) W (nodeT 6 r f (Acc 6 kids m)) (.returned (.agg #[.slice px nx cx,.int .u8 rx])) ((w'.setCell ⟨W.heap.size+1,0,none⟩ (.slice px nx cx)).setCell ⟨W.heap.size+1,1,none⟩ (.int .u8 rx))):=fun wr w' v' g g' h0 hd=>by
    obtain ⟨px,nx,cx,rx,rfl⟩:=hd.form
    have hne:Acc 6 kids m≠[]:=fun e=>by rw [e] at h0;simp at h0
    have e:nodeT 6 r f (Acc 6 kids m)=nodeT 6 r f (Acc 6 kids m):=rfl
    refine ⟨px,nx,cx,rx,rfl,_,rfl,?_,gt_set_r (gt_set_r (gt_trans (gt_trans HG.out g (.inl rfl)) g' (.inl rfl)) _ _ (by show W.heap.size≤W.heap.size+1;omega)) _ _ (by show W.heap.size≤W.heap.size+1;omega)⟩
    have s0:W.heap.size+2=((W.alloc (.cells #[.int .i64 6,.int .i64 d,.slice p n cap,.slice q m c2] 33)).alloc (.cells #[.slice none 0 0,.int .u8 0] 108)).heap.size:=by simp
    have s1:=g.size
    have s2:=g'.size
    have nB:∀ b,(Fr ((W.alloc (.cells #[.int .i64 6,.int .i64 d,.slice p n cap,.slice q m c2] 33)).alloc (.cells #[.slice none 0 0,.int .u8 0] 108)) wr b∨Fr wr w' b)→W.heap.size+2≤b∧b<w'.heap.size:=fun b hb=>by
      rcases hb with hb | hb
      · exact ⟨by rw [s0];exact hb.1,Nat.lt_of_lt_of_le hb.2 s2⟩
      · exact ⟨by rw [s0];exact Nat.le_trans s1 hb.1,hb.2⟩
    have h1:=(DNode.dk K).keep (.set (q:=⟨W.heap.size+1,1,none⟩) (fun hb=>by have:=(nB _ hb).1;simp at this) (.int .u8 rx)) ((DNode.dk K).keep (.set (q:=⟨W.heap.size+1,0,none⟩) (fun hb=>by have:=(nB _ hb).1;simp at this) (.slice px nx cx)) hd)
    have h2:=(DNode.dk K).weak (B':=Fr W ((w'.setCell ⟨W.heap.size+1,0,none⟩ (.slice px nx cx)).setCell ⟨W.heap.size+1,1,none⟩ (.int .u8 rx))) (fun b hb=>⟨by have:=(nB _ hb).1;omega,by have:=(nB _ hb).2;simpa [World.setCell] using this⟩) h1
    obtain ⟨f1,e1⟩:=node_one 6 0 f (Acc 6 kids m)
    obtain ⟨f2,e2⟩:=node_one 6 r f (Acc 6 kids m)
    rw [if_neg hne,if_neg hne] at e1 e2
    rw [e1] at h2
    rw [e2]
    exact h2.anyf
  have hfin3:Hid (∀ (wr:World),((W.alloc (.cells #[.int .i64 6,.int .i64 d,.slice p n cap,.slice q m c2] 33)).alloc (.cells #[.slice none 0 0,.int .u8 0] 108)).grownBy wr none→(Acc 6 kids m).length=0→Calls Tryz.prog 114 #[.agg #[.slice none 0 0,.int .u8 0],.int .u8 r] wr (fun e w'=>∃ px nx cx rx,e=.returned (.agg #[.slice px nx cx,.int .u8 rx])∧wr.grownBy w' none∧MPost (DNode 6 D) W (nodeT 6 r f (Acc 6 kids m)) (.returned (.agg #[.slice px nx cx,.int .u8 rx])) ((w'.setCell ⟨W.heap.size+1,0,none⟩ (.slice px nx cx)).setCell ⟨W.heap.size+1,1,none⟩ (.int .u8 rx)))):=fun wr g h0=>by
    have hd0:DNode 6 D (fun _=>False) wr (.agg #[.slice none 0 0,.int .u8 0]) (.mk 6 ((0:Nat):Int) 0 f []):=⟨0,f,[],none,0,rfl,by omega,rfl,Nat.le_refl _,by decide,fun h=>by simp at h,fun a ha=>by cases ha⟩
    refine (HF (fun _=>False) wr _ _ r hd0 (by unfold okT okTs;exact ⟨by omega,by simp,trivial⟩) hr4 (fun b hb=>hb.elim)).mono ?_
    rintro e w' ⟨v',rfl,hd,g'⟩
    obtain ⟨px,nx,cx,rx,rfl⟩:=hd.form
    refine ⟨px,nx,cx,rx,rfl,g',_,rfl,?_,gt_set_r (gt_set_r (gt_trans (gt_trans HG.out g (.inl rfl)) g' (.inl rfl)) _ _ (by show W.heap.size≤W.heap.size+1;omega)) _ _ (by show W.heap.size≤W.heap.size+1;omega)⟩
    have s0:W.heap.size+2=((W.alloc (.cells #[.int .i64 6,.int .i64 d,.slice p n cap,.slice q m c2] 33)).alloc (.cells #[.slice none 0 0,.int .u8 0] 108)).heap.size:=by simp
    have s1:=g.size
    have s2:=g'.size
    have nB:∀ b,(False∨Fr wr w' b)→W.heap.size+2≤b∧b<w'.heap.size:=fun b hb=>by
      rcases hb with hb | hb
      · exact hb.elim
      · exact ⟨by rw [s0];exact Nat.le_trans s1 hb.1,hb.2⟩
    have h1:=(DNode.dk K).keep (.set (q:=⟨W.heap.size+1,1,none⟩) (fun hb=>by have:=(nB _ hb).1;simp at this) (.int .u8 rx)) ((DNode.dk K).keep (.set (q:=⟨W.heap.size+1,0,none⟩) (fun hb=>by have:=(nB _ hb).1;simp at this) (.slice px nx cx)) hd)
    have h2:=(DNode.dk K).weak (B':=Fr W ((w'.setCell ⟨W.heap.size+1,0,none⟩ (.slice px nx cx)).setCell ⟨W.heap.size+1,1,none⟩ (.int .u8 rx))) (fun b hb=>⟨by have:=(nB _ hb).1;omega,by have:=(nB _ hb).2;simpa [World.setCell] using this⟩) h1
    have hnil:Acc 6 kids m=[]:=List.eq_nil_of_length_eq_zero h0
    have e2:nodeT 6 r f (Acc 6 kids m)=.mk 6 (r:Nat) 0 f []:=by unfold nodeT;rw [if_pos hnil]
    rw [force_node] at h2
    rw [e2]
    exact h2.anyf
  clear hm4 hm3 hf hw hr hm hwk hrt HN HF HE hfm
  generalize hW0:((W.alloc (.cells #[.int .i64 6,.int .i64 d,.slice p n cap,.slice q m c2] 33)).alloc (.cells #[.slice none 0 0,.int .u8 0] 108))=W0 at HG HA HC hsnoc hfin1 hfin2 hfin3
  have hs0:W.heap.size+2≤W0.heap.size:=by rw [←hW0];simp
  have HW0:=Lib.hid hW0
  clear hW0
  go_enter Tryz.func58,Tryz.ntmps58
  go_wp2_with fail
  rw [HW0.out]
  clear HW0
  go_loopw [3,9] (fun x i wr=>∃ (j:Nat) (cs:List Value),j≤m∧i=.int .i64 j∧W0.grownBy wr none∧RowS D 97 W0.heap.size (fun _=>False) wr x (Acc 6 kids j).length (fun i=>(Acc 6 kids j)[i]?) cs) (fun _ i _=>m - (intOf i).toNat)
  case atStart=>exact ⟨0,[],by omega,rfl,gt_refl _ _,by rw [HA0.out];exact (RowS.nil W0).sel fun i t h=>by simp at h⟩
  case round =>
    obtain ⟨j,cs,hj,rfl,g0,hrow⟩:=hrel
    rename World=>wr
    have Gw:=gt_trans HG.out g0 (.inl rfl)
    obtain ⟨k0,k1⟩:=HA.out _ g0
    obtain ⟨px,cx,rfl,hx1,hx2,_⟩:=own_form hrow.1
    have hlen:=HAL.out j hj
    have hbig:W.heap.size<wr.heap.size:=by have:=g0.size;omega
    have hbig2:W.heap.size+1<wr.heap.size:=by have:=g0.size;omega
    have hbig3:W0.heap.size≤wr.heap.size:=g0.size
    by_cases hjm:j<m
    · obtain ⟨t,a,c0,c1,c2,c3,ht,rfl,kk,hwt,q0,q1,q2,q3⟩:=HKid.out wr Gw j hjm
      have hacc:=HAS.out j t ht
      have hkt:=keepMp t
      have HMk:=Lib.hid (fun w (g:wr.grownBy w none) (h3:kindOf t=3)=>HB1.out w c0 c1 c2 c3 t (kk.mono g) hwt h3)
      obtain ⟨e1,d1,n1,f1,kids1,p1,cap1,q1',cq1,rfl,rfl,rfl,rfl,rfl⟩:=kk.form4
      generalize hm1':kids1.length=m1 at q3 HMk
      have HG5:=Lib.hid (World.grownBy_alloc wr (.cells #[.int .i64 e1,.int .i64 d1,.slice p1 n1 cap1,.slice q1' m1 cq1] 33) none)
      have HKp:Hid (∀ w,wr.grownBy w none→RowS D 97 W0.heap.size (fun _=>False) w (.slice px (Acc 6 kids j).length cx) (Acc 6 kids j).length (fun i=>(Acc 6 kids j)[i]?) cs):=fun w g=>hrow.kept K g
      have hob:∀ b,(Value.slice px (Acc 6 kids j).length cx).ownBlock=some b→W0.heap.size≤b:=fun b hb=>(hrow.1.lt b hb).1
      by_cases he1:e1=3
      · subst he1
        have hkt2:keepT 6 (newT (.mk 3 d1 n1 f1 kids1))=true:=by rw [hkt];rfl
        rw [if_pos hkt2] at hacc
        have HMk1:=Lib.hid (fun w (g:wr.grownBy w none)=>HMk.out w g rfl)
        have HSN:=Lib.hid (fun (w2 w3 w4:World) c0 c1 g capp (g2:wr.grownBy w2 none) (g3:w2.grownBy w3 none) (hd:D (Fr w2 w3) w3 (.agg #[c0,c1]) (newT (.mk 3 d1 n1 f1 kids1))) w5 (g5:w3.grownBy w5 none) (hown:w4.ownsRow W0.heap.size 97 2 (.slice (some ⟨g,0,none⟩) ((Acc 6 kids j).length+1) capp) ((Acc 6 kids j).length+1) (cs++[c0,c1])) (g4:w5.grownBy w4 (Value.slice px (Acc 6 kids j).length cx).ownBlock) (hg:(Value.slice px (Acc 6 kids j).length cx).ownBlock=some g∨g=w5.heap.size) =>
          (by
            obtain ⟨h1,h2⟩:=hsnoc.out w2 w3 w4 _ _ (Acc 6 kids j) cs c0 c1 (newT (.mk 3 d1 n1 f1 kids1)) g capp rfl (Nat.le_trans hbig3 g2.size) (hrow.kept K g2) g3 hd w5 g5 hown g4 hg
            rw [hacc]
            refine ⟨h1,gt_trans (gt_trans g0 g2 (.inl rfl)) h2 ?_⟩
            cases hx:(Value.slice px (Acc 6 kids j).length cx).ownBlock with
            | none=>exact .inl rfl
            | some b=>exact .inr (.inr ⟨b,rfl,hob b hx⟩)
            : RowS D 97 W0.heap.size (fun _=>False) w4 (.slice (some ⟨g,0,none⟩) ((Acc 6 kids j).length+1) capp) (Acc 6 kids (j+1)).length (fun i=>(Acc 6 kids (j+1))[i]?) (cs++[c0,c1])∧W0.grownBy w4 none))
        have HOw:=Lib.hid (fun w (g:wr.grownBy w none)=>(HKp.out w g).1)
        clear hkt hkt2 hacc HMk hwt ht kk hrow HKp hob
        generalize newT (.mk 3 d1 n1 f1 kids1)=tn at HMk1 HSN
        generalize (Acc 6 kids j).length=l at HSN HOw hlen hx1 ⊢
        go_wp2_with (first
          | (go_at_call 52;refine (HMk1.out _ HG5.out).mono ?_;rintro e w2 ⟨v2,rfl,hd2,hg2⟩;obtain ⟨ep,en,ec,er,rfl⟩:=HFM.out _ _ _ _ hd2;have HD2:=Lib.hid hd2;clear hd2;have G2:=gt_trans HG5.out hg2 (.inl rfl))
          | (at_builtin;refine app_cells2 (size:=2) (n:=l) (xs:=cs) (base:=W0.heap.size) rfl _ _ _ rfl Tryz.underlying106 (.agg #[.slice none 0 0,.int .u8 0]) 32 infoMp rfl (Nat.succ_pos 1) rfl rfl (by first | rfl | simp) _ (HOw.out _ (gt_alloc_r G2 _)) (by first | rfl | simp) (by simp [Value.oneCell']) (Nat.succ_pos 0) (by have:=G2.size;simp;omega) (by omega) (by omega) ?_;intro gg cap7 w7 hown7 hg7 hat7;have HFin:=Lib.hid (HSN.out _ _ _ _ _ _ _ HG5.out hg2 HD2.out _ (World.grownBy_alloc _ _ none) hown7 hg7 hat7);clear hown7 hg7 hat7))
        exact ⟨⟨j+1,_,by omega,by go_num,HFin.out.2,HFin.out.1⟩,by simp [intOf];omega⟩
      · have hkt2:¬ keepT 6 (newT (.mk e1 d1 n1 f1 kids1))=true:=by rw [hkt];show ¬ decide (e1=3)=true;simpa using he1
        rw [if_neg hkt2,List.append_nil] at hacc
        have hb1:(e1==3)=false:=by simpa using he1
        have HFin:Hid (∀ w,wr.grownBy w none→W0.grownBy w none∧RowS D 97 W0.heap.size (fun _=>False) w (.slice px (Acc 6 kids j).length cx) (Acc 6 kids (j+1)).length (fun i=>(Acc 6 kids (j+1))[i]?) cs):=fun w g=>by rw [hacc];exact ⟨gt_trans g0 g (.inl rfl),HKp.out w g⟩
        clear hkt hkt2 hacc HMk hwt ht kk hrow HKp hob
        generalize (Acc 6 kids j).length=l at HFin hlen hx1 ⊢
        go_wp2_with fail
        exact ⟨⟨j+1,_,by omega,by go_num,(HFin.out _ (World.grownBy_alloc _ _ _)).1,(HFin.out _ (World.grownBy_alloc _ _ _)).2⟩,by simp [intOf];omega⟩
    · obtain rfl:j=m:=by omega
      clear HKid HAS HB1 hokA hsnoc HA0 HAL
      by_cases hps:(Acc 6 kids j).length=0
      · have HF3:=Lib.hid (fun w g=>hfin3.out w g hps)
        rw [hps]
        clear hrow hfin1 hfin2 hfin3
        go_wp2_with fail
        go_wp2_with (first
          | (go_at_call 104;refine (HO.out _).mono ?_;rintro e w3 ⟨rfl,rfl⟩)
          | (go_at_call 114;refine (HF3.out _ g0).mono ?_;rintro e w2 ⟨px,nx,cx,rx,rfl,hg2,hmp⟩;have HMP:=Lib.hid hmp;clear hmp;obtain ⟨x0,x1,f0,f1⟩:=HC.out _ (gt_trans g0 hg2 (.inl rfl))))
        refine bodyPost_ret (by simp [results,Tryz.results58,go_sem,x0,x1];try rfl) rfl ?_
        exact HMP.out
      · have hps0:0<(Acc 6 kids j).length:=by omega
        have HF1:=Lib.hid (hfin1.out wr wr px cx cs g0 hrow hps0)
        have HF2:=Lib.hid (fun w' v' g' hd=>hfin2.out wr w' v' g0 g' hps0 hd)
        have hbl:(((Acc 6 kids j).length:Int)==0)=false:=by rw [beq_eq_false_iff_ne];omega
        clear hrow hfin1 hfin2 hfin3 hps
        generalize nodeT 6 0 f (Acc 6 kids j)=tn at HF1 HF2
        generalize (Acc 6 kids j).length=l at HF1 hlen hx1 hbl hps0 ⊢
        go_wp2_with fail
        go_wp2_with (first
          | (go_at_call 115;refine HF1.out.mono ?_;rintro e w2 ⟨v2,rfl,hd2,hg2⟩;obtain ⟨px2,nx2,cx2,rx2,rfl,hmp⟩:=HF2.out _ _ hg2 hd2;have HMP:=Lib.hid hmp;clear hmp hd2;obtain ⟨x0,x1,f0,f1⟩:=HC.out _ (gt_trans g0 hg2 (.inl rfl))))
        refine bodyPost_ret (by simp [results,Tryz.results58,go_sem,x0,x1];try rfl) rfl ?_
        exact HMP.out
end
end Go.Proofs.YtlpaecafpbbbkaaGreatDoor
