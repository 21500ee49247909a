/- The reference's New of what has parts. -/
import Derived.Test.YtlpaecafpbbbkaaGreatDoorBYT4
set_option linter.unusedVariables false
set_option linter.unusedSimpArgs false
set_option maxRecDepth 100000
set_option maxHeartbeats 24000000
namespace Go.Proofs.YtlpaecafpbbbkaaGreatDoor
section
open Go.RowKit
def Acc (K:Int) (kids:List Raw) (j:Nat):List Raw:=(newTs (kids.take j)).filter (keepT K)
theorem Acc_succ (K:Int) (kids:List Raw) (j:Nat) (t:Raw) (h:kids[j]?=some t):Acc K kids (j+1)=Acc K kids j++(if keepT K (newT t)=true then [newT t] else []):=by
  obtain ⟨hlt,rfl⟩:=List.getElem?_eq_some_iff.1 h
  unfold Acc
  rw [List.take_succ_eq_append_getElem hlt,newTs_snoc,List.filter_append]
  congr 1
  by_cases hp:keepT K (newT kids[j])=true
  · rw [if_pos hp,List.filter_cons_of_pos hp];rfl
  · rw [if_neg hp,List.filter_cons_of_neg hp];rfl
theorem Acc_len (K:Int) (kids:List Raw) (j:Nat) (hj:j≤kids.length):(Acc K kids j).length≤j:=by
  unfold Acc
  refine Nat.le_trans (List.length_filter_le _ _) ?_
  have:∀ l:List Raw,(newTs l).length=l.length:=fun l=>by
    induction l with
    | nil=>rfl
    | cons t l ih=>unfold newTs;simp [ih]
  rw [this,List.length_take];omega
theorem newT_node (k d:Int) (n:Nat) (f:Nat→Nat) (kids:List Raw) (h1:¬ kindN k=1) (h2:¬ kindN k=2):newT (.mk k d n f kids)=nodeT (kindN k) (d % 4).toNat f (Acc (kindN k) kids kids.length):=by
  unfold newT Acc
  rw [if_neg h1,if_neg h2,List.take_length]
def IHN (h:Nat):Prop:=∀ (B:Nat→Prop) (W:World) (v:Value) (t:Raw),KD B h W v t→wt t≤2000→Calls Tryz.prog 22 #[v] W fun e w'=>∃ v',e=.returned v'∧KD (Fr W w') h w' v' (newT t)∧W.grownBy w' none
theorem NewNode (h:Nat) (ih:IHN h) (B:Nat→Prop) (W:World) (k d:Int) (n:Nat) (f:Nat→Nat) (kids:List Raw) (p q:Option Addr) (cap c2:Nat)
    (hk:KD B (h+1) W (.agg #[.int .i64 k,.int .i64 d,.slice p n cap,.slice q kids.length c2]) (.mk k d n f kids)) (hw:wt (.mk k d n f kids)≤2000) (K:Int) (hK:kindN k=K) (hK1:¬ K=1) (hK2:¬ K=2) :
    Calls Tryz.prog 22 #[.agg #[.int .i64 k,.int .i64 d,.slice p n cap,.slice q kids.length c2]] W fun e w'=>∃ v',e=.returned v'∧KD (Fr W w') (h+1) w' v' (newT (.mk k d n f kids))∧W.grownBy w' none:=by
  rw [newT_node k d n f kids (by rw [hK];exact hK1) (by rw [hK];exact hK2),hK]
  obtain ⟨p',cap',q',c2',e0,hf,h1,h2,h3,hm1,hm2,hm3,hm4,_⟩:=hk
  have hfl:=Lib.hid hf.lt
  obtain ⟨rfl,rfl,rfl,rfl⟩ : p=p'∧cap=cap'∧q=q'∧c2=c2':=by simp at e0;exact ⟨e0.1.1,e0.1.2,e0.2.1,e0.2.2⟩
  obtain ⟨r,hr⟩ : ∃ r:Nat,d % 4=r:=⟨(d % 4).toNat,by omega⟩
  have hd3:bits .and .i64 d 3=(r:Int):=by rw [i64_and3,hr]
  have hrt:(d % 4).toNat=r:=by rw [hr];rfl
  rw [hrt]
  have hr4:r<4:=by omega
  have hwk:wts kids≤2000:=by unfold wt at hw;omega
  have hml:kids.length≤2000:=by have:=wts_len kids;omega
  have HKid:=Lib.hid (fun w (g:W.grownBy w none) a (ha:q=some a) j t (hj:kids[j]?=some t)=>(by
      obtain ⟨c0,c1,c2,c3,k0,k1,k2,k3,k4⟩:=hm4 a ha j t hj
      exact ⟨c0,c1,c2,c3,k0.mono g,g.cell k1 (by simp),g.cell k2 (by simp),g.cell k3 (by simp),g.cell k4 (by simp)⟩ : ∃ c0 c1 c2 c3,KD B h w (.agg #[c0,c1,c2,c3]) t∧w.cell? (a.add (j*4))=some c0∧w.cell? ⟨(a.add (j*4)).block,(a.add (j*4)).off+1,none⟩=some c1∧w.cell? ⟨(a.add (j*4)).block,(a.add (j*4)).off+2,none⟩=some c2∧w.cell? ⟨(a.add (j*4)).block,(a.add (j*4)).off+3,none⟩=some c3))
  have HIH:=Lib.hid (fun w v j t (hj:kids[j]?=some t) (hk:KD B h w v t)=>ih B w v t hk (by have:=wts_mem kids j t hj;omega))
  have HG:Hid (∀ j,j<kids.length→∃ t,kids[j]?=some t):=fun j hj=>⟨kids[j]'(by omega),List.getElem?_eq_getElem (by omega)⟩
  have HA:=Lib.hid (fun j t (hj:kids[j]?=some t)=>Acc_succ K kids j t hj)
  have HAL:=Lib.hid (fun j (hj:j≤kids.length)=>Acc_len K kids j hj)
  have HKO:=Lib.hid (fun w=>KidOf_any K w)
  have HLf:=Lib.hid (fun w=>Leaf_any K false (.inr ⟨hK1,hK2,rfl⟩) w)
  have HPl:Hid (∀ j,pls (Acc K kids j)≤1999):=fun j=>by
    have e1:=pls_filter (keepT K) (newTs (kids.take j))
    have e2:=pls_new (kids.take j)
    have e3:wts (kids.take j)≤wts kids:=by
      have:=wts_append (kids.take j) (kids.drop j)
      rw [List.take_append_drop] at this
      omega
    unfold wt at hw
    show pls ((newTs (kids.take j)).filter (keepT K))≤1999
    omega
  have HDm:Hid (∀ j,dimsOks (Acc K kids j)):=fun j=>dimsOks_filter _ _ (dimsOks_new _)
  have hqn:=Lib.hid hm3
  have HA0:Hid (Acc K kids 0=[]):=by simp [Acc,newTs];exact trivial
  generalize hm:kids.length=m at HG HAL hml hm1 ⊢
  clear hm4 hm3 ih hf hw e0 hr hrt hm hwk
  unfold kindN at hK
  by_cases hin:k<0∨6<k
  · rw [if_pos hin] at hK
    subst hK
    by_cases t1:k<0
    · clear hin
      go_enter Tryz.func22,Tryz.ntmps22
      go_wp2_with (first
        | (go_at_call 41;refine (HLf.out _).mono ?_;rintro e w' ⟨rfl,hw⟩;obtain rfl:=hw.symm))
      clear HLf
      have hpre:=Pre.of W _ (.int .i64 k) (.int .i64 d) (.slice p n cap) (.slice q m c2) 0 r 33 (gt_refl _ none)
      unfold W3 at hpre
      have I0:=Lib.hid (hpre.start0 h hfl.out)
      clear hpre
      go_loopw [5,55] (fun dm i wr=>∃ (j:Nat) (x:Value) (cs:List Value),i=.int .i64 j∧j≤m∧dm=.int .i64 ((dimsOf (Acc 0 kids j):Nat):Int)∧OutInv W wr h 0 r none 0 0 f x (Acc 0 kids j) cs) (fun _ i _=>m - (intOf i).toNat)
      case atStart=>exact ⟨0,.slice none 0 0,[],rfl,by omega,by rw [HA0.out];rfl,by rw [HA0.out];exact I0.out⟩
      case round =>
        obtain ⟨j,x,cs,rfl,hj,rfl,I⟩:=hrel
        rename World=>wr
        clear I0
        obtain ⟨D,hD⟩ : ∃ D,D=dimsOf (Acc 0 kids j):=⟨_,rfl⟩
        have hD4:D<4:=by rw [hD];exact dimsOf_lt _
        have HD:=Lib.hid hD
        rw [←hD]
        clear hD
        obtain ⟨l,hl⟩ : ∃ l,l=(Acc 0 kids j).length:=⟨_,rfl⟩
        have hlj:l≤2000:=by have:=HAL.out j hj;omega
        by_cases hjm:j<m
        · obtain ⟨t,ht⟩:=HG.out j hjm
          obtain ⟨a,rfl⟩ : ∃ a,q=some a:=by
            cases q with
            | none=>have:=hqn.out rfl;omega
            | some a=>exact ⟨a,rfl⟩
          obtain ⟨c0,c1,c2,c3,kk,q0,q1,q2,q3⟩:=HKid.out wr I.g a rfl j t ht
          obtain ⟨k1,d1,n1,f1,kids1,p1,cap1,q1',cq1,_,rfl,rfl,rfl,rfl⟩:=kk.form4
          generalize kids1.length=m1 at kk q3
          have HK5:=Lib.hid (fun w (g:wr.grownBy w none)=>HIH.out w _ j t ht (kk.mono g))
          have hAs:=Lib.hid (HA.out j t ht)
          have hdm:=dims_new t
          obtain ⟨px,cx,rfl,_⟩:=own_form I.kr.1
          have HI:=Lib.hid (fun w (g:wr.grownBy w none)=>I.kept g)
          rw [←hl] at HI
          have HL:=Lib.hid hl
          have hbig:=I.big
          have HX7:Hid (∀ w6 w7,wr.grownBy w6 none→w6.grownBy w7 (Value.slice px l cx).ownBlock→w7.cell? ⟨W.heap.size+1+1,3,none⟩=some (.slice px l cx)∧w7.frozen? ⟨W.heap.size+1+1,3,none⟩=false):=fun w6 w7 g g'=>by
            have hi:=HI.out w6 g
            have hne:some (W.heap.size+1+1)≠(Value.slice px l cx).ownBlock:=fun e=>by have:=(hi.kr.1.lt _ e.symm).1;omega
            exact ⟨g'.cell hi.o3 hne,by rw [World.frozen?_of_block (g'.block (W.heap.size+1+1) (by have:=hi.big;omega) hne)];exact hi.of_ 3⟩
          have HXM:Hid (∀ (w6 w7:World) (b o:Nat) (v:Value),wr.heap.size≤b→w6.grownBy w7 (Value.slice px l cx).ownBlock→w6.cell? ⟨b,o,none⟩=some v→w7.cell? ⟨b,o,none⟩=some v):=fun w6 w7 b o v hb g' hv=>by
            have hi:=HI.out wr (gt_refl _ _)
            exact g'.cell hv (fun e=>absurd (show b<wr.heap.size from (hi.kr.1.lt _ e.symm).2) (by omega))
          have HOw:Hid (∀ w,wr.grownBy w none→w.ownsRow (W.heap.size+3) 33 4 (.slice px l cx) l cs):=fun w g=>by
            have hh:=(HI.out w g).kr.1
            rw [←hl] at hh
            exact hh
          have HSnoc:Hid (∀ (w1 w2 w3 w4:World) (d0 d1 d2 d3:Value) (gg cap:Nat),wr.grownBy w1 none→w1.grownBy w2 none→w2.grownBy w3 none→KD (Fr w1 w2) h w2 (.agg #[d0,d1,d2,d3]) (newT t)→w4.ownsRow (W.heap.size+3) 33 4 (.slice (some ⟨gg,0,none⟩) (l+1) cap) (l+1) (cs++[d0,d1,d2,d3])→w3.grownBy w4 (Value.slice px l cx).ownBlock→((Value.slice px l cx).ownBlock=some gg∨gg=w3.heap.size) →
              OutInv W (w4.setCell ⟨W.heap.size+1+1,3,none⟩ (.slice (some ⟨gg,0,none⟩) (l+1) cap)) h 0 r none 0 0 f (.slice (some ⟨gg,0,none⟩) (l+1) cap) (Acc 0 kids j++[newT t]) (cs++[d0,d1,d2,d3])):=fun w1 w2 w3 w4 d0 d1 d2 d3 gg cap g1 g2 g3 hk hown g4 hg=>by
            have hh:=(HI.out wr (gt_refl _ _)).snoc g1 g2 g3 hk (by rw [←hl];exact hown) g4 hg
            rw [←hl] at hh
            exact hh
          clear kk ht I hl
          have G5:=World.grownBy_alloc wr (.cells #[.int .i64 k1,.int .i64 d1,.slice p1 n1 cap1,.slice q1' m1 cq1] 33) none
          have HG5:=Lib.hid G5
          clear G5
          go_wp2_with (first
            | (go_at_call 22;refine (HK5.out _ HG5.out).mono ?_;rintro e w5 ⟨v5,rfl,hk5,hg5⟩;obtain ⟨k6,d6,n6,f6,kids6,p6,cap6,q6,cq6,ht6,rfl⟩:=hk5.form))
          rw [ht6] at hdm
          obtain ⟨hd60,hd64,_⟩:=hdm
          obtain ⟨r6,rfl⟩:=Int.eq_ofNat_of_zero_le hd60
          have G6:=gt_trans HG5.out hg5 (.inl rfl)
          have hs5:wr.heap.size<w5.heap.size:=by have:=hg5.size;simp at this;omega
          have hkeep:keepT 0 (newT t)=(decide (kidOf 0<0)||decide (kidOf 0=k6)):=by rw [ht6];rfl
          have hdim:dimR (newT t)=r6:=by rw [ht6];rfl
          have HKeep:=Lib.hid hkeep
          have HDim:=Lib.hid hdim
          have Hk5:=Lib.hid hk5
          clear ht6 hkeep hdim hk5
          generalize kids6.length=m6 at Hk5 ⊢
          have o0:=(HI.out _ G6).o0
          have hz5:W.heap.size+1+1<w5.heap.size:=by omega
          revert HKO HKeep
          generalize kidOf 0=κ
          intro HKO HKeep
          by_cases hκ:κ<0
          · have hkt:keepT 0 (newT t)=true:=by rw [HKeep.out];simp [hκ]
            rw [if_pos hkt] at hAs
            clear hkt HKeep
            go_quiet ((go_at_call 43;exact Calls.quiet_of_same (HKO.out _)))
            have HW6:=Lib.hid (gt_drewN_r (gt_alloc_r (gt_refl w5 none) (.cells #[.int .i64 k6,.int .i64 r6,.slice p6 n6 cap6,.slice q6 m6 cq6] 33)) nq)
            have y0:=cell_new_at' w5 #[.int .i64 k6,.int .i64 r6,.slice p6 n6 cap6,.slice q6 m6 cq6] 33 w5.heap.size
            have z0:((w5.alloc (.cells #[.int .i64 k6,.int .i64 r6,.slice p6 n6 cap6,.slice q6 m6 cq6] 33)).drewN nq).cell? ⟨w5.heap.size,0,none⟩=some (.int .i64 k6):=y0 0 rfl
            have z1:((w5.alloc (.cells #[.int .i64 k6,.int .i64 r6,.slice p6 n6 cap6,.slice q6 m6 cq6] 33)).drewN nq).cell? ⟨w5.heap.size,1,none⟩=some (.int .i64 r6):=y0 1 rfl
            have z2:((w5.alloc (.cells #[.int .i64 k6,.int .i64 r6,.slice p6 n6 cap6,.slice q6 m6 cq6] 33)).drewN nq).cell? ⟨w5.heap.size,2,none⟩=some (.slice p6 n6 cap6):=y0 2 rfl
            have z3:((w5.alloc (.cells #[.int .i64 k6,.int .i64 r6,.slice p6 n6 cap6,.slice q6 m6 cq6] 33)).drewN nq).cell? ⟨w5.heap.size,3,none⟩=some (.slice q6 m6 cq6):=y0 3 rfl
            have hs6:w5.heap.size<((w5.alloc (.cells #[.int .i64 k6,.int .i64 r6,.slice p6 n6 cap6,.slice q6 m6 cq6] 33)).drewN nq).heap.size:=by simp [World.drewN]
            clear y0 o0
            revert HW6 z0 z1 z2 z3 hs6
            generalize (w5.alloc (.cells #[.int .i64 k6,.int .i64 r6,.slice p6 n6 cap6,.slice q6 m6 cq6] 33)).drewN nq=w6
            intro HW6 z0 z1 z2 z3 hs6
            have G7:=gt_trans G6 HW6.out (.inl rfl)
            have y3:=(HI.out _ G7).o3
            have hz6:W.heap.size+1+1<w6.heap.size:=by omega
            have hand:=and_small D r6 hD4 (by omega)
            go_wp2_with (at_builtin;refine app_cells2 (size:=4) (n:=l) (xs:=cs) (base:=W.heap.size+3) (W:=w6) rfl _ _ _ rfl Tryz.underlying31 (.agg #[.int .i64 0,.int .i64 0,.slice none 0 0,.slice none 0 0]) 64 infoG rfl (Nat.succ_pos 3) rfl rfl rfl _ (HOw.out _ (gt_alloc_r G7 _)) rfl (one4 _ _ _ _ _ _ _ _) (Nat.succ_pos 0) (by have:=G7.size;simp;omega) (by omega) (by omega) ?_;intro gg cap7 w7 hown7 hg7 hat7;obtain ⟨u3,uf⟩:=HX7.out _ _ (gt_alloc_r G7 _) hg7;have u1:=HXM.out _ _ w5.heap.size 1 _ (by omega) hg7 ((World.grownBy_alloc w6 _ none).cell z1 (by simp));have HFin:=Lib.hid (HSnoc.out _ _ _ _ _ _ _ _ _ _ HG5.out hg5 (gt_alloc_r HW6.out _) Hk5.out hown7 hg7 hat7);clear hown7 hg7 hat7)
            exact ⟨⟨j+1,_,_,by go_num,by omega,by rw [hAs.out,dimsOf_snoc,HDim.out,HD.out],by rw [hAs.out];exact HFin.out⟩,by simp [intOf];omega⟩
          · have hκB:decide (κ<0)=false:=by simpa using hκ
            by_cases hke:κ=k6
            · have hkt:keepT 0 (newT t)=true:=by rw [HKeep.out];simp [hke]
              rw [if_pos hkt] at hAs
              have hkB:(κ==k6)=true:=by simpa using hke
              clear hkt HKeep hke
              go_quiet ((go_at_call 43;exact Calls.quiet_of_same (HKO.out _)))
              have HW6:=Lib.hid (gt_drewN_r (gt_alloc_r (gt_refl w5 none) (.cells #[.int .i64 k6,.int .i64 r6,.slice p6 n6 cap6,.slice q6 m6 cq6] 33)) nq)
              have y0:=cell_new_at' w5 #[.int .i64 k6,.int .i64 r6,.slice p6 n6 cap6,.slice q6 m6 cq6] 33 w5.heap.size
              have z0:((w5.alloc (.cells #[.int .i64 k6,.int .i64 r6,.slice p6 n6 cap6,.slice q6 m6 cq6] 33)).drewN nq).cell? ⟨w5.heap.size,0,none⟩=some (.int .i64 k6):=y0 0 rfl
              have z1:((w5.alloc (.cells #[.int .i64 k6,.int .i64 r6,.slice p6 n6 cap6,.slice q6 m6 cq6] 33)).drewN nq).cell? ⟨w5.heap.size,1,none⟩=some (.int .i64 r6):=y0 1 rfl
              have z2:((w5.alloc (.cells #[.int .i64 k6,.int .i64 r6,.slice p6 n6 cap6,.slice q6 m6 cq6] 33)).drewN nq).cell? ⟨w5.heap.size,2,none⟩=some (.slice p6 n6 cap6):=y0 2 rfl
              have z3:((w5.alloc (.cells #[.int .i64 k6,.int .i64 r6,.slice p6 n6 cap6,.slice q6 m6 cq6] 33)).drewN nq).cell? ⟨w5.heap.size,3,none⟩=some (.slice q6 m6 cq6):=y0 3 rfl
              have hs6:w5.heap.size<((w5.alloc (.cells #[.int .i64 k6,.int .i64 r6,.slice p6 n6 cap6,.slice q6 m6 cq6] 33)).drewN nq).heap.size:=by simp [World.drewN]
              clear y0 o0
              revert HW6 z0 z1 z2 z3 hs6
              generalize (w5.alloc (.cells #[.int .i64 k6,.int .i64 r6,.slice p6 n6 cap6,.slice q6 m6 cq6] 33)).drewN nq=w6
              intro HW6 z0 z1 z2 z3 hs6
              have G7:=gt_trans G6 HW6.out (.inl rfl)
              have y3:=(HI.out _ G7).o3
              have hz6:W.heap.size+1+1<w6.heap.size:=by omega
              have hand:=and_small D r6 hD4 (by omega)
              go_wp2_with (at_builtin;refine app_cells2 (size:=4) (n:=l) (xs:=cs) (base:=W.heap.size+3) (W:=w6) rfl _ _ _ rfl Tryz.underlying31 (.agg #[.int .i64 0,.int .i64 0,.slice none 0 0,.slice none 0 0]) 64 infoG rfl (Nat.succ_pos 3) rfl rfl rfl _ (HOw.out _ (gt_alloc_r G7 _)) rfl (one4 _ _ _ _ _ _ _ _) (Nat.succ_pos 0) (by have:=G7.size;simp;omega) (by omega) (by omega) ?_;intro gg cap7 w7 hown7 hg7 hat7;obtain ⟨u3,uf⟩:=HX7.out _ _ (gt_alloc_r G7 _) hg7;have u1:=HXM.out _ _ w5.heap.size 1 _ (by omega) hg7 ((World.grownBy_alloc w6 _ none).cell z1 (by simp));have HFin:=Lib.hid (HSnoc.out _ _ _ _ _ _ _ _ _ _ HG5.out hg5 (gt_alloc_r HW6.out _) Hk5.out hown7 hg7 hat7);clear hown7 hg7 hat7)
              exact ⟨⟨j+1,_,_,by go_num,by omega,by rw [hAs.out,dimsOf_snoc,HDim.out,HD.out],by rw [hAs.out];exact HFin.out⟩,by simp [intOf];omega⟩
            · have hkt:¬ keepT 0 (newT t)=true:=by rw [HKeep.out];simp [hκB,hke]
              rw [if_neg hkt,List.append_nil] at hAs
              have hkB:(κ==k6)=false:=by simpa using hke
              clear hkt HKeep hke
              go_quiet ((go_at_call 43;exact Calls.quiet_of_same (HKO.out _)))
              go_wp2_with fail
              exact ⟨⟨j+1,_,cs,by go_num,by omega,by rw [hAs.out,HD.out],by rw [hAs.out];exact HI.out _ (gt_drewN_r (gt_alloc_r G6 _) _)⟩,by simp [intOf];omega⟩
        · obtain rfl:j=m:=by omega
          obtain ⟨px,cx,rfl,_⟩:=own_form I.kr.1
          rw [←hl] at I
          have o0:=I.o0
          have o1:=I.o1
          have o2:=I.o2
          have o3:=I.o3
          have r0:=I.r0
          have r1:=I.r1
          have r2:=I.r2
          have r3:=I.r3
          have rf0:=I.rf 0
          have rf1:=I.rf 1
          have rf2:=I.rf 2
          have rf3:=I.rf 3
          by_cases hacc:Acc 0 kids j=[]
          · obtain rfl:l=0:=by rw [hl,hacc];rfl
            have hnt:nodeT 0 r f (Acc 0 kids j)=.mk 0 r 0 f (Acc 0 kids j):=by unfold nodeT;rw [if_pos hacc,hacc]
            have HNT:=Lib.hid hnt
            have HEnd:=Lib.hid I.end_
            clear I hacc hl hnt
            go_wp2_with fail
            go_wp2_with fail
            refine bodyPost_ret (by simp [results,Tryz.results22,go_sem,r0,r1,r2,r3];try rfl) rfl ?_
            exact ⟨_,rfl,by rw [HNT.out];exact HEnd.out.1,HEnd.out.2⟩
          · have hl1:1≤l:=by
              rw [hl]
              exact Nat.one_le_iff_ne_zero.2 (fun e=>hacc (List.eq_nil_of_length_eq_zero e))
            have hnt:nodeT 0 r f (Acc 0 kids j)=forceT D (.mk 0 r 0 f (Acc 0 kids j)):=by unfold nodeT;rw [if_neg hacc,HD.out]
            have HNT:=Lib.hid hnt
            have HFo:=Lib.hid (ForceD (h+1) _ wr _ (.mk 0 r 0 f (Acc 0 kids j)) D hD4 I.kd ⟨by omega,by omega,HDm.out j⟩ (by have:=HPl.out j;unfold pl;simp;omega))
            have HI:=Lib.hid (fun w (g:wr.grownBy w none)=>I.kept g)
            have hbig:=I.big
            clear I hacc hl hnt r0 r1 r2 r3 rf0 rf1 rf2 rf3
            go_wp2_with fail
            go_wp2_with (go_at_call 44;refine HFo.out.mono ?_;rintro e w8 ⟨v8,rfl,hk8,hg8⟩;obtain ⟨k8,d8,n8,f8,kids8,p8,cap8,q8,cq8,_,rfl⟩:=hk8.form;have r0:=(HI.out _ hg8).r0;have r1:=(HI.out _ hg8).r1;have r2:=(HI.out _ hg8).r2;have r3:=(HI.out _ hg8).r3;have rf0:=(HI.out _ hg8).rf 0;have rf1:=(HI.out _ hg8).rf 1;have rf2:=(HI.out _ hg8).rf 2;have rf3:=(HI.out _ hg8).rf 3;have HK8:=Lib.hid hk8;clear hk8)
            refine bodyPost_ret (by simp [results,Tryz.results22,go_sem,r0,r1,r2,r3];try rfl) rfl ?_
            have ks:∀ (w:World) (jj:Nat) (y:Value),Kept (Fr wr w8) w (w.setCell ⟨W.heap.size+1,jj,none⟩ y):=fun w jj y=>.set (fun hB=>absurd (show wr.heap.size≤W.heap.size+1 from hB.1) (by omega)) y
            have gs:∀ (w:World) (jj:Nat) (y:Value),W.grownBy w none→W.grownBy (w.setCell ⟨W.heap.size+1,jj,none⟩ y) none:=fun w jj y g=>gt_set_r g _ _ (Nat.le_succ _)
            exact ⟨_,rfl,by rw [HNT.out];exact ((((HK8.out.keep (ks _ _ _)).keep (ks _ _ _)).keep (ks _ _ _)).keep (ks _ _ _)).weak fun b hb=>⟨by have:=hb.1;omega,by simp [World.setCell];exact hb.2⟩,gs _ _ _ (gs _ _ _ (gs _ _ _ (gs _ _ _ (HI.out _ hg8).g)))⟩
    · have t2:6<k:=by omega
      clear hin
      go_enter Tryz.func22,Tryz.ntmps22
      go_wp2_with (first
        | (go_at_call 41;refine (HLf.out _).mono ?_;rintro e w' ⟨rfl,hw⟩;obtain rfl:=hw.symm))
      clear HLf
      have hpre:=Pre.of W _ (.int .i64 k) (.int .i64 d) (.slice p n cap) (.slice q m c2) 0 r 33 (gt_refl _ none)
      unfold W3 at hpre
      have I0:=Lib.hid (hpre.start0 h hfl.out)
      clear hpre
      go_loopw [5,55] (fun dm i wr=>∃ (j:Nat) (x:Value) (cs:List Value),i=.int .i64 j∧j≤m∧dm=.int .i64 ((dimsOf (Acc 0 kids j):Nat):Int)∧OutInv W wr h 0 r none 0 0 f x (Acc 0 kids j) cs) (fun _ i _=>m - (intOf i).toNat)
      case atStart=>exact ⟨0,.slice none 0 0,[],rfl,by omega,by rw [HA0.out];rfl,by rw [HA0.out];exact I0.out⟩
      case round =>
        obtain ⟨j,x,cs,rfl,hj,rfl,I⟩:=hrel
        rename World=>wr
        clear I0
        obtain ⟨D,hD⟩ : ∃ D,D=dimsOf (Acc 0 kids j):=⟨_,rfl⟩
        have hD4:D<4:=by rw [hD];exact dimsOf_lt _
        have HD:=Lib.hid hD
        rw [←hD]
        clear hD
        obtain ⟨l,hl⟩ : ∃ l,l=(Acc 0 kids j).length:=⟨_,rfl⟩
        have hlj:l≤2000:=by have:=HAL.out j hj;omega
        by_cases hjm:j<m
        · obtain ⟨t,ht⟩:=HG.out j hjm
          obtain ⟨a,rfl⟩ : ∃ a,q=some a:=by
            cases q with
            | none=>have:=hqn.out rfl;omega
            | some a=>exact ⟨a,rfl⟩
          obtain ⟨c0,c1,c2,c3,kk,q0,q1,q2,q3⟩:=HKid.out wr I.g a rfl j t ht
          obtain ⟨k1,d1,n1,f1,kids1,p1,cap1,q1',cq1,_,rfl,rfl,rfl,rfl⟩:=kk.form4
          generalize kids1.length=m1 at kk q3
          have HK5:=Lib.hid (fun w (g:wr.grownBy w none)=>HIH.out w _ j t ht (kk.mono g))
          have hAs:=Lib.hid (HA.out j t ht)
          have hdm:=dims_new t
          obtain ⟨px,cx,rfl,_⟩:=own_form I.kr.1
          have HI:=Lib.hid (fun w (g:wr.grownBy w none)=>I.kept g)
          rw [←hl] at HI
          have HL:=Lib.hid hl
          have hbig:=I.big
          have HX7:Hid (∀ w6 w7,wr.grownBy w6 none→w6.grownBy w7 (Value.slice px l cx).ownBlock→w7.cell? ⟨W.heap.size+1+1,3,none⟩=some (.slice px l cx)∧w7.frozen? ⟨W.heap.size+1+1,3,none⟩=false):=fun w6 w7 g g'=>by
            have hi:=HI.out w6 g
            have hne:some (W.heap.size+1+1)≠(Value.slice px l cx).ownBlock:=fun e=>by have:=(hi.kr.1.lt _ e.symm).1;omega
            exact ⟨g'.cell hi.o3 hne,by rw [World.frozen?_of_block (g'.block (W.heap.size+1+1) (by have:=hi.big;omega) hne)];exact hi.of_ 3⟩
          have HXM:Hid (∀ (w6 w7:World) (b o:Nat) (v:Value),wr.heap.size≤b→w6.grownBy w7 (Value.slice px l cx).ownBlock→w6.cell? ⟨b,o,none⟩=some v→w7.cell? ⟨b,o,none⟩=some v):=fun w6 w7 b o v hb g' hv=>by
            have hi:=HI.out wr (gt_refl _ _)
            exact g'.cell hv (fun e=>absurd (show b<wr.heap.size from (hi.kr.1.lt _ e.symm).2) (by omega))
          have HOw:Hid (∀ w,wr.grownBy w none→w.ownsRow (W.heap.size+3) 33 4 (.slice px l cx) l cs):=fun w g=>by
            have hh:=(HI.out w g).kr.1
            rw [←hl] at hh
            exact hh
          have HSnoc:Hid (∀ (w1 w2 w3 w4:World) (d0 d1 d2 d3:Value) (gg cap:Nat),wr.grownBy w1 none→w1.grownBy w2 none→w2.grownBy w3 none→KD (Fr w1 w2) h w2 (.agg #[d0,d1,d2,d3]) (newT t)→w4.ownsRow (W.heap.size+3) 33 4 (.slice (some ⟨gg,0,none⟩) (l+1) cap) (l+1) (cs++[d0,d1,d2,d3])→w3.grownBy w4 (Value.slice px l cx).ownBlock→((Value.slice px l cx).ownBlock=some gg∨gg=w3.heap.size) →
              OutInv W (w4.setCell ⟨W.heap.size+1+1,3,none⟩ (.slice (some ⟨gg,0,none⟩) (l+1) cap)) h 0 r none 0 0 f (.slice (some ⟨gg,0,none⟩) (l+1) cap) (Acc 0 kids j++[newT t]) (cs++[d0,d1,d2,d3])):=fun w1 w2 w3 w4 d0 d1 d2 d3 gg cap g1 g2 g3 hk hown g4 hg=>by
            have hh:=(HI.out wr (gt_refl _ _)).snoc g1 g2 g3 hk (by rw [←hl];exact hown) g4 hg
            rw [←hl] at hh
            exact hh
          clear kk ht I hl
          have G5:=World.grownBy_alloc wr (.cells #[.int .i64 k1,.int .i64 d1,.slice p1 n1 cap1,.slice q1' m1 cq1] 33) none
          have HG5:=Lib.hid G5
          clear G5
          go_wp2_with (first
            | (go_at_call 22;refine (HK5.out _ HG5.out).mono ?_;rintro e w5 ⟨v5,rfl,hk5,hg5⟩;obtain ⟨k6,d6,n6,f6,kids6,p6,cap6,q6,cq6,ht6,rfl⟩:=hk5.form))
          rw [ht6] at hdm
          obtain ⟨hd60,hd64,_⟩:=hdm
          obtain ⟨r6,rfl⟩:=Int.eq_ofNat_of_zero_le hd60
          have G6:=gt_trans HG5.out hg5 (.inl rfl)
          have hs5:wr.heap.size<w5.heap.size:=by have:=hg5.size;simp at this;omega
          have hkeep:keepT 0 (newT t)=(decide (kidOf 0<0)||decide (kidOf 0=k6)):=by rw [ht6];rfl
          have hdim:dimR (newT t)=r6:=by rw [ht6];rfl
          have HKeep:=Lib.hid hkeep
          have HDim:=Lib.hid hdim
          have Hk5:=Lib.hid hk5
          clear ht6 hkeep hdim hk5
          generalize kids6.length=m6 at Hk5 ⊢
          have o0:=(HI.out _ G6).o0
          have hz5:W.heap.size+1+1<w5.heap.size:=by omega
          revert HKO HKeep
          generalize kidOf 0=κ
          intro HKO HKeep
          by_cases hκ:κ<0
          · have hkt:keepT 0 (newT t)=true:=by rw [HKeep.out];simp [hκ]
            rw [if_pos hkt] at hAs
            clear hkt HKeep
            go_quiet ((go_at_call 43;exact Calls.quiet_of_same (HKO.out _)))
            have HW6:=Lib.hid (gt_drewN_r (gt_alloc_r (gt_refl w5 none) (.cells #[.int .i64 k6,.int .i64 r6,.slice p6 n6 cap6,.slice q6 m6 cq6] 33)) nq)
            have y0:=cell_new_at' w5 #[.int .i64 k6,.int .i64 r6,.slice p6 n6 cap6,.slice q6 m6 cq6] 33 w5.heap.size
            have z0:((w5.alloc (.cells #[.int .i64 k6,.int .i64 r6,.slice p6 n6 cap6,.slice q6 m6 cq6] 33)).drewN nq).cell? ⟨w5.heap.size,0,none⟩=some (.int .i64 k6):=y0 0 rfl
            have z1:((w5.alloc (.cells #[.int .i64 k6,.int .i64 r6,.slice p6 n6 cap6,.slice q6 m6 cq6] 33)).drewN nq).cell? ⟨w5.heap.size,1,none⟩=some (.int .i64 r6):=y0 1 rfl
            have z2:((w5.alloc (.cells #[.int .i64 k6,.int .i64 r6,.slice p6 n6 cap6,.slice q6 m6 cq6] 33)).drewN nq).cell? ⟨w5.heap.size,2,none⟩=some (.slice p6 n6 cap6):=y0 2 rfl
            have z3:((w5.alloc (.cells #[.int .i64 k6,.int .i64 r6,.slice p6 n6 cap6,.slice q6 m6 cq6] 33)).drewN nq).cell? ⟨w5.heap.size,3,none⟩=some (.slice q6 m6 cq6):=y0 3 rfl
            have hs6:w5.heap.size<((w5.alloc (.cells #[.int .i64 k6,.int .i64 r6,.slice p6 n6 cap6,.slice q6 m6 cq6] 33)).drewN nq).heap.size:=by simp [World.drewN]
            clear y0 o0
            revert HW6 z0 z1 z2 z3 hs6
            generalize (w5.alloc (.cells #[.int .i64 k6,.int .i64 r6,.slice p6 n6 cap6,.slice q6 m6 cq6] 33)).drewN nq=w6
            intro HW6 z0 z1 z2 z3 hs6
            have G7:=gt_trans G6 HW6.out (.inl rfl)
            have y3:=(HI.out _ G7).o3
            have hz6:W.heap.size+1+1<w6.heap.size:=by omega
            have hand:=and_small D r6 hD4 (by omega)
            go_wp2_with (at_builtin;refine app_cells2 (size:=4) (n:=l) (xs:=cs) (base:=W.heap.size+3) (W:=w6) rfl _ _ _ rfl Tryz.underlying31 (.agg #[.int .i64 0,.int .i64 0,.slice none 0 0,.slice none 0 0]) 64 infoG rfl (Nat.succ_pos 3) rfl rfl rfl _ (HOw.out _ (gt_alloc_r G7 _)) rfl (one4 _ _ _ _ _ _ _ _) (Nat.succ_pos 0) (by have:=G7.size;simp;omega) (by omega) (by omega) ?_;intro gg cap7 w7 hown7 hg7 hat7;obtain ⟨u3,uf⟩:=HX7.out _ _ (gt_alloc_r G7 _) hg7;have u1:=HXM.out _ _ w5.heap.size 1 _ (by omega) hg7 ((World.grownBy_alloc w6 _ none).cell z1 (by simp));have HFin:=Lib.hid (HSnoc.out _ _ _ _ _ _ _ _ _ _ HG5.out hg5 (gt_alloc_r HW6.out _) Hk5.out hown7 hg7 hat7);clear hown7 hg7 hat7)
            exact ⟨⟨j+1,_,_,by go_num,by omega,by rw [hAs.out,dimsOf_snoc,HDim.out,HD.out],by rw [hAs.out];exact HFin.out⟩,by simp [intOf];omega⟩
          · have hκB:decide (κ<0)=false:=by simpa using hκ
            by_cases hke:κ=k6
            · have hkt:keepT 0 (newT t)=true:=by rw [HKeep.out];simp [hke]
              rw [if_pos hkt] at hAs
              have hkB:(κ==k6)=true:=by simpa using hke
              clear hkt HKeep hke
              go_quiet ((go_at_call 43;exact Calls.quiet_of_same (HKO.out _)))
              have HW6:=Lib.hid (gt_drewN_r (gt_alloc_r (gt_refl w5 none) (.cells #[.int .i64 k6,.int .i64 r6,.slice p6 n6 cap6,.slice q6 m6 cq6] 33)) nq)
              have y0:=cell_new_at' w5 #[.int .i64 k6,.int .i64 r6,.slice p6 n6 cap6,.slice q6 m6 cq6] 33 w5.heap.size
              have z0:((w5.alloc (.cells #[.int .i64 k6,.int .i64 r6,.slice p6 n6 cap6,.slice q6 m6 cq6] 33)).drewN nq).cell? ⟨w5.heap.size,0,none⟩=some (.int .i64 k6):=y0 0 rfl
              have z1:((w5.alloc (.cells #[.int .i64 k6,.int .i64 r6,.slice p6 n6 cap6,.slice q6 m6 cq6] 33)).drewN nq).cell? ⟨w5.heap.size,1,none⟩=some (.int .i64 r6):=y0 1 rfl
              have z2:((w5.alloc (.cells #[.int .i64 k6,.int .i64 r6,.slice p6 n6 cap6,.slice q6 m6 cq6] 33)).drewN nq).cell? ⟨w5.heap.size,2,none⟩=some (.slice p6 n6 cap6):=y0 2 rfl
              have z3:((w5.alloc (.cells #[.int .i64 k6,.int .i64 r6,.slice p6 n6 cap6,.slice q6 m6 cq6] 33)).drewN nq).cell? ⟨w5.heap.size,3,none⟩=some (.slice q6 m6 cq6):=y0 3 rfl
              have hs6:w5.heap.size<((w5.alloc (.cells #[.int .i64 k6,.int .i64 r6,.slice p6 n6 cap6,.slice q6 m6 cq6] 33)).drewN nq).heap.size:=by simp [World.drewN]
              clear y0 o0
              revert HW6 z0 z1 z2 z3 hs6
              generalize (w5.alloc (.cells #[.int .i64 k6,.int .i64 r6,.slice p6 n6 cap6,.slice q6 m6 cq6] 33)).drewN nq=w6
              intro HW6 z0 z1 z2 z3 hs6
              have G7:=gt_trans G6 HW6.out (.inl rfl)
              have y3:=(HI.out _ G7).o3
              have hz6:W.heap.size+1+1<w6.heap.size:=by omega
              have hand:=and_small D r6 hD4 (by omega)
              go_wp2_with (at_builtin;refine app_cells2 (size:=4) (n:=l) (xs:=cs) (base:=W.heap.size+3) (W:=w6) rfl _ _ _ rfl Tryz.underlying31 (.agg #[.int .i64 0,.int .i64 0,.slice none 0 0,.slice none 0 0]) 64 infoG rfl (Nat.succ_pos 3) rfl rfl rfl _ (HOw.out _ (gt_alloc_r G7 _)) rfl (one4 _ _ _ _ _ _ _ _) (Nat.succ_pos 0) (by have:=G7.size;simp;omega) (by omega) (by omega) ?_;intro gg cap7 w7 hown7 hg7 hat7;obtain ⟨u3,uf⟩:=HX7.out _ _ (gt_alloc_r G7 _) hg7;have u1:=HXM.out _ _ w5.heap.size 1 _ (by omega) hg7 ((World.grownBy_alloc w6 _ none).cell z1 (by simp));have HFin:=Lib.hid (HSnoc.out _ _ _ _ _ _ _ _ _ _ HG5.out hg5 (gt_alloc_r HW6.out _) Hk5.out hown7 hg7 hat7);clear hown7 hg7 hat7)
              exact ⟨⟨j+1,_,_,by go_num,by omega,by rw [hAs.out,dimsOf_snoc,HDim.out,HD.out],by rw [hAs.out];exact HFin.out⟩,by simp [intOf];omega⟩
            · have hkt:¬ keepT 0 (newT t)=true:=by rw [HKeep.out];simp [hκB,hke]
              rw [if_neg hkt,List.append_nil] at hAs
              have hkB:(κ==k6)=false:=by simpa using hke
              clear hkt HKeep hke
              go_quiet ((go_at_call 43;exact Calls.quiet_of_same (HKO.out _)))
              go_wp2_with fail
              exact ⟨⟨j+1,_,cs,by go_num,by omega,by rw [hAs.out,HD.out],by rw [hAs.out];exact HI.out _ (gt_drewN_r (gt_alloc_r G6 _) _)⟩,by simp [intOf];omega⟩
        · obtain rfl:j=m:=by omega
          obtain ⟨px,cx,rfl,_⟩:=own_form I.kr.1
          rw [←hl] at I
          have o0:=I.o0
          have o1:=I.o1
          have o2:=I.o2
          have o3:=I.o3
          have r0:=I.r0
          have r1:=I.r1
          have r2:=I.r2
          have r3:=I.r3
          have rf0:=I.rf 0
          have rf1:=I.rf 1
          have rf2:=I.rf 2
          have rf3:=I.rf 3
          by_cases hacc:Acc 0 kids j=[]
          · obtain rfl:l=0:=by rw [hl,hacc];rfl
            have hnt:nodeT 0 r f (Acc 0 kids j)=.mk 0 r 0 f (Acc 0 kids j):=by unfold nodeT;rw [if_pos hacc,hacc]
            have HNT:=Lib.hid hnt
            have HEnd:=Lib.hid I.end_
            clear I hacc hl hnt
            go_wp2_with fail
            go_wp2_with fail
            refine bodyPost_ret (by simp [results,Tryz.results22,go_sem,r0,r1,r2,r3];try rfl) rfl ?_
            exact ⟨_,rfl,by rw [HNT.out];exact HEnd.out.1,HEnd.out.2⟩
          · have hl1:1≤l:=by
              rw [hl]
              exact Nat.one_le_iff_ne_zero.2 (fun e=>hacc (List.eq_nil_of_length_eq_zero e))
            have hnt:nodeT 0 r f (Acc 0 kids j)=forceT D (.mk 0 r 0 f (Acc 0 kids j)):=by unfold nodeT;rw [if_neg hacc,HD.out]
            have HNT:=Lib.hid hnt
            have HFo:=Lib.hid (ForceD (h+1) _ wr _ (.mk 0 r 0 f (Acc 0 kids j)) D hD4 I.kd ⟨by omega,by omega,HDm.out j⟩ (by have:=HPl.out j;unfold pl;simp;omega))
            have HI:=Lib.hid (fun w (g:wr.grownBy w none)=>I.kept g)
            have hbig:=I.big
            clear I hacc hl hnt r0 r1 r2 r3 rf0 rf1 rf2 rf3
            go_wp2_with fail
            go_wp2_with (go_at_call 44;refine HFo.out.mono ?_;rintro e w8 ⟨v8,rfl,hk8,hg8⟩;obtain ⟨k8,d8,n8,f8,kids8,p8,cap8,q8,cq8,_,rfl⟩:=hk8.form;have r0:=(HI.out _ hg8).r0;have r1:=(HI.out _ hg8).r1;have r2:=(HI.out _ hg8).r2;have r3:=(HI.out _ hg8).r3;have rf0:=(HI.out _ hg8).rf 0;have rf1:=(HI.out _ hg8).rf 1;have rf2:=(HI.out _ hg8).rf 2;have rf3:=(HI.out _ hg8).rf 3;have HK8:=Lib.hid hk8;clear hk8)
            refine bodyPost_ret (by simp [results,Tryz.results22,go_sem,r0,r1,r2,r3];try rfl) rfl ?_
            have ks:∀ (w:World) (jj:Nat) (y:Value),Kept (Fr wr w8) w (w.setCell ⟨W.heap.size+1,jj,none⟩ y):=fun w jj y=>.set (fun hB=>absurd (show wr.heap.size≤W.heap.size+1 from hB.1) (by omega)) y
            have gs:∀ (w:World) (jj:Nat) (y:Value),W.grownBy w none→W.grownBy (w.setCell ⟨W.heap.size+1,jj,none⟩ y) none:=fun w jj y g=>gt_set_r g _ _ (Nat.le_succ _)
            exact ⟨_,rfl,by rw [HNT.out];exact ((((HK8.out.keep (ks _ _ _)).keep (ks _ _ _)).keep (ks _ _ _)).keep (ks _ _ _)).weak fun b hb=>⟨by have:=hb.1;omega,by simp [World.setCell];exact hb.2⟩,gs _ _ _ (gs _ _ _ (gs _ _ _ (gs _ _ _ (HI.out _ hg8).g)))⟩
  · rw [if_neg hin] at hK
    subst hK
    have t1:¬ k<0:=by omega
    have t2:¬ 6<k:=by omega
    clear hin
    go_enter Tryz.func22,Tryz.ntmps22
    go_wp2_with (first
      | (go_at_call 41;refine (HLf.out _).mono ?_;rintro e w' ⟨rfl,hw⟩;obtain rfl:=hw.symm))
    clear HLf
    have hpre:=Pre.of W _ (.int .i64 k) (.int .i64 d) (.slice p n cap) (.slice q m c2) k r 33 (gt_refl _ none)
    unfold W3 at hpre
    have I0:=Lib.hid (hpre.start0 h hfl.out)
    clear hpre
    go_loopw [5,55] (fun dm i wr=>∃ (j:Nat) (x:Value) (cs:List Value),i=.int .i64 j∧j≤m∧dm=.int .i64 ((dimsOf (Acc k kids j):Nat):Int)∧OutInv W wr h k r none 0 0 f x (Acc k kids j) cs) (fun _ i _=>m - (intOf i).toNat)
    case atStart=>exact ⟨0,.slice none 0 0,[],rfl,by omega,by rw [HA0.out];rfl,by rw [HA0.out];exact I0.out⟩
    case round =>
      obtain ⟨j,x,cs,rfl,hj,rfl,I⟩:=hrel
      rename World=>wr
      clear I0
      obtain ⟨D,hD⟩ : ∃ D,D=dimsOf (Acc k kids j):=⟨_,rfl⟩
      have hD4:D<4:=by rw [hD];exact dimsOf_lt _
      have HD:=Lib.hid hD
      rw [←hD]
      clear hD
      obtain ⟨l,hl⟩ : ∃ l,l=(Acc k kids j).length:=⟨_,rfl⟩
      have hlj:l≤2000:=by have:=HAL.out j hj;omega
      by_cases hjm:j<m
      · obtain ⟨t,ht⟩:=HG.out j hjm
        obtain ⟨a,rfl⟩ : ∃ a,q=some a:=by
          cases q with
          | none=>have:=hqn.out rfl;omega
          | some a=>exact ⟨a,rfl⟩
        obtain ⟨c0,c1,c2,c3,kk,q0,q1,q2,q3⟩:=HKid.out wr I.g a rfl j t ht
        obtain ⟨k1,d1,n1,f1,kids1,p1,cap1,q1',cq1,_,rfl,rfl,rfl,rfl⟩:=kk.form4
        generalize kids1.length=m1 at kk q3
        have HK5:=Lib.hid (fun w (g:wr.grownBy w none)=>HIH.out w _ j t ht (kk.mono g))
        have hAs:=Lib.hid (HA.out j t ht)
        have hdm:=dims_new t
        obtain ⟨px,cx,rfl,_⟩:=own_form I.kr.1
        have HI:=Lib.hid (fun w (g:wr.grownBy w none)=>I.kept g)
        rw [←hl] at HI
        have HL:=Lib.hid hl
        have hbig:=I.big
        have HX7:Hid (∀ w6 w7,wr.grownBy w6 none→w6.grownBy w7 (Value.slice px l cx).ownBlock→w7.cell? ⟨W.heap.size+1+1,3,none⟩=some (.slice px l cx)∧w7.frozen? ⟨W.heap.size+1+1,3,none⟩=false):=fun w6 w7 g g'=>by
          have hi:=HI.out w6 g
          have hne:some (W.heap.size+1+1)≠(Value.slice px l cx).ownBlock:=fun e=>by have:=(hi.kr.1.lt _ e.symm).1;omega
          exact ⟨g'.cell hi.o3 hne,by rw [World.frozen?_of_block (g'.block (W.heap.size+1+1) (by have:=hi.big;omega) hne)];exact hi.of_ 3⟩
        have HXM:Hid (∀ (w6 w7:World) (b o:Nat) (v:Value),wr.heap.size≤b→w6.grownBy w7 (Value.slice px l cx).ownBlock→w6.cell? ⟨b,o,none⟩=some v→w7.cell? ⟨b,o,none⟩=some v):=fun w6 w7 b o v hb g' hv=>by
          have hi:=HI.out wr (gt_refl _ _)
          exact g'.cell hv (fun e=>absurd (show b<wr.heap.size from (hi.kr.1.lt _ e.symm).2) (by omega))
        have HOw:Hid (∀ w,wr.grownBy w none→w.ownsRow (W.heap.size+3) 33 4 (.slice px l cx) l cs):=fun w g=>by
          have hh:=(HI.out w g).kr.1
          rw [←hl] at hh
          exact hh
        have HSnoc:Hid (∀ (w1 w2 w3 w4:World) (d0 d1 d2 d3:Value) (gg cap:Nat),wr.grownBy w1 none→w1.grownBy w2 none→w2.grownBy w3 none→KD (Fr w1 w2) h w2 (.agg #[d0,d1,d2,d3]) (newT t)→w4.ownsRow (W.heap.size+3) 33 4 (.slice (some ⟨gg,0,none⟩) (l+1) cap) (l+1) (cs++[d0,d1,d2,d3])→w3.grownBy w4 (Value.slice px l cx).ownBlock→((Value.slice px l cx).ownBlock=some gg∨gg=w3.heap.size) →
            OutInv W (w4.setCell ⟨W.heap.size+1+1,3,none⟩ (.slice (some ⟨gg,0,none⟩) (l+1) cap)) h k r none 0 0 f (.slice (some ⟨gg,0,none⟩) (l+1) cap) (Acc k kids j++[newT t]) (cs++[d0,d1,d2,d3])):=fun w1 w2 w3 w4 d0 d1 d2 d3 gg cap g1 g2 g3 hk hown g4 hg=>by
          have hh:=(HI.out wr (gt_refl _ _)).snoc g1 g2 g3 hk (by rw [←hl];exact hown) g4 hg
          rw [←hl] at hh
          exact hh
        clear kk ht I hl
        have G5:=World.grownBy_alloc wr (.cells #[.int .i64 k1,.int .i64 d1,.slice p1 n1 cap1,.slice q1' m1 cq1] 33) none
        have HG5:=Lib.hid G5
        clear G5
        go_wp2_with (first
          | (go_at_call 22;refine (HK5.out _ HG5.out).mono ?_;rintro e w5 ⟨v5,rfl,hk5,hg5⟩;obtain ⟨k6,d6,n6,f6,kids6,p6,cap6,q6,cq6,ht6,rfl⟩:=hk5.form))
        rw [ht6] at hdm
        obtain ⟨hd60,hd64,_⟩:=hdm
        obtain ⟨r6,rfl⟩:=Int.eq_ofNat_of_zero_le hd60
        have G6:=gt_trans HG5.out hg5 (.inl rfl)
        have hs5:wr.heap.size<w5.heap.size:=by have:=hg5.size;simp at this;omega
        have hkeep:keepT k (newT t)=(decide (kidOf k<0)||decide (kidOf k=k6)):=by rw [ht6];rfl
        have hdim:dimR (newT t)=r6:=by rw [ht6];rfl
        have HKeep:=Lib.hid hkeep
        have HDim:=Lib.hid hdim
        have Hk5:=Lib.hid hk5
        clear ht6 hkeep hdim hk5
        generalize kids6.length=m6 at Hk5 ⊢
        have o0:=(HI.out _ G6).o0
        have hz5:W.heap.size+1+1<w5.heap.size:=by omega
        revert HKO HKeep
        generalize kidOf k=κ
        intro HKO HKeep
        by_cases hκ:κ<0
        · have hkt:keepT k (newT t)=true:=by rw [HKeep.out];simp [hκ]
          rw [if_pos hkt] at hAs
          clear hkt HKeep
          go_quiet ((go_at_call 43;exact Calls.quiet_of_same (HKO.out _)))
          have HW6:=Lib.hid (gt_drewN_r (gt_alloc_r (gt_refl w5 none) (.cells #[.int .i64 k6,.int .i64 r6,.slice p6 n6 cap6,.slice q6 m6 cq6] 33)) nq)
          have y0:=cell_new_at' w5 #[.int .i64 k6,.int .i64 r6,.slice p6 n6 cap6,.slice q6 m6 cq6] 33 w5.heap.size
          have z0:((w5.alloc (.cells #[.int .i64 k6,.int .i64 r6,.slice p6 n6 cap6,.slice q6 m6 cq6] 33)).drewN nq).cell? ⟨w5.heap.size,0,none⟩=some (.int .i64 k6):=y0 0 rfl
          have z1:((w5.alloc (.cells #[.int .i64 k6,.int .i64 r6,.slice p6 n6 cap6,.slice q6 m6 cq6] 33)).drewN nq).cell? ⟨w5.heap.size,1,none⟩=some (.int .i64 r6):=y0 1 rfl
          have z2:((w5.alloc (.cells #[.int .i64 k6,.int .i64 r6,.slice p6 n6 cap6,.slice q6 m6 cq6] 33)).drewN nq).cell? ⟨w5.heap.size,2,none⟩=some (.slice p6 n6 cap6):=y0 2 rfl
          have z3:((w5.alloc (.cells #[.int .i64 k6,.int .i64 r6,.slice p6 n6 cap6,.slice q6 m6 cq6] 33)).drewN nq).cell? ⟨w5.heap.size,3,none⟩=some (.slice q6 m6 cq6):=y0 3 rfl
          have hs6:w5.heap.size<((w5.alloc (.cells #[.int .i64 k6,.int .i64 r6,.slice p6 n6 cap6,.slice q6 m6 cq6] 33)).drewN nq).heap.size:=by simp [World.drewN]
          clear y0 o0
          revert HW6 z0 z1 z2 z3 hs6
          generalize (w5.alloc (.cells #[.int .i64 k6,.int .i64 r6,.slice p6 n6 cap6,.slice q6 m6 cq6] 33)).drewN nq=w6
          intro HW6 z0 z1 z2 z3 hs6
          have G7:=gt_trans G6 HW6.out (.inl rfl)
          have y3:=(HI.out _ G7).o3
          have hz6:W.heap.size+1+1<w6.heap.size:=by omega
          have hand:=and_small D r6 hD4 (by omega)
          go_wp2_with (at_builtin;refine app_cells2 (size:=4) (n:=l) (xs:=cs) (base:=W.heap.size+3) (W:=w6) rfl _ _ _ rfl Tryz.underlying31 (.agg #[.int .i64 0,.int .i64 0,.slice none 0 0,.slice none 0 0]) 64 infoG rfl (Nat.succ_pos 3) rfl rfl rfl _ (HOw.out _ (gt_alloc_r G7 _)) rfl (one4 _ _ _ _ _ _ _ _) (Nat.succ_pos 0) (by have:=G7.size;simp;omega) (by omega) (by omega) ?_;intro gg cap7 w7 hown7 hg7 hat7;obtain ⟨u3,uf⟩:=HX7.out _ _ (gt_alloc_r G7 _) hg7;have u1:=HXM.out _ _ w5.heap.size 1 _ (by omega) hg7 ((World.grownBy_alloc w6 _ none).cell z1 (by simp));have HFin:=Lib.hid (HSnoc.out _ _ _ _ _ _ _ _ _ _ HG5.out hg5 (gt_alloc_r HW6.out _) Hk5.out hown7 hg7 hat7);clear hown7 hg7 hat7)
          exact ⟨⟨j+1,_,_,by go_num,by omega,by rw [hAs.out,dimsOf_snoc,HDim.out,HD.out],by rw [hAs.out];exact HFin.out⟩,by simp [intOf];omega⟩
        · have hκB:decide (κ<0)=false:=by simpa using hκ
          by_cases hke:κ=k6
          · have hkt:keepT k (newT t)=true:=by rw [HKeep.out];simp [hke]
            rw [if_pos hkt] at hAs
            have hkB:(κ==k6)=true:=by simpa using hke
            clear hkt HKeep hke
            go_quiet ((go_at_call 43;exact Calls.quiet_of_same (HKO.out _)))
            have HW6:=Lib.hid (gt_drewN_r (gt_alloc_r (gt_refl w5 none) (.cells #[.int .i64 k6,.int .i64 r6,.slice p6 n6 cap6,.slice q6 m6 cq6] 33)) nq)
            have y0:=cell_new_at' w5 #[.int .i64 k6,.int .i64 r6,.slice p6 n6 cap6,.slice q6 m6 cq6] 33 w5.heap.size
            have z0:((w5.alloc (.cells #[.int .i64 k6,.int .i64 r6,.slice p6 n6 cap6,.slice q6 m6 cq6] 33)).drewN nq).cell? ⟨w5.heap.size,0,none⟩=some (.int .i64 k6):=y0 0 rfl
            have z1:((w5.alloc (.cells #[.int .i64 k6,.int .i64 r6,.slice p6 n6 cap6,.slice q6 m6 cq6] 33)).drewN nq).cell? ⟨w5.heap.size,1,none⟩=some (.int .i64 r6):=y0 1 rfl
            have z2:((w5.alloc (.cells #[.int .i64 k6,.int .i64 r6,.slice p6 n6 cap6,.slice q6 m6 cq6] 33)).drewN nq).cell? ⟨w5.heap.size,2,none⟩=some (.slice p6 n6 cap6):=y0 2 rfl
            have z3:((w5.alloc (.cells #[.int .i64 k6,.int .i64 r6,.slice p6 n6 cap6,.slice q6 m6 cq6] 33)).drewN nq).cell? ⟨w5.heap.size,3,none⟩=some (.slice q6 m6 cq6):=y0 3 rfl
            have hs6:w5.heap.size<((w5.alloc (.cells #[.int .i64 k6,.int .i64 r6,.slice p6 n6 cap6,.slice q6 m6 cq6] 33)).drewN nq).heap.size:=by simp [World.drewN]
            clear y0 o0
            revert HW6 z0 z1 z2 z3 hs6
            generalize (w5.alloc (.cells #[.int .i64 k6,.int .i64 r6,.slice p6 n6 cap6,.slice q6 m6 cq6] 33)).drewN nq=w6
            intro HW6 z0 z1 z2 z3 hs6
            have G7:=gt_trans G6 HW6.out (.inl rfl)
            have y3:=(HI.out _ G7).o3
            have hz6:W.heap.size+1+1<w6.heap.size:=by omega
            have hand:=and_small D r6 hD4 (by omega)
            go_wp2_with (at_builtin;refine app_cells2 (size:=4) (n:=l) (xs:=cs) (base:=W.heap.size+3) (W:=w6) rfl _ _ _ rfl Tryz.underlying31 (.agg #[.int .i64 0,.int .i64 0,.slice none 0 0,.slice none 0 0]) 64 infoG rfl (Nat.succ_pos 3) rfl rfl rfl _ (HOw.out _ (gt_alloc_r G7 _)) rfl (one4 _ _ _ _ _ _ _ _) (Nat.succ_pos 0) (by have:=G7.size;simp;omega) (by omega) (by omega) ?_;intro gg cap7 w7 hown7 hg7 hat7;obtain ⟨u3,uf⟩:=HX7.out _ _ (gt_alloc_r G7 _) hg7;have u1:=HXM.out _ _ w5.heap.size 1 _ (by omega) hg7 ((World.grownBy_alloc w6 _ none).cell z1 (by simp));have HFin:=Lib.hid (HSnoc.out _ _ _ _ _ _ _ _ _ _ HG5.out hg5 (gt_alloc_r HW6.out _) Hk5.out hown7 hg7 hat7);clear hown7 hg7 hat7)
            exact ⟨⟨j+1,_,_,by go_num,by omega,by rw [hAs.out,dimsOf_snoc,HDim.out,HD.out],by rw [hAs.out];exact HFin.out⟩,by simp [intOf];omega⟩
          · have hkt:¬ keepT k (newT t)=true:=by rw [HKeep.out];simp [hκB,hke]
            rw [if_neg hkt,List.append_nil] at hAs
            have hkB:(κ==k6)=false:=by simpa using hke
            clear hkt HKeep hke
            go_quiet ((go_at_call 43;exact Calls.quiet_of_same (HKO.out _)))
            go_wp2_with fail
            exact ⟨⟨j+1,_,cs,by go_num,by omega,by rw [hAs.out,HD.out],by rw [hAs.out];exact HI.out _ (gt_drewN_r (gt_alloc_r G6 _) _)⟩,by simp [intOf];omega⟩
      · obtain rfl:j=m:=by omega
        obtain ⟨px,cx,rfl,_⟩:=own_form I.kr.1
        rw [←hl] at I
        have o0:=I.o0
        have o1:=I.o1
        have o2:=I.o2
        have o3:=I.o3
        have r0:=I.r0
        have r1:=I.r1
        have r2:=I.r2
        have r3:=I.r3
        have rf0:=I.rf 0
        have rf1:=I.rf 1
        have rf2:=I.rf 2
        have rf3:=I.rf 3
        by_cases hacc:Acc k kids j=[]
        · obtain rfl:l=0:=by rw [hl,hacc];rfl
          have hnt:nodeT k r f (Acc k kids j)=.mk k r 0 f (Acc k kids j):=by unfold nodeT;rw [if_pos hacc,hacc]
          have HNT:=Lib.hid hnt
          have HEnd:=Lib.hid I.end_
          clear I hacc hl hnt
          go_wp2_with fail
          go_wp2_with fail
          refine bodyPost_ret (by simp [results,Tryz.results22,go_sem,r0,r1,r2,r3];try rfl) rfl ?_
          exact ⟨_,rfl,by rw [HNT.out];exact HEnd.out.1,HEnd.out.2⟩
        · have hl1:1≤l:=by
            rw [hl]
            exact Nat.one_le_iff_ne_zero.2 (fun e=>hacc (List.eq_nil_of_length_eq_zero e))
          have hnt:nodeT k r f (Acc k kids j)=forceT D (.mk k r 0 f (Acc k kids j)):=by unfold nodeT;rw [if_neg hacc,HD.out]
          have HNT:=Lib.hid hnt
          have HFo:=Lib.hid (ForceD (h+1) _ wr _ (.mk k r 0 f (Acc k kids j)) D hD4 I.kd ⟨by omega,by omega,HDm.out j⟩ (by have:=HPl.out j;unfold pl;simp;omega))
          have HI:=Lib.hid (fun w (g:wr.grownBy w none)=>I.kept g)
          have hbig:=I.big
          clear I hacc hl hnt r0 r1 r2 r3 rf0 rf1 rf2 rf3
          go_wp2_with fail
          go_wp2_with (go_at_call 44;refine HFo.out.mono ?_;rintro e w8 ⟨v8,rfl,hk8,hg8⟩;obtain ⟨k8,d8,n8,f8,kids8,p8,cap8,q8,cq8,_,rfl⟩:=hk8.form;have r0:=(HI.out _ hg8).r0;have r1:=(HI.out _ hg8).r1;have r2:=(HI.out _ hg8).r2;have r3:=(HI.out _ hg8).r3;have rf0:=(HI.out _ hg8).rf 0;have rf1:=(HI.out _ hg8).rf 1;have rf2:=(HI.out _ hg8).rf 2;have rf3:=(HI.out _ hg8).rf 3;have HK8:=Lib.hid hk8;clear hk8)
          refine bodyPost_ret (by simp [results,Tryz.results22,go_sem,r0,r1,r2,r3];try rfl) rfl ?_
          have ks:∀ (w:World) (jj:Nat) (y:Value),Kept (Fr wr w8) w (w.setCell ⟨W.heap.size+1,jj,none⟩ y):=fun w jj y=>.set (fun hB=>absurd (show wr.heap.size≤W.heap.size+1 from hB.1) (by omega)) y
          have gs:∀ (w:World) (jj:Nat) (y:Value),W.grownBy w none→W.grownBy (w.setCell ⟨W.heap.size+1,jj,none⟩ y) none:=fun w jj y g=>gt_set_r g _ _ (Nat.le_succ _)
          exact ⟨_,rfl,by rw [HNT.out];exact ((((HK8.out.keep (ks _ _ _)).keep (ks _ _ _)).keep (ks _ _ _)).keep (ks _ _ _)).weak fun b hb=>⟨by have:=hb.1;omega,by simp [World.setCell];exact hb.2⟩,gs _ _ _ (gs _ _ _ (gs _ _ _ (gs _ _ _ (HI.out _ hg8).g)))⟩
end
end Go.Proofs.YtlpaecafpbbbkaaGreatDoor
