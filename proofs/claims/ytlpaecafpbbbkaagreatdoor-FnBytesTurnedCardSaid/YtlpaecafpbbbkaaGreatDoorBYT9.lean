/- The package's containers, of another type of coordinates. -/
import Derived.Test.YtlpaecafpbbbkaaGreatDoorBYT8
set_option linter.unusedVariables false
set_option linter.unusedSimpArgs false
set_option maxRecDepth 100000
set_option maxHeartbeats 24000000
namespace Go.Proofs.YtlpaecafpbbbkaaGreatDoor
section
open Go.RowKit
theorem infoPg:(Tryz.prog.info? 93).map (fun i=>(i.zero,i.size,i.bytes))=some (some (.agg #[.int .u8 0,.slice none 0 0]),2,32):=by kernel_rfl
theorem PgForce_of {D:(Nat→Prop)→World→Value→Raw→Prop} (K:DK D) (hfm:∀ {B:Nat→Prop} {W:World} {v:Value} {t:Raw},D B W v t→∃ (r:Nat) (p:Option Addr) (n c:Nat),v=.agg #[.int .u8 r,.slice p n c]) (HE:FC D 128):FC (DNode 3 D) 108:=by
  intro B W v t r' hd hok hr' hB
  obtain ⟨r,f,kids,p,c,rfl,hr,rfl,hc1,hc2,hrow⟩:=hd
  obtain ⟨n,hn⟩ : ∃ n,kids.length=n:=⟨_,rfl⟩
  have hn2:n≤2000:=by rw [←hn];unfold okT at hok;exact hok.2.1
  have hoks:okTs kids:=by unfold okT at hok;exact hok.2.2
  rw [hn] at hc1 ⊢
  rw [force_node]
  obtain ⟨i0,hi,hzz⟩:=Option.map_eq_some_iff.1 infoPg
  simp only [Prod.mk.injEq] at hzz
  have HI:=Lib.hid hzz
  have HFM:Hid (∀ (B:Nat→Prop) (W:World) (v:Value) (t:Raw),D B W v t→∃ (r:Nat) (p:Option Addr) (n c:Nat),v=.agg #[.int .u8 r,.slice p n c]):=fun B W v t h=>hfm h
  have HG:=Lib.hid (gt_alloc_r (World.grownBy_alloc W (.cells #[.slice p n c,.int .u8 r] 97) none) (.cells #[.slice none 0 0,.int .u8 0] 97))
  have HC:Hid (∀ w,((W.alloc (.cells #[.slice p n c,.int .u8 r] 97)).alloc (.cells #[.slice none 0 0,.int .u8 0] 97)).grownBy w none→w.cell? ⟨W.heap.size,0,none⟩=some (.slice p n c)):=fun w g=>g.cell (by simp) (by simp)
  have HC2:Hid (∀ w,((W.alloc (.cells #[.slice p n c,.int .u8 r] 97)).alloc (.cells #[.slice none 0 0,.int .u8 0] 97)).grownBy w none→w.cell? ⟨W.heap.size+1,0,none⟩=some (.slice none 0 0)∧w.cell? ⟨W.heap.size+1,1,none⟩=some (.int .u8 0)∧w.frozen? ⟨W.heap.size+1,0,none⟩=false∧w.frozen? ⟨W.heap.size+1,1,none⟩=false):=fun w g=>by
    have hb:=g.block (W.heap.size+1) (by simp) (by simp)
    refine ⟨g.cell (by simp) (by simp),g.cell (by simp) (by simp),?_,?_⟩ <;> (rw [World.frozen?_of_block hb];simp)
  have HR:Hid (∀ w,W.grownBy w none→∀ i,i<n→∃ t a c0 c1,kids[i]?=some t∧p=some a∧w.cell? (a.add (i*2))=some c0∧w.cell? ⟨(a.add (i*2)).block,(a.add (i*2)).off+1,none⟩=some c1∧D B w (.agg #[c0,c1]) t):=fun w g i hi=>by
    obtain ⟨a,ha⟩:=hrow.1 (by omega)
    obtain ⟨c0,c1,h0,h1,hd⟩:=(hrow.2 a ha).2 i (kids[i]'(by omega)) (List.getElem?_eq_getElem (by omega))
    exact ⟨kids[i]'(by omega),a,c0,c1,List.getElem?_eq_getElem (by omega),ha,g.cell h0 (by simp),g.cell h1 (by simp),K.mono g hd⟩
  have HF:Hid (∀ w,W.grownBy w none→∀ v t i,kids[i]?=some t→D B w v t→Calls Tryz.prog 128 #[v,.int .u8 r'] w (FPost D B w (forceT r' t))):=fun w g v t i hi h=>HE B w v t r' h (okTs_mem hoks hi) hr' (fun b hb=>Nat.lt_of_lt_of_le (hB b hb) g.size)
  have hgs:∀ (w:World) (b jj:Nat) (y:Value),W.heap.size+2≤b→((W.alloc (.cells #[.slice p n c,.int .u8 r] 97)).alloc (.cells #[.slice none 0 0,.int .u8 0] 97)).grownBy w none→((W.alloc (.cells #[.slice p n c,.int .u8 r] 97)).alloc (.cells #[.slice none 0 0,.int .u8 0] 97)).grownBy (w.setCell ⟨b,jj,none⟩ y) none:=fun w b jj y hb g=>gt_set_r g _ _ (by simpa using hb)
  have HGs:=Lib.hid hgs
  have hput:Hid (∀ (wr w2:World) k cs t c0 c1,k<n→kids[k]?=some t→((W.alloc (.cells #[.slice p n c,.int .u8 r] 97)).alloc (.cells #[.slice none 0 0,.int .u8 0] 97)).grownBy wr none→RowS D 93 (W.heap.size+2) B wr (.slice (some ⟨W.heap.size+2,0,none⟩) n n) n (fun i=>if i<k then (forceTs r' kids)[i]? else none) cs→wr.grownBy w2 none→D (fun b=>B b∨Fr wr w2 b) w2 (.agg #[c0,c1]) (forceT r' t) →
      RowS D 93 (W.heap.size+2) B ((w2.setCell ⟨W.heap.size+2,k*2,none⟩ c0).setCell ⟨W.heap.size+2,k*2+1,none⟩ c1) (.slice (some ⟨W.heap.size+2,0,none⟩) n n) n (fun i=>if i<k+1 then (forceTs r' kids)[i]? else none) ((cs.set (k*2) c0).set (k*2+1) c1)):=fun wr w2 k cs t c0 c1 hk ht g h g2 hd=>by
    have hlt:W.heap.size+2<wr.heap.size:=(h.1.lt _ rfl).2
    refine (RowS.put K (h.kept K g2) k hk (K.weak (fun b hb=>?_) hd)).sel (fun i t' hi=>?_)
    · rcases hb with hb | hb
      · exact ⟨.inl hb,fun e=>by have:=hB b hb;omega⟩
      · exact ⟨.inr ⟨by have:=hb.1;omega,hb.2⟩,fun e=>by have:=hb.1;omega⟩
    · show (if i=k then some (forceT r' t) else if i<k then _ else none)=some t'
      have hi':(if i<k+1 then (forceTs r' kids)[i]? else none)=some t':=hi
      by_cases hik:i=k
      · subst hik
        rw [if_pos (by omega),forceTs_get,ht] at hi'
        rw [if_pos rfl];exact hi'
      · rw [if_neg hik]
        by_cases hl:i<k
        · rw [if_pos (by omega)] at hi';rw [if_pos hl];exact hi'
        · rw [if_neg (by omega)] at hi';cases hi'
  have hcell:Hid (∀ (w:World) k cs (s:Nat→Option Raw),k<n→RowS D 93 (W.heap.size+2) B w (.slice (some ⟨W.heap.size+2,0,none⟩) n n) n s cs→(∃ v,w.cell? ⟨W.heap.size+2,k*2,none⟩=some v)∧(∃ v,w.cell? ⟨W.heap.size+2,k*2+1,none⟩=some v)∧∀ j,w.frozen? ⟨W.heap.size+2,j,none⟩=false):=fun w k cs s hk h=>by
    have hl:cs.length=n*2:=h.1.1
    have key:∀ o,o<2→∃ v,w.cell? ⟨W.heap.size+2,k*2+o,none⟩=some v:=fun o h6=>by
      rw [h.1.cellAt _ (by omega)]
      exact ⟨_,List.getElem?_eq_getElem (by omega)⟩
    exact ⟨key 0 (by omega),key 1 (by omega),fun j=>h.1.frozenAt j⟩
  have hfin:Hid (∀ (w:World) cs,((W.alloc (.cells #[.slice p n c,.int .u8 r] 97)).alloc (.cells #[.slice none 0 0,.int .u8 0] 97)).grownBy w none→RowS D 93 (W.heap.size+2) B w (.slice (some ⟨W.heap.size+2,0,none⟩) n n) n (fun i=>if i<n then (forceTs r' kids)[i]? else none) cs →
      FPost (DNode 3 D) B W (.mk 3 (r':Nat) 0 (fF r r' f) (forceTs r' kids)) (.returned (.agg #[.slice (some ⟨W.heap.size+2,0,none⟩) n n,.int .u8 r'])) ((w.setCell ⟨W.heap.size+1,0,none⟩ (.slice (some ⟨W.heap.size+2,0,none⟩) n n)).setCell ⟨W.heap.size+1,1,none⟩ (.int .u8 r'))):=fun w cs g h=>by
    have h1:RowS D 93 (W.heap.size+2) B w (.slice (some ⟨W.heap.size+2,0,none⟩) n n) (forceTs r' kids).length (fun i=>(forceTs r' kids)[i]?) cs:=by
      rw [forceTs_len,hn]
      exact h.sel fun i t hi=>by
        have:=(List.getElem?_eq_some_iff.1 hi).1
        rw [forceTs_len,hn] at this
        show (if i<n then _ else none)=_
        rw [if_pos this];exact hi
    have hs:=g.size
    have nB:¬ B (W.heap.size+1):=fun h=>by have:=hB _ h;omega
    have h2:=(h1.set K (q:=⟨W.heap.size+1,0,none⟩) (by show W.heap.size+1<_;omega) nB (.slice (some ⟨W.heap.size+2,0,none⟩) n n)).set K (q:=⟨W.heap.size+1,1,none⟩) (by show W.heap.size+1<_;omega) nB (.int .u8 r')
    have hsz:((w.setCell ⟨W.heap.size+1,0,none⟩ (.slice (some ⟨W.heap.size+2,0,none⟩) n n)).setCell ⟨W.heap.size+1,1,none⟩ (.int .u8 r')).heap.size=w.heap.size:=by simp [World.setCell]
    have hl:(forceTs r' kids).length=n:=by rw [forceTs_len,hn]
    refine ⟨_,rfl,⟨r',_,_,some ⟨W.heap.size+2,0,none⟩,n,rfl,hr',by rw [hl],by omega,by unfold maxLen;omega,h2.row K (by rw [hl]) (fun b hb=>.inl hb) (fun b h1 h2=>.inr ⟨by omega,h2⟩)⟩,gt_set_r (gt_set_r (gt_trans HG.out g (.inl rfl)) _ _ (by show W.heap.size≤W.heap.size+1;omega)) _ _ (by show W.heap.size≤W.heap.size+1;omega)⟩
  clear hrow hzz hgs hok hoks hfm HE hB hc1 hc2
  go_enter Tryz.func108,Tryz.ntmps108
  go_wp2_with (first
    | (at_make;refine wpList_make_full _ rfl _ _ _ rfl (W.heap.size+2) 93 i0 (.agg #[.int .u8 0,.slice none 0 0]) 2 Tryz.underlying95 hi HI.out.1 HI.out.2.1 .i64 .i64 _ _ n rfl rfl rfl rfl (by rw [HI.out.2.2];omega) (by unfold maxLen;omega) (by simp) ?_;intro w1 hown hg1;have hbox:=HC.out w1 hg1))
  obtain ⟨xs0,hxs0⟩ : ∃ xs0,xs0=(madeCells (Value.cells (.agg #[.int .u8 0,.slice none 0 0])) (n*2)).toList:=⟨_,rfl⟩
  rw [←hxs0] at hown
  clear hxs0
  clear hbox
  go_loopw [14] (fun i wr=>∃ (k:Nat) (cs:List Value),k≤n∧i=.int .i64 k∧((W.alloc (.cells #[.slice p n c,.int .u8 r] 97)).alloc (.cells #[.slice none 0 0,.int .u8 0] 97)).grownBy wr none∧RowS D 93 (W.heap.size+2) B wr (.slice (some ⟨W.heap.size+2,0,none⟩) n n) n (fun i=>if i<k then (forceTs r' kids)[i]? else none) cs) (fun i _=>n - (intOf i).toNat)
  case atStart=>exact ⟨0,xs0,by omega,rfl,hg1,by simpa using hown,fun i t h=>absurd h (by simp)⟩
  case round =>
    clear hown
    obtain ⟨k,cs,hk,rfl,Gr,hrow⟩:=hrel
    rename World=>wr
    have hbox:=HC.out wr Gr
    by_cases hkL:k<n
    · obtain ⟨t,a,c0,c1,hti,rfl,q0,q1,hd⟩:=HR.out wr (gt_trans HG.out Gr (.inl rfl)) k hkL
      obtain ⟨er,ep,en,ec,he⟩:=HFM.out _ _ _ _ hd
      simp only [Value.agg.injEq,Array.mk.injEq,List.cons.injEq,and_true] at he
      obtain ⟨rfl,rfl⟩:=he
      have HF1:=Lib.hid (HF.out wr (gt_trans HG.out Gr (.inl rfl)) _ t k hti hd)
      have HP1:=Lib.hid (fun w2 c0 c1=>hput.out wr w2 k cs t c0 c1 hkL hti Gr hrow)
      have HK1:Hid (∀ w,wr.grownBy w none→(∃ v,w.cell? ⟨W.heap.size+2,k*2,none⟩=some v)∧(∃ v,w.cell? ⟨W.heap.size+2,k*2+1,none⟩=some v)∧∀ j,w.frozen? ⟨W.heap.size+2,j,none⟩=false):=fun w g=>hcell.out w k cs _ hkL (hrow.kept K g)
      generalize forceT r' t=t2 at HF1 HP1
      clear hti hd hrow
      go_wp2_with (first
        | (go_at_call 128;refine (HF1.out).mono ?_;rintro e w2 ⟨v2,rfl,hd2,hg2⟩;obtain ⟨er2,ep2,en2,ec2,rfl⟩:=HFM.out _ _ _ _ hd2;have HD2:=Lib.hid (HP1.out w2 _ _ hg2 hd2);clear hd2;obtain ⟨⟨v0,x0⟩,⟨v1,x1⟩,xf⟩:=HK1.out _ hg2;have f0:=xf (k*2);have f1:=xf (k*2+1)))
      refine ⟨⟨k+1,_,by omega,by go_num,?_,HD2.out⟩,by simp [intOf];omega⟩
      exact HGs.out _ _ _ _ (Nat.le_refl _) (HGs.out _ _ _ _ (Nat.le_refl _) (gt_trans Gr hg2 (.inl rfl)))
    · obtain rfl:k=n:=by omega
      obtain ⟨x0,x1,f0,f1⟩:=HC2.out _ Gr
      go_wp2_with fail
      go_wp2_with fail
      refine bodyPost_ret (by simp [results,Tryz.results108,go_sem,x0,x1];try rfl) rfl ?_
      exact hfin.out _ _ Gr hrow
theorem infoMl:(Tryz.prog.info? 93).map (fun i=>(i.zero,i.size,i.bytes))=some (some (.agg #[.int .u8 0,.slice none 0 0]),2,32):=by kernel_rfl
theorem MlForce_of {D:(Nat→Prop)→World→Value→Raw→Prop} (K:DK D) (hfm:∀ {B:Nat→Prop} {W:World} {v:Value} {t:Raw},D B W v t→∃ (r:Nat) (p:Option Addr) (n c:Nat),v=.agg #[.int .u8 r,.slice p n c]) (HE:FC D 128):FC (DNode 5 D) 112:=by
  intro B W v t r' hd hok hr' hB
  obtain ⟨r,f,kids,p,c,rfl,hr,rfl,hc1,hc2,hrow⟩:=hd
  obtain ⟨n,hn⟩ : ∃ n,kids.length=n:=⟨_,rfl⟩
  have hn2:n≤2000:=by rw [←hn];unfold okT at hok;exact hok.2.1
  have hoks:okTs kids:=by unfold okT at hok;exact hok.2.2
  rw [hn] at hc1 ⊢
  rw [force_node]
  obtain ⟨i0,hi,hzz⟩:=Option.map_eq_some_iff.1 infoMl
  simp only [Prod.mk.injEq] at hzz
  have HI:=Lib.hid hzz
  have HFM:Hid (∀ (B:Nat→Prop) (W:World) (v:Value) (t:Raw),D B W v t→∃ (r:Nat) (p:Option Addr) (n c:Nat),v=.agg #[.int .u8 r,.slice p n c]):=fun B W v t h=>hfm h
  have HG:=Lib.hid (gt_alloc_r (World.grownBy_alloc W (.cells #[.slice p n c,.int .u8 r] 104) none) (.cells #[.slice none 0 0,.int .u8 0] 104))
  have HC:Hid (∀ w,((W.alloc (.cells #[.slice p n c,.int .u8 r] 104)).alloc (.cells #[.slice none 0 0,.int .u8 0] 104)).grownBy w none→w.cell? ⟨W.heap.size,0,none⟩=some (.slice p n c)):=fun w g=>g.cell (by simp) (by simp)
  have HC2:Hid (∀ w,((W.alloc (.cells #[.slice p n c,.int .u8 r] 104)).alloc (.cells #[.slice none 0 0,.int .u8 0] 104)).grownBy w none→w.cell? ⟨W.heap.size+1,0,none⟩=some (.slice none 0 0)∧w.cell? ⟨W.heap.size+1,1,none⟩=some (.int .u8 0)∧w.frozen? ⟨W.heap.size+1,0,none⟩=false∧w.frozen? ⟨W.heap.size+1,1,none⟩=false):=fun w g=>by
    have hb:=g.block (W.heap.size+1) (by simp) (by simp)
    refine ⟨g.cell (by simp) (by simp),g.cell (by simp) (by simp),?_,?_⟩ <;> (rw [World.frozen?_of_block hb];simp)
  have HR:Hid (∀ w,W.grownBy w none→∀ i,i<n→∃ t a c0 c1,kids[i]?=some t∧p=some a∧w.cell? (a.add (i*2))=some c0∧w.cell? ⟨(a.add (i*2)).block,(a.add (i*2)).off+1,none⟩=some c1∧D B w (.agg #[c0,c1]) t):=fun w g i hi=>by
    obtain ⟨a,ha⟩:=hrow.1 (by omega)
    obtain ⟨c0,c1,h0,h1,hd⟩:=(hrow.2 a ha).2 i (kids[i]'(by omega)) (List.getElem?_eq_getElem (by omega))
    exact ⟨kids[i]'(by omega),a,c0,c1,List.getElem?_eq_getElem (by omega),ha,g.cell h0 (by simp),g.cell h1 (by simp),K.mono g hd⟩
  have HF:Hid (∀ w,W.grownBy w none→∀ v t i,kids[i]?=some t→D B w v t→Calls Tryz.prog 128 #[v,.int .u8 r'] w (FPost D B w (forceT r' t))):=fun w g v t i hi h=>HE B w v t r' h (okTs_mem hoks hi) hr' (fun b hb=>Nat.lt_of_lt_of_le (hB b hb) g.size)
  have hgs:∀ (w:World) (b jj:Nat) (y:Value),W.heap.size+2≤b→((W.alloc (.cells #[.slice p n c,.int .u8 r] 104)).alloc (.cells #[.slice none 0 0,.int .u8 0] 104)).grownBy w none→((W.alloc (.cells #[.slice p n c,.int .u8 r] 104)).alloc (.cells #[.slice none 0 0,.int .u8 0] 104)).grownBy (w.setCell ⟨b,jj,none⟩ y) none:=fun w b jj y hb g=>gt_set_r g _ _ (by simpa using hb)
  have HGs:=Lib.hid hgs
  have hput:Hid (∀ (wr w2:World) k cs t c0 c1,k<n→kids[k]?=some t→((W.alloc (.cells #[.slice p n c,.int .u8 r] 104)).alloc (.cells #[.slice none 0 0,.int .u8 0] 104)).grownBy wr none→RowS D 93 (W.heap.size+2) B wr (.slice (some ⟨W.heap.size+2,0,none⟩) n n) n (fun i=>if i<k then (forceTs r' kids)[i]? else none) cs→wr.grownBy w2 none→D (fun b=>B b∨Fr wr w2 b) w2 (.agg #[c0,c1]) (forceT r' t) →
      RowS D 93 (W.heap.size+2) B ((w2.setCell ⟨W.heap.size+2,k*2,none⟩ c0).setCell ⟨W.heap.size+2,k*2+1,none⟩ c1) (.slice (some ⟨W.heap.size+2,0,none⟩) n n) n (fun i=>if i<k+1 then (forceTs r' kids)[i]? else none) ((cs.set (k*2) c0).set (k*2+1) c1)):=fun wr w2 k cs t c0 c1 hk ht g h g2 hd=>by
    have hlt:W.heap.size+2<wr.heap.size:=(h.1.lt _ rfl).2
    refine (RowS.put K (h.kept K g2) k hk (K.weak (fun b hb=>?_) hd)).sel (fun i t' hi=>?_)
    · rcases hb with hb | hb
      · exact ⟨.inl hb,fun e=>by have:=hB b hb;omega⟩
      · exact ⟨.inr ⟨by have:=hb.1;omega,hb.2⟩,fun e=>by have:=hb.1;omega⟩
    · show (if i=k then some (forceT r' t) else if i<k then _ else none)=some t'
      have hi':(if i<k+1 then (forceTs r' kids)[i]? else none)=some t':=hi
      by_cases hik:i=k
      · subst hik
        rw [if_pos (by omega),forceTs_get,ht] at hi'
        rw [if_pos rfl];exact hi'
      · rw [if_neg hik]
        by_cases hl:i<k
        · rw [if_pos (by omega)] at hi';rw [if_pos hl];exact hi'
        · rw [if_neg (by omega)] at hi';cases hi'
  have hcell:Hid (∀ (w:World) k cs (s:Nat→Option Raw),k<n→RowS D 93 (W.heap.size+2) B w (.slice (some ⟨W.heap.size+2,0,none⟩) n n) n s cs→(∃ v,w.cell? ⟨W.heap.size+2,k*2,none⟩=some v)∧(∃ v,w.cell? ⟨W.heap.size+2,k*2+1,none⟩=some v)∧∀ j,w.frozen? ⟨W.heap.size+2,j,none⟩=false):=fun w k cs s hk h=>by
    have hl:cs.length=n*2:=h.1.1
    have key:∀ o,o<2→∃ v,w.cell? ⟨W.heap.size+2,k*2+o,none⟩=some v:=fun o h6=>by
      rw [h.1.cellAt _ (by omega)]
      exact ⟨_,List.getElem?_eq_getElem (by omega)⟩
    exact ⟨key 0 (by omega),key 1 (by omega),fun j=>h.1.frozenAt j⟩
  have hfin:Hid (∀ (w:World) cs,((W.alloc (.cells #[.slice p n c,.int .u8 r] 104)).alloc (.cells #[.slice none 0 0,.int .u8 0] 104)).grownBy w none→RowS D 93 (W.heap.size+2) B w (.slice (some ⟨W.heap.size+2,0,none⟩) n n) n (fun i=>if i<n then (forceTs r' kids)[i]? else none) cs →
      FPost (DNode 5 D) B W (.mk 5 (r':Nat) 0 (fF r r' f) (forceTs r' kids)) (.returned (.agg #[.slice (some ⟨W.heap.size+2,0,none⟩) n n,.int .u8 r'])) ((w.setCell ⟨W.heap.size+1,0,none⟩ (.slice (some ⟨W.heap.size+2,0,none⟩) n n)).setCell ⟨W.heap.size+1,1,none⟩ (.int .u8 r'))):=fun w cs g h=>by
    have h1:RowS D 93 (W.heap.size+2) B w (.slice (some ⟨W.heap.size+2,0,none⟩) n n) (forceTs r' kids).length (fun i=>(forceTs r' kids)[i]?) cs:=by
      rw [forceTs_len,hn]
      exact h.sel fun i t hi=>by
        have:=(List.getElem?_eq_some_iff.1 hi).1
        rw [forceTs_len,hn] at this
        show (if i<n then _ else none)=_
        rw [if_pos this];exact hi
    have hs:=g.size
    have nB:¬ B (W.heap.size+1):=fun h=>by have:=hB _ h;omega
    have h2:=(h1.set K (q:=⟨W.heap.size+1,0,none⟩) (by show W.heap.size+1<_;omega) nB (.slice (some ⟨W.heap.size+2,0,none⟩) n n)).set K (q:=⟨W.heap.size+1,1,none⟩) (by show W.heap.size+1<_;omega) nB (.int .u8 r')
    have hsz:((w.setCell ⟨W.heap.size+1,0,none⟩ (.slice (some ⟨W.heap.size+2,0,none⟩) n n)).setCell ⟨W.heap.size+1,1,none⟩ (.int .u8 r')).heap.size=w.heap.size:=by simp [World.setCell]
    have hl:(forceTs r' kids).length=n:=by rw [forceTs_len,hn]
    refine ⟨_,rfl,⟨r',_,_,some ⟨W.heap.size+2,0,none⟩,n,rfl,hr',by rw [hl],by omega,by unfold maxLen;omega,h2.row K (by rw [hl]) (fun b hb=>.inl hb) (fun b h1 h2=>.inr ⟨by omega,h2⟩)⟩,gt_set_r (gt_set_r (gt_trans HG.out g (.inl rfl)) _ _ (by show W.heap.size≤W.heap.size+1;omega)) _ _ (by show W.heap.size≤W.heap.size+1;omega)⟩
  clear hrow hzz hgs hok hoks hfm HE hB hc1 hc2
  go_enter Tryz.func112,Tryz.ntmps112
  go_wp2_with (first
    | (at_make;refine wpList_make_full _ rfl _ _ _ rfl (W.heap.size+2) 93 i0 (.agg #[.int .u8 0,.slice none 0 0]) 2 Tryz.underlying95 hi HI.out.1 HI.out.2.1 .i64 .i64 _ _ n rfl rfl rfl rfl (by rw [HI.out.2.2];omega) (by unfold maxLen;omega) (by simp) ?_;intro w1 hown hg1;have hbox:=HC.out w1 hg1))
  obtain ⟨xs0,hxs0⟩ : ∃ xs0,xs0=(madeCells (Value.cells (.agg #[.int .u8 0,.slice none 0 0])) (n*2)).toList:=⟨_,rfl⟩
  rw [←hxs0] at hown
  clear hxs0
  clear hbox
  go_loopw [14] (fun i wr=>∃ (k:Nat) (cs:List Value),k≤n∧i=.int .i64 k∧((W.alloc (.cells #[.slice p n c,.int .u8 r] 104)).alloc (.cells #[.slice none 0 0,.int .u8 0] 104)).grownBy wr none∧RowS D 93 (W.heap.size+2) B wr (.slice (some ⟨W.heap.size+2,0,none⟩) n n) n (fun i=>if i<k then (forceTs r' kids)[i]? else none) cs) (fun i _=>n - (intOf i).toNat)
  case atStart=>exact ⟨0,xs0,by omega,rfl,hg1,by simpa using hown,fun i t h=>absurd h (by simp)⟩
  case round =>
    clear hown
    obtain ⟨k,cs,hk,rfl,Gr,hrow⟩:=hrel
    rename World=>wr
    have hbox:=HC.out wr Gr
    by_cases hkL:k<n
    · obtain ⟨t,a,c0,c1,hti,rfl,q0,q1,hd⟩:=HR.out wr (gt_trans HG.out Gr (.inl rfl)) k hkL
      obtain ⟨er,ep,en,ec,he⟩:=HFM.out _ _ _ _ hd
      simp only [Value.agg.injEq,Array.mk.injEq,List.cons.injEq,and_true] at he
      obtain ⟨rfl,rfl⟩:=he
      have HF1:=Lib.hid (HF.out wr (gt_trans HG.out Gr (.inl rfl)) _ t k hti hd)
      have HP1:=Lib.hid (fun w2 c0 c1=>hput.out wr w2 k cs t c0 c1 hkL hti Gr hrow)
      have HK1:Hid (∀ w,wr.grownBy w none→(∃ v,w.cell? ⟨W.heap.size+2,k*2,none⟩=some v)∧(∃ v,w.cell? ⟨W.heap.size+2,k*2+1,none⟩=some v)∧∀ j,w.frozen? ⟨W.heap.size+2,j,none⟩=false):=fun w g=>hcell.out w k cs _ hkL (hrow.kept K g)
      generalize forceT r' t=t2 at HF1 HP1
      clear hti hd hrow
      go_wp2_with (first
        | (go_at_call 128;refine (HF1.out).mono ?_;rintro e w2 ⟨v2,rfl,hd2,hg2⟩;obtain ⟨er2,ep2,en2,ec2,rfl⟩:=HFM.out _ _ _ _ hd2;have HD2:=Lib.hid (HP1.out w2 _ _ hg2 hd2);clear hd2;obtain ⟨⟨v0,x0⟩,⟨v1,x1⟩,xf⟩:=HK1.out _ hg2;have f0:=xf (k*2);have f1:=xf (k*2+1)))
      refine ⟨⟨k+1,_,by omega,by go_num,?_,HD2.out⟩,by simp [intOf];omega⟩
      exact HGs.out _ _ _ _ (Nat.le_refl _) (HGs.out _ _ _ _ (Nat.le_refl _) (gt_trans Gr hg2 (.inl rfl)))
    · obtain rfl:k=n:=by omega
      obtain ⟨x0,x1,f0,f1⟩:=HC2.out _ Gr
      go_wp2_with fail
      go_wp2_with fail
      refine bodyPost_ret (by simp [results,Tryz.results112,go_sem,x0,x1];try rfl) rfl ?_
      exact hfin.out _ _ Gr hrow
theorem infoMp:(Tryz.prog.info? 97).map (fun i=>(i.zero,i.size,i.bytes))=some (some (.agg #[.slice none 0 0,.int .u8 0]),2,32):=by kernel_rfl
theorem MpForce_of {D:(Nat→Prop)→World→Value→Raw→Prop} (K:DK D) (hfm:∀ {B:Nat→Prop} {W:World} {v:Value} {t:Raw},D B W v t→∃ (p:Option Addr) (n c r:Nat),v=.agg #[.slice p n c,.int .u8 r]) (HE:FC D 108):FC (DNode 6 D) 114:=by
  intro B W v t r' hd hok hr' hB
  obtain ⟨r,f,kids,p,c,rfl,hr,rfl,hc1,hc2,hrow⟩:=hd
  obtain ⟨n,hn⟩ : ∃ n,kids.length=n:=⟨_,rfl⟩
  have hn2:n≤2000:=by rw [←hn];unfold okT at hok;exact hok.2.1
  have hoks:okTs kids:=by unfold okT at hok;exact hok.2.2
  rw [hn] at hc1 ⊢
  rw [force_node]
  obtain ⟨i0,hi,hzz⟩:=Option.map_eq_some_iff.1 infoMp
  simp only [Prod.mk.injEq] at hzz
  have HI:=Lib.hid hzz
  have HFM:Hid (∀ (B:Nat→Prop) (W:World) (v:Value) (t:Raw),D B W v t→∃ (p:Option Addr) (n c r:Nat),v=.agg #[.slice p n c,.int .u8 r]):=fun B W v t h=>hfm h
  have HG:=Lib.hid (gt_alloc_r (World.grownBy_alloc W (.cells #[.slice p n c,.int .u8 r] 108) none) (.cells #[.slice none 0 0,.int .u8 0] 108))
  have HC:Hid (∀ w,((W.alloc (.cells #[.slice p n c,.int .u8 r] 108)).alloc (.cells #[.slice none 0 0,.int .u8 0] 108)).grownBy w none→w.cell? ⟨W.heap.size,0,none⟩=some (.slice p n c)):=fun w g=>g.cell (by simp) (by simp)
  have HC2:Hid (∀ w,((W.alloc (.cells #[.slice p n c,.int .u8 r] 108)).alloc (.cells #[.slice none 0 0,.int .u8 0] 108)).grownBy w none→w.cell? ⟨W.heap.size+1,0,none⟩=some (.slice none 0 0)∧w.cell? ⟨W.heap.size+1,1,none⟩=some (.int .u8 0)∧w.frozen? ⟨W.heap.size+1,0,none⟩=false∧w.frozen? ⟨W.heap.size+1,1,none⟩=false):=fun w g=>by
    have hb:=g.block (W.heap.size+1) (by simp) (by simp)
    refine ⟨g.cell (by simp) (by simp),g.cell (by simp) (by simp),?_,?_⟩ <;> (rw [World.frozen?_of_block hb];simp)
  have HR:Hid (∀ w,W.grownBy w none→∀ i,i<n→∃ t a c0 c1,kids[i]?=some t∧p=some a∧w.cell? (a.add (i*2))=some c0∧w.cell? ⟨(a.add (i*2)).block,(a.add (i*2)).off+1,none⟩=some c1∧D B w (.agg #[c0,c1]) t):=fun w g i hi=>by
    obtain ⟨a,ha⟩:=hrow.1 (by omega)
    obtain ⟨c0,c1,h0,h1,hd⟩:=(hrow.2 a ha).2 i (kids[i]'(by omega)) (List.getElem?_eq_getElem (by omega))
    exact ⟨kids[i]'(by omega),a,c0,c1,List.getElem?_eq_getElem (by omega),ha,g.cell h0 (by simp),g.cell h1 (by simp),K.mono g hd⟩
  have HF:Hid (∀ w,W.grownBy w none→∀ v t i,kids[i]?=some t→D B w v t→Calls Tryz.prog 108 #[v,.int .u8 r'] w (FPost D B w (forceT r' t))):=fun w g v t i hi h=>HE B w v t r' h (okTs_mem hoks hi) hr' (fun b hb=>Nat.lt_of_lt_of_le (hB b hb) g.size)
  have hgs:∀ (w:World) (b jj:Nat) (y:Value),W.heap.size+2≤b→((W.alloc (.cells #[.slice p n c,.int .u8 r] 108)).alloc (.cells #[.slice none 0 0,.int .u8 0] 108)).grownBy w none→((W.alloc (.cells #[.slice p n c,.int .u8 r] 108)).alloc (.cells #[.slice none 0 0,.int .u8 0] 108)).grownBy (w.setCell ⟨b,jj,none⟩ y) none:=fun w b jj y hb g=>gt_set_r g _ _ (by simpa using hb)
  have HGs:=Lib.hid hgs
  have hput:Hid (∀ (wr w2:World) k cs t c0 c1,k<n→kids[k]?=some t→((W.alloc (.cells #[.slice p n c,.int .u8 r] 108)).alloc (.cells #[.slice none 0 0,.int .u8 0] 108)).grownBy wr none→RowS D 97 (W.heap.size+2) B wr (.slice (some ⟨W.heap.size+2,0,none⟩) n n) n (fun i=>if i<k then (forceTs r' kids)[i]? else none) cs→wr.grownBy w2 none→D (fun b=>B b∨Fr wr w2 b) w2 (.agg #[c0,c1]) (forceT r' t) →
      RowS D 97 (W.heap.size+2) B ((w2.setCell ⟨W.heap.size+2,k*2,none⟩ c0).setCell ⟨W.heap.size+2,k*2+1,none⟩ c1) (.slice (some ⟨W.heap.size+2,0,none⟩) n n) n (fun i=>if i<k+1 then (forceTs r' kids)[i]? else none) ((cs.set (k*2) c0).set (k*2+1) c1)):=fun wr w2 k cs t c0 c1 hk ht g h g2 hd=>by
    have hlt:W.heap.size+2<wr.heap.size:=(h.1.lt _ rfl).2
    refine (RowS.put K (h.kept K g2) k hk (K.weak (fun b hb=>?_) hd)).sel (fun i t' hi=>?_)
    · rcases hb with hb | hb
      · exact ⟨.inl hb,fun e=>by have:=hB b hb;omega⟩
      · exact ⟨.inr ⟨by have:=hb.1;omega,hb.2⟩,fun e=>by have:=hb.1;omega⟩
    · show (if i=k then some (forceT r' t) else if i<k then _ else none)=some t'
      have hi':(if i<k+1 then (forceTs r' kids)[i]? else none)=some t':=hi
      by_cases hik:i=k
      · subst hik
        rw [if_pos (by omega),forceTs_get,ht] at hi'
        rw [if_pos rfl];exact hi'
      · rw [if_neg hik]
        by_cases hl:i<k
        · rw [if_pos (by omega)] at hi';rw [if_pos hl];exact hi'
        · rw [if_neg (by omega)] at hi';cases hi'
  have hcell:Hid (∀ (w:World) k cs (s:Nat→Option Raw),k<n→RowS D 97 (W.heap.size+2) B w (.slice (some ⟨W.heap.size+2,0,none⟩) n n) n s cs→(∃ v,w.cell? ⟨W.heap.size+2,k*2,none⟩=some v)∧(∃ v,w.cell? ⟨W.heap.size+2,k*2+1,none⟩=some v)∧∀ j,w.frozen? ⟨W.heap.size+2,j,none⟩=false):=fun w k cs s hk h=>by
    have hl:cs.length=n*2:=h.1.1
    have key:∀ o,o<2→∃ v,w.cell? ⟨W.heap.size+2,k*2+o,none⟩=some v:=fun o h6=>by
      rw [h.1.cellAt _ (by omega)]
      exact ⟨_,List.getElem?_eq_getElem (by omega)⟩
    exact ⟨key 0 (by omega),key 1 (by omega),fun j=>h.1.frozenAt j⟩
  have hfin:Hid (∀ (w:World) cs,((W.alloc (.cells #[.slice p n c,.int .u8 r] 108)).alloc (.cells #[.slice none 0 0,.int .u8 0] 108)).grownBy w none→RowS D 97 (W.heap.size+2) B w (.slice (some ⟨W.heap.size+2,0,none⟩) n n) n (fun i=>if i<n then (forceTs r' kids)[i]? else none) cs →
      FPost (DNode 6 D) B W (.mk 6 (r':Nat) 0 (fF r r' f) (forceTs r' kids)) (.returned (.agg #[.slice (some ⟨W.heap.size+2,0,none⟩) n n,.int .u8 r'])) ((w.setCell ⟨W.heap.size+1,0,none⟩ (.slice (some ⟨W.heap.size+2,0,none⟩) n n)).setCell ⟨W.heap.size+1,1,none⟩ (.int .u8 r'))):=fun w cs g h=>by
    have h1:RowS D 97 (W.heap.size+2) B w (.slice (some ⟨W.heap.size+2,0,none⟩) n n) (forceTs r' kids).length (fun i=>(forceTs r' kids)[i]?) cs:=by
      rw [forceTs_len,hn]
      exact h.sel fun i t hi=>by
        have:=(List.getElem?_eq_some_iff.1 hi).1
        rw [forceTs_len,hn] at this
        show (if i<n then _ else none)=_
        rw [if_pos this];exact hi
    have hs:=g.size
    have nB:¬ B (W.heap.size+1):=fun h=>by have:=hB _ h;omega
    have h2:=(h1.set K (q:=⟨W.heap.size+1,0,none⟩) (by show W.heap.size+1<_;omega) nB (.slice (some ⟨W.heap.size+2,0,none⟩) n n)).set K (q:=⟨W.heap.size+1,1,none⟩) (by show W.heap.size+1<_;omega) nB (.int .u8 r')
    have hsz:((w.setCell ⟨W.heap.size+1,0,none⟩ (.slice (some ⟨W.heap.size+2,0,none⟩) n n)).setCell ⟨W.heap.size+1,1,none⟩ (.int .u8 r')).heap.size=w.heap.size:=by simp [World.setCell]
    have hl:(forceTs r' kids).length=n:=by rw [forceTs_len,hn]
    refine ⟨_,rfl,⟨r',_,_,some ⟨W.heap.size+2,0,none⟩,n,rfl,hr',by rw [hl],by omega,by unfold maxLen;omega,h2.row K (by rw [hl]) (fun b hb=>.inl hb) (fun b h1 h2=>.inr ⟨by omega,h2⟩)⟩,gt_set_r (gt_set_r (gt_trans HG.out g (.inl rfl)) _ _ (by show W.heap.size≤W.heap.size+1;omega)) _ _ (by show W.heap.size≤W.heap.size+1;omega)⟩
  clear hrow hzz hgs hok hoks hfm HE hB hc1 hc2
  go_enter Tryz.func114,Tryz.ntmps114
  go_wp2_with (first
    | (at_make;refine wpList_make_full _ rfl _ _ _ rfl (W.heap.size+2) 97 i0 (.agg #[.slice none 0 0,.int .u8 0]) 2 Tryz.underlying106 hi HI.out.1 HI.out.2.1 .i64 .i64 _ _ n rfl rfl rfl rfl (by rw [HI.out.2.2];omega) (by unfold maxLen;omega) (by simp) ?_;intro w1 hown hg1;have hbox:=HC.out w1 hg1))
  obtain ⟨xs0,hxs0⟩ : ∃ xs0,xs0=(madeCells (Value.cells (.agg #[.slice none 0 0,.int .u8 0])) (n*2)).toList:=⟨_,rfl⟩
  rw [←hxs0] at hown
  clear hxs0
  clear hbox
  go_loopw [14] (fun i wr=>∃ (k:Nat) (cs:List Value),k≤n∧i=.int .i64 k∧((W.alloc (.cells #[.slice p n c,.int .u8 r] 108)).alloc (.cells #[.slice none 0 0,.int .u8 0] 108)).grownBy wr none∧RowS D 97 (W.heap.size+2) B wr (.slice (some ⟨W.heap.size+2,0,none⟩) n n) n (fun i=>if i<k then (forceTs r' kids)[i]? else none) cs) (fun i _=>n - (intOf i).toNat)
  case atStart=>exact ⟨0,xs0,by omega,rfl,hg1,by simpa using hown,fun i t h=>absurd h (by simp)⟩
  case round =>
    clear hown
    obtain ⟨k,cs,hk,rfl,Gr,hrow⟩:=hrel
    rename World=>wr
    have hbox:=HC.out wr Gr
    by_cases hkL:k<n
    · obtain ⟨t,a,c0,c1,hti,rfl,q0,q1,hd⟩:=HR.out wr (gt_trans HG.out Gr (.inl rfl)) k hkL
      obtain ⟨ep,en,ec,er,he⟩:=HFM.out _ _ _ _ hd
      simp only [Value.agg.injEq,Array.mk.injEq,List.cons.injEq,and_true] at he
      obtain ⟨rfl,rfl⟩:=he
      have HF1:=Lib.hid (HF.out wr (gt_trans HG.out Gr (.inl rfl)) _ t k hti hd)
      have HP1:=Lib.hid (fun w2 c0 c1=>hput.out wr w2 k cs t c0 c1 hkL hti Gr hrow)
      have HK1:Hid (∀ w,wr.grownBy w none→(∃ v,w.cell? ⟨W.heap.size+2,k*2,none⟩=some v)∧(∃ v,w.cell? ⟨W.heap.size+2,k*2+1,none⟩=some v)∧∀ j,w.frozen? ⟨W.heap.size+2,j,none⟩=false):=fun w g=>hcell.out w k cs _ hkL (hrow.kept K g)
      generalize forceT r' t=t2 at HF1 HP1
      clear hti hd hrow
      go_wp2_with (first
        | (go_at_call 108;refine (HF1.out).mono ?_;rintro e w2 ⟨v2,rfl,hd2,hg2⟩;obtain ⟨ep2,en2,ec2,er2,rfl⟩:=HFM.out _ _ _ _ hd2;have HD2:=Lib.hid (HP1.out w2 _ _ hg2 hd2);clear hd2;obtain ⟨⟨v0,x0⟩,⟨v1,x1⟩,xf⟩:=HK1.out _ hg2;have f0:=xf (k*2);have f1:=xf (k*2+1)))
      refine ⟨⟨k+1,_,by omega,by go_num,?_,HD2.out⟩,by simp [intOf];omega⟩
      exact HGs.out _ _ _ _ (Nat.le_refl _) (HGs.out _ _ _ _ (Nat.le_refl _) (gt_trans Gr hg2 (.inl rfl)))
    · obtain rfl:k=n:=by omega
      obtain ⟨x0,x1,f0,f1⟩:=HC2.out _ Gr
      go_wp2_with fail
      go_wp2_with fail
      refine bodyPost_ret (by simp [results,Tryz.results114,go_sem,x0,x1];try rfl) rfl ?_
      exact hfin.out _ _ Gr hrow
theorem infoGc:(Tryz.prog.info? 57).map (fun i=>(i.zero,i.size,i.bytes))=some (some (.agg #[.int .i64 0,.nilIface]),2,24):=by kernel_rfl
theorem GcForce_of {D:(Nat→Prop)→World→Value→Raw→Prop} (K:DK D) (hfm:∀ {B:Nat→Prop} {W:World} {v:Value} {t:Raw},D B W v t→∃ (k:Int) (ty b:Nat),v=.agg #[.int .i64 k,.iface ty (.pointer (some ⟨b,0,none⟩))]) (HE:FC D 170):FC (DNode 0 D) 116:=by
  intro B W v t r' hd hok hr' hB
  obtain ⟨r,f,kids,p,c,rfl,hr,rfl,hc1,hc2,hrow⟩:=hd
  obtain ⟨n,hn⟩ : ∃ n,kids.length=n:=⟨_,rfl⟩
  have hn2:n≤2000:=by rw [←hn];unfold okT at hok;exact hok.2.1
  have hoks:okTs kids:=by unfold okT at hok;exact hok.2.2
  rw [hn] at hc1 ⊢
  rw [force_node]
  obtain ⟨i0,hi,hzz⟩:=Option.map_eq_some_iff.1 infoGc
  simp only [Prod.mk.injEq] at hzz
  have HI:=Lib.hid hzz
  have HFM:Hid (∀ (B:Nat→Prop) (W:World) (v:Value) (t:Raw),D B W v t→∃ (k:Int) (ty b:Nat),v=.agg #[.int .i64 k,.iface ty (.pointer (some ⟨b,0,none⟩))]):=fun B W v t h=>hfm h
  have HG:=Lib.hid (gt_alloc_r (World.grownBy_alloc W (.cells #[.slice p n c,.int .u8 r] 112) none) (.cells #[.slice none 0 0,.int .u8 0] 112))
  have HC:Hid (∀ w,((W.alloc (.cells #[.slice p n c,.int .u8 r] 112)).alloc (.cells #[.slice none 0 0,.int .u8 0] 112)).grownBy w none→w.cell? ⟨W.heap.size,0,none⟩=some (.slice p n c)):=fun w g=>g.cell (by simp) (by simp)
  have HC2:Hid (∀ w,((W.alloc (.cells #[.slice p n c,.int .u8 r] 112)).alloc (.cells #[.slice none 0 0,.int .u8 0] 112)).grownBy w none→w.cell? ⟨W.heap.size+1,0,none⟩=some (.slice none 0 0)∧w.cell? ⟨W.heap.size+1,1,none⟩=some (.int .u8 0)∧w.frozen? ⟨W.heap.size+1,0,none⟩=false∧w.frozen? ⟨W.heap.size+1,1,none⟩=false):=fun w g=>by
    have hb:=g.block (W.heap.size+1) (by simp) (by simp)
    refine ⟨g.cell (by simp) (by simp),g.cell (by simp) (by simp),?_,?_⟩ <;> (rw [World.frozen?_of_block hb];simp)
  have HR:Hid (∀ w,W.grownBy w none→∀ i,i<n→∃ t a c0 c1,kids[i]?=some t∧p=some a∧w.cell? (a.add (i*2))=some c0∧w.cell? ⟨(a.add (i*2)).block,(a.add (i*2)).off+1,none⟩=some c1∧D B w (.agg #[c0,c1]) t):=fun w g i hi=>by
    obtain ⟨a,ha⟩:=hrow.1 (by omega)
    obtain ⟨c0,c1,h0,h1,hd⟩:=(hrow.2 a ha).2 i (kids[i]'(by omega)) (List.getElem?_eq_getElem (by omega))
    exact ⟨kids[i]'(by omega),a,c0,c1,List.getElem?_eq_getElem (by omega),ha,g.cell h0 (by simp),g.cell h1 (by simp),K.mono g hd⟩
  have HF:Hid (∀ w,W.grownBy w none→∀ v t i,kids[i]?=some t→D B w v t→Calls Tryz.prog 170 #[v,.int .u8 r'] w (FPost D B w (forceT r' t))):=fun w g v t i hi h=>HE B w v t r' h (okTs_mem hoks hi) hr' (fun b hb=>Nat.lt_of_lt_of_le (hB b hb) g.size)
  have hgs:∀ (w:World) (b jj:Nat) (y:Value),W.heap.size+2≤b→((W.alloc (.cells #[.slice p n c,.int .u8 r] 112)).alloc (.cells #[.slice none 0 0,.int .u8 0] 112)).grownBy w none→((W.alloc (.cells #[.slice p n c,.int .u8 r] 112)).alloc (.cells #[.slice none 0 0,.int .u8 0] 112)).grownBy (w.setCell ⟨b,jj,none⟩ y) none:=fun w b jj y hb g=>gt_set_r g _ _ (by simpa using hb)
  have HGs:=Lib.hid hgs
  have hput:Hid (∀ (wr w2:World) k cs t c0 c1,k<n→kids[k]?=some t→((W.alloc (.cells #[.slice p n c,.int .u8 r] 112)).alloc (.cells #[.slice none 0 0,.int .u8 0] 112)).grownBy wr none→RowS D 57 (W.heap.size+2) B wr (.slice (some ⟨W.heap.size+2,0,none⟩) n n) n (fun i=>if i<k then (forceTs r' kids)[i]? else none) cs→wr.grownBy w2 none→D (fun b=>B b∨Fr wr w2 b) w2 (.agg #[c0,c1]) (forceT r' t) →
      RowS D 57 (W.heap.size+2) B ((w2.setCell ⟨W.heap.size+2,k*2,none⟩ c0).setCell ⟨W.heap.size+2,k*2+1,none⟩ c1) (.slice (some ⟨W.heap.size+2,0,none⟩) n n) n (fun i=>if i<k+1 then (forceTs r' kids)[i]? else none) ((cs.set (k*2) c0).set (k*2+1) c1)):=fun wr w2 k cs t c0 c1 hk ht g h g2 hd=>by
    have hlt:W.heap.size+2<wr.heap.size:=(h.1.lt _ rfl).2
    refine (RowS.put K (h.kept K g2) k hk (K.weak (fun b hb=>?_) hd)).sel (fun i t' hi=>?_)
    · rcases hb with hb | hb
      · exact ⟨.inl hb,fun e=>by have:=hB b hb;omega⟩
      · exact ⟨.inr ⟨by have:=hb.1;omega,hb.2⟩,fun e=>by have:=hb.1;omega⟩
    · show (if i=k then some (forceT r' t) else if i<k then _ else none)=some t'
      have hi':(if i<k+1 then (forceTs r' kids)[i]? else none)=some t':=hi
      by_cases hik:i=k
      · subst hik
        rw [if_pos (by omega),forceTs_get,ht] at hi'
        rw [if_pos rfl];exact hi'
      · rw [if_neg hik]
        by_cases hl:i<k
        · rw [if_pos (by omega)] at hi';rw [if_pos hl];exact hi'
        · rw [if_neg (by omega)] at hi';cases hi'
  have hcell:Hid (∀ (w:World) k cs (s:Nat→Option Raw),k<n→RowS D 57 (W.heap.size+2) B w (.slice (some ⟨W.heap.size+2,0,none⟩) n n) n s cs→(∃ v,w.cell? ⟨W.heap.size+2,k*2,none⟩=some v)∧(∃ v,w.cell? ⟨W.heap.size+2,k*2+1,none⟩=some v)∧∀ j,w.frozen? ⟨W.heap.size+2,j,none⟩=false):=fun w k cs s hk h=>by
    have hl:cs.length=n*2:=h.1.1
    have key:∀ o,o<2→∃ v,w.cell? ⟨W.heap.size+2,k*2+o,none⟩=some v:=fun o h6=>by
      rw [h.1.cellAt _ (by omega)]
      exact ⟨_,List.getElem?_eq_getElem (by omega)⟩
    exact ⟨key 0 (by omega),key 1 (by omega),fun j=>h.1.frozenAt j⟩
  have hfin:Hid (∀ (w:World) cs,((W.alloc (.cells #[.slice p n c,.int .u8 r] 112)).alloc (.cells #[.slice none 0 0,.int .u8 0] 112)).grownBy w none→RowS D 57 (W.heap.size+2) B w (.slice (some ⟨W.heap.size+2,0,none⟩) n n) n (fun i=>if i<n then (forceTs r' kids)[i]? else none) cs →
      FPost (DNode 0 D) B W (.mk 0 (r':Nat) 0 (fF r r' f) (forceTs r' kids)) (.returned (.agg #[.slice (some ⟨W.heap.size+2,0,none⟩) n n,.int .u8 r'])) ((w.setCell ⟨W.heap.size+1,0,none⟩ (.slice (some ⟨W.heap.size+2,0,none⟩) n n)).setCell ⟨W.heap.size+1,1,none⟩ (.int .u8 r'))):=fun w cs g h=>by
    have h1:RowS D 57 (W.heap.size+2) B w (.slice (some ⟨W.heap.size+2,0,none⟩) n n) (forceTs r' kids).length (fun i=>(forceTs r' kids)[i]?) cs:=by
      rw [forceTs_len,hn]
      exact h.sel fun i t hi=>by
        have:=(List.getElem?_eq_some_iff.1 hi).1
        rw [forceTs_len,hn] at this
        show (if i<n then _ else none)=_
        rw [if_pos this];exact hi
    have hs:=g.size
    have nB:¬ B (W.heap.size+1):=fun h=>by have:=hB _ h;omega
    have h2:=(h1.set K (q:=⟨W.heap.size+1,0,none⟩) (by show W.heap.size+1<_;omega) nB (.slice (some ⟨W.heap.size+2,0,none⟩) n n)).set K (q:=⟨W.heap.size+1,1,none⟩) (by show W.heap.size+1<_;omega) nB (.int .u8 r')
    have hsz:((w.setCell ⟨W.heap.size+1,0,none⟩ (.slice (some ⟨W.heap.size+2,0,none⟩) n n)).setCell ⟨W.heap.size+1,1,none⟩ (.int .u8 r')).heap.size=w.heap.size:=by simp [World.setCell]
    have hl:(forceTs r' kids).length=n:=by rw [forceTs_len,hn]
    refine ⟨_,rfl,⟨r',_,_,some ⟨W.heap.size+2,0,none⟩,n,rfl,hr',by rw [hl],by omega,by unfold maxLen;omega,h2.row K (by rw [hl]) (fun b hb=>.inl hb) (fun b h1 h2=>.inr ⟨by omega,h2⟩)⟩,gt_set_r (gt_set_r (gt_trans HG.out g (.inl rfl)) _ _ (by show W.heap.size≤W.heap.size+1;omega)) _ _ (by show W.heap.size≤W.heap.size+1;omega)⟩
  clear hrow hzz hgs hok hoks hfm HE hB hc1 hc2
  go_enter Tryz.func116,Tryz.ntmps116
  go_wp2_with (first
    | (at_make;refine wpList_make_full _ rfl _ _ _ rfl (W.heap.size+2) 57 i0 (.agg #[.int .i64 0,.nilIface]) 2 Tryz.underlying110 hi HI.out.1 HI.out.2.1 .i64 .i64 _ _ n rfl rfl rfl rfl (by rw [HI.out.2.2];omega) (by unfold maxLen;omega) (by simp) ?_;intro w1 hown hg1;have hbox:=HC.out w1 hg1))
  obtain ⟨xs0,hxs0⟩ : ∃ xs0,xs0=(madeCells (Value.cells (.agg #[.int .i64 0,.nilIface])) (n*2)).toList:=⟨_,rfl⟩
  rw [←hxs0] at hown
  clear hxs0
  clear hbox
  go_loopw [14] (fun i wr=>∃ (k:Nat) (cs:List Value),k≤n∧i=.int .i64 k∧((W.alloc (.cells #[.slice p n c,.int .u8 r] 112)).alloc (.cells #[.slice none 0 0,.int .u8 0] 112)).grownBy wr none∧RowS D 57 (W.heap.size+2) B wr (.slice (some ⟨W.heap.size+2,0,none⟩) n n) n (fun i=>if i<k then (forceTs r' kids)[i]? else none) cs) (fun i _=>n - (intOf i).toNat)
  case atStart=>exact ⟨0,xs0,by omega,rfl,hg1,by simpa using hown,fun i t h=>absurd h (by simp)⟩
  case round =>
    clear hown
    obtain ⟨k,cs,hk,rfl,Gr,hrow⟩:=hrel
    rename World=>wr
    have hbox:=HC.out wr Gr
    by_cases hkL:k<n
    · obtain ⟨t,a,c0,c1,hti,rfl,q0,q1,hd⟩:=HR.out wr (gt_trans HG.out Gr (.inl rfl)) k hkL
      obtain ⟨ek,ety,eb,he⟩:=HFM.out _ _ _ _ hd
      simp only [Value.agg.injEq,Array.mk.injEq,List.cons.injEq,and_true] at he
      obtain ⟨rfl,rfl⟩:=he
      have HF1:=Lib.hid (HF.out wr (gt_trans HG.out Gr (.inl rfl)) _ t k hti hd)
      have HP1:=Lib.hid (fun w2 c0 c1=>hput.out wr w2 k cs t c0 c1 hkL hti Gr hrow)
      have HK1:Hid (∀ w,wr.grownBy w none→(∃ v,w.cell? ⟨W.heap.size+2,k*2,none⟩=some v)∧(∃ v,w.cell? ⟨W.heap.size+2,k*2+1,none⟩=some v)∧∀ j,w.frozen? ⟨W.heap.size+2,j,none⟩=false):=fun w g=>hcell.out w k cs _ hkL (hrow.kept K g)
      generalize forceT r' t=t2 at HF1 HP1
      clear hti hd hrow
      go_wp2_with (first
        | (go_at_call 170;refine (HF1.out).mono ?_;rintro e w2 ⟨v2,rfl,hd2,hg2⟩;obtain ⟨ek2,ety2,eb2,rfl⟩:=HFM.out _ _ _ _ hd2;have HD2:=Lib.hid (HP1.out w2 _ _ hg2 hd2);clear hd2;obtain ⟨⟨v0,x0⟩,⟨v1,x1⟩,xf⟩:=HK1.out _ hg2;have f0:=xf (k*2);have f1:=xf (k*2+1)))
      refine ⟨⟨k+1,_,by omega,by go_num,?_,HD2.out⟩,by simp [intOf];omega⟩
      exact HGs.out _ _ _ _ (Nat.le_refl _) (HGs.out _ _ _ _ (Nat.le_refl _) (gt_trans Gr hg2 (.inl rfl)))
    · obtain rfl:k=n:=by omega
      obtain ⟨x0,x1,f0,f1⟩:=HC2.out _ Gr
      go_wp2_with fail
      go_wp2_with fail
      refine bodyPost_ret (by simp [results,Tryz.results116,go_sem,x0,x1];try rfl) rfl ?_
      exact hfin.out _ _ Gr hrow
end
end Go.Proofs.YtlpaecafpbbbkaaGreatDoor
