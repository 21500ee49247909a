/- The package's containers, made of their parts. -/
import Derived.Test.YtlpaecafpbbbkaaGreatDoorBYT9
set_option linter.unusedVariables false
set_option linter.unusedSimpArgs false
set_option maxRecDepth 100000
set_option maxHeartbeats 24000000
namespace Go.Proofs.YtlpaecafpbbbkaaGreatDoor
section
open Go.RowKit
theorem PgNew_of {D:(Nat→Prop)→World→Value→Raw→Prop} (K:DK D) (hfm:∀ {B:Nat→Prop} {W:World} {v:Value} {t:Raw},D B W v t→∃ (r:Nat) (p:Option Addr) (n c:Nat),v=.agg #[.int .u8 r,.slice p n c]) (hd4:∀ {B:Nat→Prop} {W:World} {v:Value} {t:Raw},D B W v t→dimR t<4) (HE:FC D 128) (HT:CC D 129) (B:Nat→Prop) (W:World) (p:Option Addr) (n c:Nat) (ts:List Raw) (f:Nat→Nat) (hrow:RowD D B W p ts) (hn:ts.length=n) (hn0:0<n) (hn2:n≤2000) (hoks:okTs ts) (hB:∀ b,B b→b<W.heap.size) :
    Calls Tryz.prog 109 #[.slice p n c] W (FPost (DNode 3 D) B W (nodeT 3 0 f ts)):=by
  obtain ⟨f',hnode⟩:=node_one 3 0 f ts
  have hne:ts≠[]:=fun h=>by rw [h] at hn;simp at hn;omega
  rw [if_neg hne,if_neg hne] at hnode
  have HFM:Hid (∀ (B:Nat→Prop) (W:World) (v:Value) (t:Raw),D B W v t→∃ (r:Nat) (p:Option Addr) (n c:Nat),v=.agg #[.int .u8 r,.slice p n c]):=fun B W v t h=>hfm h
  have HG:=Lib.hid (World.grownBy_alloc W (.cells #[.slice none 0 0,.int .u8 0] 97) none)
  have HC2:Hid (∀ w,(W.alloc (.cells #[.slice none 0 0,.int .u8 0] 97)).grownBy w none→w.cell? ⟨W.heap.size,0,none⟩=some (.slice none 0 0)∧w.cell? ⟨W.heap.size,1,none⟩=some (.int .u8 0)∧w.frozen? ⟨W.heap.size,0,none⟩=false∧w.frozen? ⟨W.heap.size,1,none⟩=false):=fun w g=>by
    have hb:=g.block W.heap.size (by simp) (by simp)
    refine ⟨g.cell (by simp) (by simp),g.cell (by simp) (by simp),?_,?_⟩ <;> (rw [World.frozen?_of_block hb];simp)
  have HR:Hid (∀ w,W.grownBy w none→∀ i,i<n→∃ t a c0 c1,ts[i]?=some t∧p=some a∧w.cell? (a.add (i*2))=some c0∧w.cell? ⟨(a.add (i*2)).block,(a.add (i*2)).off+1,none⟩=some c1∧D B w (.agg #[c0,c1]) t):=fun w g i hi=>by
    obtain ⟨a,ha⟩:=hrow.1 (by omega)
    obtain ⟨c0,c1,h0,h1,hd⟩:=(hrow.2 a ha).2 i (ts[i]'(by omega)) (List.getElem?_eq_getElem (by omega))
    exact ⟨ts[i]'(by omega),a,c0,c1,List.getElem?_eq_getElem (by omega),ha,g.cell h0 (by simp),g.cell h1 (by simp),K.mono g hd⟩
  have HDT:=Lib.hid (fun k t (h:ts[k]?=some t)=>dimsOf_take ts k t h)
  have HDL:=Lib.hid (fun k=>dimsOf_lt (ts.take k))
  have HDE:Hid (dimsOf (ts.take n)=dimsOf ts):=by rw [←hn,List.take_length];rfl
  have hD0:dimsOf (ts.take 0)=3:=rfl
  have HTT:Hid (∀ w v t,D B w v t→Calls Tryz.prog 129 #[v] w fun e w'=>e=.returned (.int .u8 (dimR t:Nat))∧w.grownBy w' none):=fun w v t h=>HT B w v t h
  have HD4:Hid (∀ w v t,D B w v t→dimR t<4):=fun w v t h=>hd4 h
  obtain ⟨cs0,hcl,hc1,hc2,hc3⟩:=hrow.cells K
  obtain ⟨Dm,hDm⟩ : ∃ Dm,Dm=dimsOf ts:=⟨_,rfl⟩
  have hDm4:Dm<4:=by rw [hDm];exact dimsOf_lt ts
  rw [←hDm] at HDE hnode
  rw [hn] at hcl
  have hsrc:Hid (∀ w,W.grownBy w none→(.slice p n c:Value)=.slice none 0 0∧n=0∨∃ ad cc,(.slice p n c:Value)=.slice (some ad) n cc∧∀ j u,cs0[j]?=some u→w.cell? (ad.add j)=some u):=fun w g=>by
    obtain ⟨a,ha⟩:=hrow.1 (by omega)
    exact .inr ⟨a,c,by rw [ha],fun j u hj=>g.cell (hc2 a ha j u hj) (by simp)⟩
  have hstart:Hid (∀ (wr w1:World) v1,W.grownBy wr none→W.heap.size<wr.heap.size→AppV 93 2 (W.heap.size+1) wr (.slice none 0 0) w1 v1 (0+n) ([]++cs0)→∃ g cap,v1=.slice (some ⟨g,0,none⟩) n cap∧RowS D 93 (W.heap.size+1) B w1 (.slice (some ⟨g,0,none⟩) n cap) n (fun i=>if i<0 then (forceTs Dm ts)[i]? else ts[i]?) cs0∧wr.grownBy w1 none):=fun wr w1 v1 g hlt H=>by
    rw [Nat.zero_add,List.nil_append] at H
    have hg:=H.grown0
    have ho:=H.own
    rcases ho.2 with ⟨_,h0⟩ | ⟨gb,cap,cur,rfl,_⟩
    · omega
    · refine ⟨gb,cap,rfl,⟨ho,fun i t hi=>?_⟩,hg⟩
      have hi:(if i<0 then (forceTs Dm ts)[i]? else ts[i]?)=some t:=hi
      rw [if_neg (by omega)] at hi
      obtain ⟨c0,c1,h0,h1,hd⟩:=hc3 i t hi
      have hl:=(ho.lt gb rfl).1
      refine ⟨c0,c1,h0,h1,K.weak (fun b hb=>⟨.inl hb,fun e=>?_⟩) (K.mono (gt_trans g hg (.inl rfl)) hd)⟩
      have:(Value.slice (some ⟨gb,0,none⟩) n cap).ownBlock=some gb:=rfl
      rw [this] at e;injection e with e;have:=hB b hb;omega
  have hel:Hid (∀ (wr:World) g cap k cs,k<n→W.grownBy wr none→RowS D 93 (W.heap.size+1) B wr (.slice (some ⟨g,0,none⟩) n cap) n (fun i=>if i<k then (forceTs Dm ts)[i]? else ts[i]?) cs→∃ t c0 c1,ts[k]?=some t∧wr.cell? ⟨g,k*2,none⟩=some c0∧wr.cell? ⟨g,k*2+1,none⟩=some c1∧n≤cap∧cap≤maxLen∧D (fun b=>(B b∨W.heap.size+1≤b∧b<wr.heap.size)∧g≠b) wr (.agg #[c0,c1]) t∧Calls Tryz.prog 128 #[.agg #[c0,c1],.int .u8 Dm] wr (FPost D (fun b=>(B b∨W.heap.size+1≤b∧b<wr.heap.size)∧g≠b) wr (forceT Dm t))):=fun wr g cap k cs hk hg h=>by
    have hl:cs.length=n*2:=h.1.1
    obtain ⟨c0,c1,h0,h1,hd⟩:=h.2 k (ts[k]'(by omega)) (by show (if k<k then _ else _)=_;rw [if_neg (by omega)];exact List.getElem?_eq_getElem (by omega))
    have hob:∀ b,(Value.slice (some ⟨g,0,none⟩) n cap).ownBlock≠some b↔g≠b:=fun b=>by
      have:(Value.slice (some ⟨g,0,none⟩) n cap).ownBlock=some g:=rfl
      rw [this];simp
    simp only [hob] at hd
    have hcap:n≤cap∧cap≤maxLen:=by
      rcases h.1.2 with ⟨hv,_⟩ | ⟨g',cap',cur,hv,_,_,hh1,hh2,_⟩
      · cases hv
      · injection hv with _ _ hv;subst hv;exact ⟨hh1,hh2⟩
    have hi:ts[k]?=some (ts[k]'(by omega)):=List.getElem?_eq_getElem (by omega)
    refine ⟨_,c0,c1,hi,by rw [h.1.cellAt _ (by omega)];exact h0,by rw [h.1.cellAt _ (by omega)];exact h1,hcap.1,hcap.2,hd,HE _ wr _ _ Dm hd (okTs_mem hoks hi) hDm4 (fun b hb=>?_)⟩
    rcases hb.1 with h' | h'
    · exact Nat.lt_of_lt_of_le (hB b h') hg.size
    · exact h'.2
  have hput:Hid (∀ (wr w2:World) g cap k cs t c0 c1,k<n→ts[k]?=some t→RowS D 93 (W.heap.size+1) B wr (.slice (some ⟨g,0,none⟩) n cap) n (fun i=>if i<k then (forceTs Dm ts)[i]? else ts[i]?) cs→wr.grownBy w2 none→D (fun b=>(fun b=>(B b∨W.heap.size+1≤b∧b<wr.heap.size)∧g≠b) b∨Fr wr w2 b) w2 (.agg #[c0,c1]) (forceT Dm t) →
      RowS D 93 (W.heap.size+1) B ((w2.setCell ⟨g,k*2,none⟩ c0).setCell ⟨g,k*2+1,none⟩ c1) (.slice (some ⟨g,0,none⟩) n cap) n (fun i=>if i<k+1 then (forceTs Dm ts)[i]? else ts[i]?) ((cs.set (k*2) c0).set (k*2+1) c1)):=fun wr w2 g cap k cs t c0 c1 hk ht h g2 hd=>by
    have hlt:=h.1.lt g rfl
    have hs2:=g2.size
    refine (RowS.put K (h.kept K g2) k hk (K.weak (fun b hb=>?_) hd)).sel (fun i t' hi=>?_)
    · rcases hb with hb | hb
      · exact ⟨hb.1.imp id fun h=>⟨h.1,by have:=h.2;omega⟩,hb.2⟩
      · exact ⟨.inr ⟨by have:=hb.1;omega,hb.2⟩,fun e=>by have:=hb.1;omega⟩
    · show (if i=k then some (forceT Dm t) else if i<k then _ else _)=some t'
      have hi':(if i<k+1 then (forceTs Dm ts)[i]? else ts[i]?)=some t':=hi
      by_cases hik:i=k
      · subst hik
        rw [if_pos (by omega),forceTs_get,ht] at hi'
        rw [if_pos rfl];exact hi'
      · rw [if_neg hik]
        by_cases hl:i<k
        · rw [if_pos (by omega)] at hi';rw [if_pos hl];exact hi'
        · rw [if_neg (by omega)] at hi';rw [if_neg hl];exact hi'
  have hcell:Hid (∀ (w:World) g cap k cs (s:Nat→Option Raw),k<n→RowS D 93 (W.heap.size+1) B w (.slice (some ⟨g,0,none⟩) n cap) n s cs→W.heap.size+1≤g∧g<w.heap.size∧(∃ v,w.cell? ⟨g,k*2,none⟩=some v)∧(∃ v,w.cell? ⟨g,k*2+1,none⟩=some v)∧∀ j,w.frozen? ⟨g,j,none⟩=false):=fun w g cap k cs s hk h=>by
    have hl:cs.length=n*2:=h.1.1
    have key:∀ o,o<2→∃ v,w.cell? ⟨g,k*2+o,none⟩=some v:=fun o h6=>by
      rw [h.1.cellAt _ (by omega)]
      exact ⟨_,List.getElem?_eq_getElem (by omega)⟩
    exact ⟨(h.1.lt g rfl).1,(h.1.lt g rfl).2,key 0 (by omega),key 1 (by omega),fun j=>h.1.frozenAt j⟩
  have hfin:Hid (∀ (w:World) g cap cs,(W.alloc (.cells #[.slice none 0 0,.int .u8 0] 97)).grownBy w none→RowS D 93 (W.heap.size+1) B w (.slice (some ⟨g,0,none⟩) n cap) n (fun i=>if i<n then (forceTs Dm ts)[i]? else ts[i]?) cs →
      FPost (DNode 3 D) B W (nodeT 3 0 f ts) (.returned (.agg #[.slice (some ⟨g,0,none⟩) n cap,.int .u8 Dm])) ((w.setCell ⟨W.heap.size,0,none⟩ (.slice (some ⟨g,0,none⟩) n cap)).setCell ⟨W.heap.size,1,none⟩ (.int .u8 Dm))):=fun w g cap cs g1 h=>by
    have h1:RowS D 93 (W.heap.size+1) B w (.slice (some ⟨g,0,none⟩) n cap) (forceTs Dm ts).length (fun i=>(forceTs Dm ts)[i]?) cs:=by
      rw [forceTs_len,hn]
      exact h.sel fun i t hi=>by
        have:=(List.getElem?_eq_some_iff.1 hi).1
        rw [forceTs_len,hn] at this
        show (if i<n then _ else _)=_
        rw [if_pos this];exact hi
    have hcap:n≤cap∧cap≤maxLen:=by
      rcases h.1.2 with ⟨hv,_⟩ | ⟨g',cap',cur,hv,_,_,hh1,hh2,_⟩
      · cases hv
      · injection hv with _ _ hv;subst hv;exact ⟨hh1,hh2⟩
    have nB:¬ B W.heap.size:=fun h=>by have:=hB _ h;omega
    have h2:=(h1.set K (q:=⟨W.heap.size,0,none⟩) (Nat.lt_succ_self _) nB (.slice (some ⟨g,0,none⟩) n cap)).set K (q:=⟨W.heap.size,1,none⟩) (Nat.lt_succ_self _) nB (.int .u8 Dm)
    have hl:(forceTs Dm ts).length=n:=by rw [forceTs_len,hn]
    refine ⟨_,rfl,⟨Dm,_,_,some ⟨g,0,none⟩,cap,hnode,hDm4,by rw [hl],by omega,hcap.2,h2.row K (by rw [hl]) (fun b hb=>.inl hb) (fun b h1 h2=>.inr ⟨by omega,h2⟩)⟩,gt_set_r (gt_set_r (gt_trans HG.out g1 (.inl rfl)) _ _ (Nat.le_refl _)) _ _ (Nat.le_refl _)⟩
  obtain ⟨DD,hDD⟩ : ∃ DD:Nat→Nat,DD=fun k=>dimsOf (ts.take k):=⟨_,rfl⟩
  have hDD':∀ k,dimsOf (ts.take k)=DD k:=fun k=>by rw [hDD]
  simp only [hDD'] at HDT HDL HDE hD0
  have hb:(0:Int)<(n:Int):=by omega
  have hc1':=Lib.hid hc1
  clear hrow hoks hfm hd4 HE HT hnode hDD hDD' hDm hc1 hc2 hc3 hne
  have hgs:∀ (w:World) (b jj:Nat) (y:Value),W.heap.size+1≤b→(W.alloc (.cells #[.slice none 0 0,.int .u8 0] 97)).grownBy w none→(W.alloc (.cells #[.slice none 0 0,.int .u8 0] 97)).grownBy (w.setCell ⟨b,jj,none⟩ y) none:=fun w b jj y hb g=>gt_set_r g _ _ (by simpa using hb)
  have HGs:=Lib.hid hgs
  clear hgs hB
  go_enter Tryz.func109,Tryz.ntmps109
  go_wp2_with fail
  go_loopw [3,12] (fun x i wr=>∃ k:Nat,k≤n∧i=.int .i64 k∧x=.int .u8 ((DD k:Nat):Int)∧(W.alloc (.cells #[.slice none 0 0,.int .u8 0] 97)).grownBy wr none) (fun _ i _=>n - (intOf i).toNat)
  case atStart=>exact ⟨0,by omega,rfl,by rw [hD0];rfl,gt_refl _ _⟩
  case round =>
    obtain ⟨k,hk,rfl,rfl,Gr⟩:=hrel
    rename World=>wr
    have Gw:=gt_trans HG.out Gr (.inl rfl)
    by_cases hkL:k<n
    · obtain ⟨t,a,c0,c1,hti,rfl,q0,q1,hd⟩:=HR.out wr Gw k hkL
      obtain ⟨er,ep,en,ec,he⟩:=HFM.out _ _ _ _ hd
      simp only [Value.agg.injEq,Array.mk.injEq,List.cons.injEq,and_true] at he
      obtain ⟨rfl,rfl⟩:=he
      have HD1:=Lib.hid (HDT.out k t hti)
      have hand:=and_u8 (DD k) (dimR t) (HDL.out k) (HD4.out _ _ _ hd)
      have HTT1:=Lib.hid (fun w (g:wr.grownBy w none)=>HTT.out w _ t (K.mono g hd))
      generalize dimR t=dt at HD1 hand HTT1
      clear hti hd
      go_wp2_with (first
        | (go_at_call 129;refine (HTT1.out _ (World.grownBy_alloc _ _ _)).mono ?_;rintro e w2 ⟨rfl,hg2⟩))
      exact ⟨⟨k+1,by omega,by go_num,by rw [HD1.out],gt_trans (gt_alloc_r Gr _) hg2 (.inl rfl)⟩,by simp [intOf];omega⟩
    · obtain rfl:k=n:=by omega
      have hDe:=HDE.out
      rw [hDe]
      have hlt:W.heap.size<wr.heap.size:=by have:=Gr.size;simp at this;omega
      go_wp2_with (first
        | (at_builtin;refine app_src rfl _ _ _ rfl Tryz.underlying95 (.agg #[.int .u8 0,.slice none 0 0]) 32 infoPg rfl (by omega) (AppV.nil wr 93 2 (W.heap.size+1)) rfl _ rfl k cs0 hcl hc1'.out (hsrc.out _ Gw) hlt (by omega) (by omega) ?_;intro v1 w1 H1;obtain ⟨g,cap,rfl,hrow,hg1⟩:=hstart.out _ _ _ Gw hlt H1;have HH:=Lib.hid hrow;clear hrow H1))
      go_loopw [25] (fun i w2=>∃ (j:Nat) (cs:List Value),j≤k∧i=.int .i64 j∧(W.alloc (.cells #[.slice none 0 0,.int .u8 0] 97)).grownBy w2 none∧RowS D 93 (W.heap.size+1) B w2 (.slice (some ⟨g,0,none⟩) k cap) k (fun i=>if i<j then (forceTs Dm ts)[i]? else ts[i]?) cs) (fun i _=>k - (intOf i).toNat)
      case atStart=>exact ⟨0,cs0,by omega,rfl,gt_trans Gr hg1 (.inl rfl),HH.out⟩
      case round =>
        clear HH hg1
        obtain ⟨j,cs,hj,rfl,G2,hrow⟩:=hrel
        rename World=>w2
        by_cases hjk:j<k
        · obtain ⟨t,c0,c1,hti,q0,q1,hcp1,hcp2,hd,HF⟩:=hel.out w2 g cap j cs hjk (gt_trans HG.out G2 (.inl rfl)) hrow
          obtain ⟨er,ep,en,ec,he⟩:=HFM.out _ _ _ _ hd
          simp only [Value.agg.injEq,Array.mk.injEq,List.cons.injEq,and_true] at he
          obtain ⟨rfl,rfl⟩:=he
          have HF1:=Lib.hid HF
          have HP1:=Lib.hid (fun w3 c0 c1=>hput.out w2 w3 g cap j cs t c0 c1 hjk hti hrow)
          have hgg:=hcell.out w2 g cap j cs _ hjk hrow
          have hgb:=hgg.1
          have hgs2:=hgg.2.1
          have HK1:Hid (∀ w,w2.grownBy w none→(∃ v,w.cell? ⟨g,j*2,none⟩=some v)∧(∃ v,w.cell? ⟨g,j*2+1,none⟩=some v)∧∀ i,w.frozen? ⟨g,i,none⟩=false):=fun w g'=>(hcell.out w g cap j cs _ hjk (hrow.kept K g')).2.2
          generalize forceT Dm t=t2 at HF1 HP1
          clear hti hd HF hrow hgg
          go_wp2_with (first
            | (go_at_call 128;refine (HF1.out).mono ?_;rintro e w3 ⟨v2,rfl,hd2,hg3⟩;obtain ⟨er2,ep2,en2,ec2,rfl⟩:=HFM.out _ _ _ _ hd2;have HD2:=Lib.hid (HP1.out w3 _ _ hg3 hd2);clear hd2;obtain ⟨⟨v0,x0⟩,⟨v1,x1⟩,xf⟩:=HK1.out _ hg3;have f0:=xf (j*2);have f1:=xf (j*2+1)))
          refine ⟨⟨j+1,_,by omega,by go_num,?_,HD2.out⟩,by simp [intOf];omega⟩
          exact HGs.out _ _ _ _ hgb (HGs.out _ _ _ _ hgb (gt_trans G2 hg3 (.inl rfl)))
        · obtain rfl:j=k:=by omega
          obtain ⟨x0,x1,f0,f1⟩:=HC2.out _ G2
          go_wp2_with fail
          go_wp2_with fail
          refine bodyPost_ret (by simp [results,Tryz.results109,go_sem,x0,x1];try rfl) rfl ?_
          exact hfin.out _ _ _ _ G2 hrow
theorem MlNew_of {D:(Nat→Prop)→World→Value→Raw→Prop} (K:DK D) (hfm:∀ {B:Nat→Prop} {W:World} {v:Value} {t:Raw},D B W v t→∃ (r:Nat) (p:Option Addr) (n c:Nat),v=.agg #[.int .u8 r,.slice p n c]) (hd4:∀ {B:Nat→Prop} {W:World} {v:Value} {t:Raw},D B W v t→dimR t<4) (HE:FC D 128) (HT:CC D 129) (B:Nat→Prop) (W:World) (p:Option Addr) (n c:Nat) (ts:List Raw) (f:Nat→Nat) (hrow:RowD D B W p ts) (hn:ts.length=n) (hn0:0<n) (hn2:n≤2000) (hoks:okTs ts) (hB:∀ b,B b→b<W.heap.size) :
    Calls Tryz.prog 113 #[.slice p n c] W (FPost (DNode 5 D) B W (nodeT 5 0 f ts)):=by
  obtain ⟨f',hnode⟩:=node_one 5 0 f ts
  have hne:ts≠[]:=fun h=>by rw [h] at hn;simp at hn;omega
  rw [if_neg hne,if_neg hne] at hnode
  have HFM:Hid (∀ (B:Nat→Prop) (W:World) (v:Value) (t:Raw),D B W v t→∃ (r:Nat) (p:Option Addr) (n c:Nat),v=.agg #[.int .u8 r,.slice p n c]):=fun B W v t h=>hfm h
  have HG:=Lib.hid (World.grownBy_alloc W (.cells #[.slice none 0 0,.int .u8 0] 104) none)
  have HC2:Hid (∀ w,(W.alloc (.cells #[.slice none 0 0,.int .u8 0] 104)).grownBy w none→w.cell? ⟨W.heap.size,0,none⟩=some (.slice none 0 0)∧w.cell? ⟨W.heap.size,1,none⟩=some (.int .u8 0)∧w.frozen? ⟨W.heap.size,0,none⟩=false∧w.frozen? ⟨W.heap.size,1,none⟩=false):=fun w g=>by
    have hb:=g.block W.heap.size (by simp) (by simp)
    refine ⟨g.cell (by simp) (by simp),g.cell (by simp) (by simp),?_,?_⟩ <;> (rw [World.frozen?_of_block hb];simp)
  have HR:Hid (∀ w,W.grownBy w none→∀ i,i<n→∃ t a c0 c1,ts[i]?=some t∧p=some a∧w.cell? (a.add (i*2))=some c0∧w.cell? ⟨(a.add (i*2)).block,(a.add (i*2)).off+1,none⟩=some c1∧D B w (.agg #[c0,c1]) t):=fun w g i hi=>by
    obtain ⟨a,ha⟩:=hrow.1 (by omega)
    obtain ⟨c0,c1,h0,h1,hd⟩:=(hrow.2 a ha).2 i (ts[i]'(by omega)) (List.getElem?_eq_getElem (by omega))
    exact ⟨ts[i]'(by omega),a,c0,c1,List.getElem?_eq_getElem (by omega),ha,g.cell h0 (by simp),g.cell h1 (by simp),K.mono g hd⟩
  have HDT:=Lib.hid (fun k t (h:ts[k]?=some t)=>dimsOf_take ts k t h)
  have HDL:=Lib.hid (fun k=>dimsOf_lt (ts.take k))
  have HDE:Hid (dimsOf (ts.take n)=dimsOf ts):=by rw [←hn,List.take_length];rfl
  have hD0:dimsOf (ts.take 0)=3:=rfl
  have HTT:Hid (∀ w v t,D B w v t→Calls Tryz.prog 129 #[v] w fun e w'=>e=.returned (.int .u8 (dimR t:Nat))∧w.grownBy w' none):=fun w v t h=>HT B w v t h
  have HD4:Hid (∀ w v t,D B w v t→dimR t<4):=fun w v t h=>hd4 h
  obtain ⟨cs0,hcl,hc1,hc2,hc3⟩:=hrow.cells K
  obtain ⟨Dm,hDm⟩ : ∃ Dm,Dm=dimsOf ts:=⟨_,rfl⟩
  have hDm4:Dm<4:=by rw [hDm];exact dimsOf_lt ts
  rw [←hDm] at HDE hnode
  rw [hn] at hcl
  have hsrc:Hid (∀ w,W.grownBy w none→(.slice p n c:Value)=.slice none 0 0∧n=0∨∃ ad cc,(.slice p n c:Value)=.slice (some ad) n cc∧∀ j u,cs0[j]?=some u→w.cell? (ad.add j)=some u):=fun w g=>by
    obtain ⟨a,ha⟩:=hrow.1 (by omega)
    exact .inr ⟨a,c,by rw [ha],fun j u hj=>g.cell (hc2 a ha j u hj) (by simp)⟩
  have hstart:Hid (∀ (wr w1:World) v1,W.grownBy wr none→W.heap.size<wr.heap.size→AppV 93 2 (W.heap.size+1) wr (.slice none 0 0) w1 v1 (0+n) ([]++cs0)→∃ g cap,v1=.slice (some ⟨g,0,none⟩) n cap∧RowS D 93 (W.heap.size+1) B w1 (.slice (some ⟨g,0,none⟩) n cap) n (fun i=>if i<0 then (forceTs Dm ts)[i]? else ts[i]?) cs0∧wr.grownBy w1 none):=fun wr w1 v1 g hlt H=>by
    rw [Nat.zero_add,List.nil_append] at H
    have hg:=H.grown0
    have ho:=H.own
    rcases ho.2 with ⟨_,h0⟩ | ⟨gb,cap,cur,rfl,_⟩
    · omega
    · refine ⟨gb,cap,rfl,⟨ho,fun i t hi=>?_⟩,hg⟩
      have hi:(if i<0 then (forceTs Dm ts)[i]? else ts[i]?)=some t:=hi
      rw [if_neg (by omega)] at hi
      obtain ⟨c0,c1,h0,h1,hd⟩:=hc3 i t hi
      have hl:=(ho.lt gb rfl).1
      refine ⟨c0,c1,h0,h1,K.weak (fun b hb=>⟨.inl hb,fun e=>?_⟩) (K.mono (gt_trans g hg (.inl rfl)) hd)⟩
      have:(Value.slice (some ⟨gb,0,none⟩) n cap).ownBlock=some gb:=rfl
      rw [this] at e;injection e with e;have:=hB b hb;omega
  have hel:Hid (∀ (wr:World) g cap k cs,k<n→W.grownBy wr none→RowS D 93 (W.heap.size+1) B wr (.slice (some ⟨g,0,none⟩) n cap) n (fun i=>if i<k then (forceTs Dm ts)[i]? else ts[i]?) cs→∃ t c0 c1,ts[k]?=some t∧wr.cell? ⟨g,k*2,none⟩=some c0∧wr.cell? ⟨g,k*2+1,none⟩=some c1∧n≤cap∧cap≤maxLen∧D (fun b=>(B b∨W.heap.size+1≤b∧b<wr.heap.size)∧g≠b) wr (.agg #[c0,c1]) t∧Calls Tryz.prog 128 #[.agg #[c0,c1],.int .u8 Dm] wr (FPost D (fun b=>(B b∨W.heap.size+1≤b∧b<wr.heap.size)∧g≠b) wr (forceT Dm t))):=fun wr g cap k cs hk hg h=>by
    have hl:cs.length=n*2:=h.1.1
    obtain ⟨c0,c1,h0,h1,hd⟩:=h.2 k (ts[k]'(by omega)) (by show (if k<k then _ else _)=_;rw [if_neg (by omega)];exact List.getElem?_eq_getElem (by omega))
    have hob:∀ b,(Value.slice (some ⟨g,0,none⟩) n cap).ownBlock≠some b↔g≠b:=fun b=>by
      have:(Value.slice (some ⟨g,0,none⟩) n cap).ownBlock=some g:=rfl
      rw [this];simp
    simp only [hob] at hd
    have hcap:n≤cap∧cap≤maxLen:=by
      rcases h.1.2 with ⟨hv,_⟩ | ⟨g',cap',cur,hv,_,_,hh1,hh2,_⟩
      · cases hv
      · injection hv with _ _ hv;subst hv;exact ⟨hh1,hh2⟩
    have hi:ts[k]?=some (ts[k]'(by omega)):=List.getElem?_eq_getElem (by omega)
    refine ⟨_,c0,c1,hi,by rw [h.1.cellAt _ (by omega)];exact h0,by rw [h.1.cellAt _ (by omega)];exact h1,hcap.1,hcap.2,hd,HE _ wr _ _ Dm hd (okTs_mem hoks hi) hDm4 (fun b hb=>?_)⟩
    rcases hb.1 with h' | h'
    · exact Nat.lt_of_lt_of_le (hB b h') hg.size
    · exact h'.2
  have hput:Hid (∀ (wr w2:World) g cap k cs t c0 c1,k<n→ts[k]?=some t→RowS D 93 (W.heap.size+1) B wr (.slice (some ⟨g,0,none⟩) n cap) n (fun i=>if i<k then (forceTs Dm ts)[i]? else ts[i]?) cs→wr.grownBy w2 none→D (fun b=>(fun b=>(B b∨W.heap.size+1≤b∧b<wr.heap.size)∧g≠b) b∨Fr wr w2 b) w2 (.agg #[c0,c1]) (forceT Dm t) →
      RowS D 93 (W.heap.size+1) B ((w2.setCell ⟨g,k*2,none⟩ c0).setCell ⟨g,k*2+1,none⟩ c1) (.slice (some ⟨g,0,none⟩) n cap) n (fun i=>if i<k+1 then (forceTs Dm ts)[i]? else ts[i]?) ((cs.set (k*2) c0).set (k*2+1) c1)):=fun wr w2 g cap k cs t c0 c1 hk ht h g2 hd=>by
    have hlt:=h.1.lt g rfl
    have hs2:=g2.size
    refine (RowS.put K (h.kept K g2) k hk (K.weak (fun b hb=>?_) hd)).sel (fun i t' hi=>?_)
    · rcases hb with hb | hb
      · exact ⟨hb.1.imp id fun h=>⟨h.1,by have:=h.2;omega⟩,hb.2⟩
      · exact ⟨.inr ⟨by have:=hb.1;omega,hb.2⟩,fun e=>by have:=hb.1;omega⟩
    · show (if i=k then some (forceT Dm t) else if i<k then _ else _)=some t'
      have hi':(if i<k+1 then (forceTs Dm ts)[i]? else ts[i]?)=some t':=hi
      by_cases hik:i=k
      · subst hik
        rw [if_pos (by omega),forceTs_get,ht] at hi'
        rw [if_pos rfl];exact hi'
      · rw [if_neg hik]
        by_cases hl:i<k
        · rw [if_pos (by omega)] at hi';rw [if_pos hl];exact hi'
        · rw [if_neg (by omega)] at hi';rw [if_neg hl];exact hi'
  have hcell:Hid (∀ (w:World) g cap k cs (s:Nat→Option Raw),k<n→RowS D 93 (W.heap.size+1) B w (.slice (some ⟨g,0,none⟩) n cap) n s cs→W.heap.size+1≤g∧g<w.heap.size∧(∃ v,w.cell? ⟨g,k*2,none⟩=some v)∧(∃ v,w.cell? ⟨g,k*2+1,none⟩=some v)∧∀ j,w.frozen? ⟨g,j,none⟩=false):=fun w g cap k cs s hk h=>by
    have hl:cs.length=n*2:=h.1.1
    have key:∀ o,o<2→∃ v,w.cell? ⟨g,k*2+o,none⟩=some v:=fun o h6=>by
      rw [h.1.cellAt _ (by omega)]
      exact ⟨_,List.getElem?_eq_getElem (by omega)⟩
    exact ⟨(h.1.lt g rfl).1,(h.1.lt g rfl).2,key 0 (by omega),key 1 (by omega),fun j=>h.1.frozenAt j⟩
  have hfin:Hid (∀ (w:World) g cap cs,(W.alloc (.cells #[.slice none 0 0,.int .u8 0] 104)).grownBy w none→RowS D 93 (W.heap.size+1) B w (.slice (some ⟨g,0,none⟩) n cap) n (fun i=>if i<n then (forceTs Dm ts)[i]? else ts[i]?) cs →
      FPost (DNode 5 D) B W (nodeT 5 0 f ts) (.returned (.agg #[.slice (some ⟨g,0,none⟩) n cap,.int .u8 Dm])) ((w.setCell ⟨W.heap.size,0,none⟩ (.slice (some ⟨g,0,none⟩) n cap)).setCell ⟨W.heap.size,1,none⟩ (.int .u8 Dm))):=fun w g cap cs g1 h=>by
    have h1:RowS D 93 (W.heap.size+1) B w (.slice (some ⟨g,0,none⟩) n cap) (forceTs Dm ts).length (fun i=>(forceTs Dm ts)[i]?) cs:=by
      rw [forceTs_len,hn]
      exact h.sel fun i t hi=>by
        have:=(List.getElem?_eq_some_iff.1 hi).1
        rw [forceTs_len,hn] at this
        show (if i<n then _ else _)=_
        rw [if_pos this];exact hi
    have hcap:n≤cap∧cap≤maxLen:=by
      rcases h.1.2 with ⟨hv,_⟩ | ⟨g',cap',cur,hv,_,_,hh1,hh2,_⟩
      · cases hv
      · injection hv with _ _ hv;subst hv;exact ⟨hh1,hh2⟩
    have nB:¬ B W.heap.size:=fun h=>by have:=hB _ h;omega
    have h2:=(h1.set K (q:=⟨W.heap.size,0,none⟩) (Nat.lt_succ_self _) nB (.slice (some ⟨g,0,none⟩) n cap)).set K (q:=⟨W.heap.size,1,none⟩) (Nat.lt_succ_self _) nB (.int .u8 Dm)
    have hl:(forceTs Dm ts).length=n:=by rw [forceTs_len,hn]
    refine ⟨_,rfl,⟨Dm,_,_,some ⟨g,0,none⟩,cap,hnode,hDm4,by rw [hl],by omega,hcap.2,h2.row K (by rw [hl]) (fun b hb=>.inl hb) (fun b h1 h2=>.inr ⟨by omega,h2⟩)⟩,gt_set_r (gt_set_r (gt_trans HG.out g1 (.inl rfl)) _ _ (Nat.le_refl _)) _ _ (Nat.le_refl _)⟩
  obtain ⟨DD,hDD⟩ : ∃ DD:Nat→Nat,DD=fun k=>dimsOf (ts.take k):=⟨_,rfl⟩
  have hDD':∀ k,dimsOf (ts.take k)=DD k:=fun k=>by rw [hDD]
  simp only [hDD'] at HDT HDL HDE hD0
  have hb:((n:Int)==0)=false:=by rw [beq_eq_false_iff_ne];omega
  have hc1':=Lib.hid hc1
  clear hrow hoks hfm hd4 HE HT hnode hDD hDD' hDm hc1 hc2 hc3 hne
  have hgs:∀ (w:World) (b jj:Nat) (y:Value),W.heap.size+1≤b→(W.alloc (.cells #[.slice none 0 0,.int .u8 0] 104)).grownBy w none→(W.alloc (.cells #[.slice none 0 0,.int .u8 0] 104)).grownBy (w.setCell ⟨b,jj,none⟩ y) none:=fun w b jj y hb g=>gt_set_r g _ _ (by simpa using hb)
  have HGs:=Lib.hid hgs
  clear hgs hB
  go_enter Tryz.func113,Tryz.ntmps113
  go_wp2_with fail
  go_loopw [3,13] (fun x i wr=>∃ k:Nat,k≤n∧i=.int .i64 k∧x=.int .u8 ((DD k:Nat):Int)∧(W.alloc (.cells #[.slice none 0 0,.int .u8 0] 104)).grownBy wr none) (fun _ i _=>n - (intOf i).toNat)
  case atStart=>exact ⟨0,by omega,rfl,by rw [hD0];rfl,gt_refl _ _⟩
  case round =>
    obtain ⟨k,hk,rfl,rfl,Gr⟩:=hrel
    rename World=>wr
    have Gw:=gt_trans HG.out Gr (.inl rfl)
    by_cases hkL:k<n
    · obtain ⟨t,a,c0,c1,hti,rfl,q0,q1,hd⟩:=HR.out wr Gw k hkL
      obtain ⟨er,ep,en,ec,he⟩:=HFM.out _ _ _ _ hd
      simp only [Value.agg.injEq,Array.mk.injEq,List.cons.injEq,and_true] at he
      obtain ⟨rfl,rfl⟩:=he
      have HD1:=Lib.hid (HDT.out k t hti)
      have hand:=and_u8 (DD k) (dimR t) (HDL.out k) (HD4.out _ _ _ hd)
      have HTT1:=Lib.hid (fun w (g:wr.grownBy w none)=>HTT.out w _ t (K.mono g hd))
      generalize dimR t=dt at HD1 hand HTT1
      clear hti hd
      go_wp2_with (first
        | (go_at_call 129;refine (HTT1.out _ (World.grownBy_alloc _ _ _)).mono ?_;rintro e w2 ⟨rfl,hg2⟩))
      exact ⟨⟨k+1,by omega,by go_num,by rw [HD1.out],gt_trans (gt_alloc_r Gr _) hg2 (.inl rfl)⟩,by simp [intOf];omega⟩
    · obtain rfl:k=n:=by omega
      have hDe:=HDE.out
      rw [hDe]
      have hlt:W.heap.size<wr.heap.size:=by have:=Gr.size;simp at this;omega
      go_wp2_with (first
        | (at_builtin;refine app_src rfl _ _ _ rfl Tryz.underlying95 (.agg #[.int .u8 0,.slice none 0 0]) 32 infoMl rfl (by omega) (AppV.nil wr 93 2 (W.heap.size+1)) rfl _ rfl k cs0 hcl hc1'.out (hsrc.out _ Gw) hlt (by omega) (by omega) ?_;intro v1 w1 H1;obtain ⟨g,cap,rfl,hrow,hg1⟩:=hstart.out _ _ _ Gw hlt H1;have HH:=Lib.hid hrow;clear hrow H1))
      go_loopw [26] (fun i w2=>∃ (j:Nat) (cs:List Value),j≤k∧i=.int .i64 j∧(W.alloc (.cells #[.slice none 0 0,.int .u8 0] 104)).grownBy w2 none∧RowS D 93 (W.heap.size+1) B w2 (.slice (some ⟨g,0,none⟩) k cap) k (fun i=>if i<j then (forceTs Dm ts)[i]? else ts[i]?) cs) (fun i _=>k - (intOf i).toNat)
      case atStart=>exact ⟨0,cs0,by omega,rfl,gt_trans Gr hg1 (.inl rfl),HH.out⟩
      case round =>
        clear HH hg1
        obtain ⟨j,cs,hj,rfl,G2,hrow⟩:=hrel
        rename World=>w2
        by_cases hjk:j<k
        · obtain ⟨t,c0,c1,hti,q0,q1,hcp1,hcp2,hd,HF⟩:=hel.out w2 g cap j cs hjk (gt_trans HG.out G2 (.inl rfl)) hrow
          obtain ⟨er,ep,en,ec,he⟩:=HFM.out _ _ _ _ hd
          simp only [Value.agg.injEq,Array.mk.injEq,List.cons.injEq,and_true] at he
          obtain ⟨rfl,rfl⟩:=he
          have HF1:=Lib.hid HF
          have HP1:=Lib.hid (fun w3 c0 c1=>hput.out w2 w3 g cap j cs t c0 c1 hjk hti hrow)
          have hgg:=hcell.out w2 g cap j cs _ hjk hrow
          have hgb:=hgg.1
          have hgs2:=hgg.2.1
          have HK1:Hid (∀ w,w2.grownBy w none→(∃ v,w.cell? ⟨g,j*2,none⟩=some v)∧(∃ v,w.cell? ⟨g,j*2+1,none⟩=some v)∧∀ i,w.frozen? ⟨g,i,none⟩=false):=fun w g'=>(hcell.out w g cap j cs _ hjk (hrow.kept K g')).2.2
          generalize forceT Dm t=t2 at HF1 HP1
          clear hti hd HF hrow hgg
          go_wp2_with (first
            | (go_at_call 128;refine (HF1.out).mono ?_;rintro e w3 ⟨v2,rfl,hd2,hg3⟩;obtain ⟨er2,ep2,en2,ec2,rfl⟩:=HFM.out _ _ _ _ hd2;have HD2:=Lib.hid (HP1.out w3 _ _ hg3 hd2);clear hd2;obtain ⟨⟨v0,x0⟩,⟨v1,x1⟩,xf⟩:=HK1.out _ hg3;have f0:=xf (j*2);have f1:=xf (j*2+1)))
          refine ⟨⟨j+1,_,by omega,by go_num,?_,HD2.out⟩,by simp [intOf];omega⟩
          exact HGs.out _ _ _ _ hgb (HGs.out _ _ _ _ hgb (gt_trans G2 hg3 (.inl rfl)))
        · obtain rfl:j=k:=by omega
          obtain ⟨x0,x1,f0,f1⟩:=HC2.out _ G2
          go_wp2_with fail
          go_wp2_with fail
          refine bodyPost_ret (by simp [results,Tryz.results113,go_sem,x0,x1];try rfl) rfl ?_
          exact hfin.out _ _ _ _ G2 hrow
theorem MpNew_of {D:(Nat→Prop)→World→Value→Raw→Prop} (K:DK D) (hfm:∀ {B:Nat→Prop} {W:World} {v:Value} {t:Raw},D B W v t→∃ (p:Option Addr) (n c r:Nat),v=.agg #[.slice p n c,.int .u8 r]) (hd4:∀ {B:Nat→Prop} {W:World} {v:Value} {t:Raw},D B W v t→dimR t<4) (HE:FC D 108) (HT:CC D 145) (B:Nat→Prop) (W:World) (p:Option Addr) (n c:Nat) (ts:List Raw) (f:Nat→Nat) (hrow:RowD D B W p ts) (hn:ts.length=n) (hn0:0<n) (hn2:n≤2000) (hoks:okTs ts) (hB:∀ b,B b→b<W.heap.size) :
    Calls Tryz.prog 115 #[.slice p n c] W (FPost (DNode 6 D) B W (nodeT 6 0 f ts)):=by
  obtain ⟨f',hnode⟩:=node_one 6 0 f ts
  have hne:ts≠[]:=fun h=>by rw [h] at hn;simp at hn;omega
  rw [if_neg hne,if_neg hne] at hnode
  have HFM:Hid (∀ (B:Nat→Prop) (W:World) (v:Value) (t:Raw),D B W v t→∃ (p:Option Addr) (n c r:Nat),v=.agg #[.slice p n c,.int .u8 r]):=fun B W v t h=>hfm h
  have HG:=Lib.hid (World.grownBy_alloc W (.cells #[.slice none 0 0,.int .u8 0] 108) none)
  have HC2:Hid (∀ w,(W.alloc (.cells #[.slice none 0 0,.int .u8 0] 108)).grownBy w none→w.cell? ⟨W.heap.size,0,none⟩=some (.slice none 0 0)∧w.cell? ⟨W.heap.size,1,none⟩=some (.int .u8 0)∧w.frozen? ⟨W.heap.size,0,none⟩=false∧w.frozen? ⟨W.heap.size,1,none⟩=false):=fun w g=>by
    have hb:=g.block W.heap.size (by simp) (by simp)
    refine ⟨g.cell (by simp) (by simp),g.cell (by simp) (by simp),?_,?_⟩ <;> (rw [World.frozen?_of_block hb];simp)
  have HR:Hid (∀ w,W.grownBy w none→∀ i,i<n→∃ t a c0 c1,ts[i]?=some t∧p=some a∧w.cell? (a.add (i*2))=some c0∧w.cell? ⟨(a.add (i*2)).block,(a.add (i*2)).off+1,none⟩=some c1∧D B w (.agg #[c0,c1]) t):=fun w g i hi=>by
    obtain ⟨a,ha⟩:=hrow.1 (by omega)
    obtain ⟨c0,c1,h0,h1,hd⟩:=(hrow.2 a ha).2 i (ts[i]'(by omega)) (List.getElem?_eq_getElem (by omega))
    exact ⟨ts[i]'(by omega),a,c0,c1,List.getElem?_eq_getElem (by omega),ha,g.cell h0 (by simp),g.cell h1 (by simp),K.mono g hd⟩
  have HDT:=Lib.hid (fun k t (h:ts[k]?=some t)=>dimsOf_take ts k t h)
  have HDL:=Lib.hid (fun k=>dimsOf_lt (ts.take k))
  have HDE:Hid (dimsOf (ts.take n)=dimsOf ts):=by rw [←hn,List.take_length];rfl
  have hD0:dimsOf (ts.take 0)=3:=rfl
  have HTT:Hid (∀ w v t,D B w v t→Calls Tryz.prog 145 #[v] w fun e w'=>e=.returned (.int .u8 (dimR t:Nat))∧w.grownBy w' none):=fun w v t h=>HT B w v t h
  have HD4:Hid (∀ w v t,D B w v t→dimR t<4):=fun w v t h=>hd4 h
  obtain ⟨cs0,hcl,hc1,hc2,hc3⟩:=hrow.cells K
  obtain ⟨Dm,hDm⟩ : ∃ Dm,Dm=dimsOf ts:=⟨_,rfl⟩
  have hDm4:Dm<4:=by rw [hDm];exact dimsOf_lt ts
  rw [←hDm] at HDE hnode
  rw [hn] at hcl
  have hsrc:Hid (∀ w,W.grownBy w none→(.slice p n c:Value)=.slice none 0 0∧n=0∨∃ ad cc,(.slice p n c:Value)=.slice (some ad) n cc∧∀ j u,cs0[j]?=some u→w.cell? (ad.add j)=some u):=fun w g=>by
    obtain ⟨a,ha⟩:=hrow.1 (by omega)
    exact .inr ⟨a,c,by rw [ha],fun j u hj=>g.cell (hc2 a ha j u hj) (by simp)⟩
  have hstart:Hid (∀ (wr w1:World) v1,W.grownBy wr none→W.heap.size<wr.heap.size→AppV 97 2 (W.heap.size+1) wr (.slice none 0 0) w1 v1 (0+n) ([]++cs0)→∃ g cap,v1=.slice (some ⟨g,0,none⟩) n cap∧RowS D 97 (W.heap.size+1) B w1 (.slice (some ⟨g,0,none⟩) n cap) n (fun i=>if i<0 then (forceTs Dm ts)[i]? else ts[i]?) cs0∧wr.grownBy w1 none):=fun wr w1 v1 g hlt H=>by
    rw [Nat.zero_add,List.nil_append] at H
    have hg:=H.grown0
    have ho:=H.own
    rcases ho.2 with ⟨_,h0⟩ | ⟨gb,cap,cur,rfl,_⟩
    · omega
    · refine ⟨gb,cap,rfl,⟨ho,fun i t hi=>?_⟩,hg⟩
      have hi:(if i<0 then (forceTs Dm ts)[i]? else ts[i]?)=some t:=hi
      rw [if_neg (by omega)] at hi
      obtain ⟨c0,c1,h0,h1,hd⟩:=hc3 i t hi
      have hl:=(ho.lt gb rfl).1
      refine ⟨c0,c1,h0,h1,K.weak (fun b hb=>⟨.inl hb,fun e=>?_⟩) (K.mono (gt_trans g hg (.inl rfl)) hd)⟩
      have:(Value.slice (some ⟨gb,0,none⟩) n cap).ownBlock=some gb:=rfl
      rw [this] at e;injection e with e;have:=hB b hb;omega
  have hel:Hid (∀ (wr:World) g cap k cs,k<n→W.grownBy wr none→RowS D 97 (W.heap.size+1) B wr (.slice (some ⟨g,0,none⟩) n cap) n (fun i=>if i<k then (forceTs Dm ts)[i]? else ts[i]?) cs→∃ t c0 c1,ts[k]?=some t∧wr.cell? ⟨g,k*2,none⟩=some c0∧wr.cell? ⟨g,k*2+1,none⟩=some c1∧n≤cap∧cap≤maxLen∧D (fun b=>(B b∨W.heap.size+1≤b∧b<wr.heap.size)∧g≠b) wr (.agg #[c0,c1]) t∧Calls Tryz.prog 108 #[.agg #[c0,c1],.int .u8 Dm] wr (FPost D (fun b=>(B b∨W.heap.size+1≤b∧b<wr.heap.size)∧g≠b) wr (forceT Dm t))):=fun wr g cap k cs hk hg h=>by
    have hl:cs.length=n*2:=h.1.1
    obtain ⟨c0,c1,h0,h1,hd⟩:=h.2 k (ts[k]'(by omega)) (by show (if k<k then _ else _)=_;rw [if_neg (by omega)];exact List.getElem?_eq_getElem (by omega))
    have hob:∀ b,(Value.slice (some ⟨g,0,none⟩) n cap).ownBlock≠some b↔g≠b:=fun b=>by
      have:(Value.slice (some ⟨g,0,none⟩) n cap).ownBlock=some g:=rfl
      rw [this];simp
    simp only [hob] at hd
    have hcap:n≤cap∧cap≤maxLen:=by
      rcases h.1.2 with ⟨hv,_⟩ | ⟨g',cap',cur,hv,_,_,hh1,hh2,_⟩
      · cases hv
      · injection hv with _ _ hv;subst hv;exact ⟨hh1,hh2⟩
    have hi:ts[k]?=some (ts[k]'(by omega)):=List.getElem?_eq_getElem (by omega)
    refine ⟨_,c0,c1,hi,by rw [h.1.cellAt _ (by omega)];exact h0,by rw [h.1.cellAt _ (by omega)];exact h1,hcap.1,hcap.2,hd,HE _ wr _ _ Dm hd (okTs_mem hoks hi) hDm4 (fun b hb=>?_)⟩
    rcases hb.1 with h' | h'
    · exact Nat.lt_of_lt_of_le (hB b h') hg.size
    · exact h'.2
  have hput:Hid (∀ (wr w2:World) g cap k cs t c0 c1,k<n→ts[k]?=some t→RowS D 97 (W.heap.size+1) B wr (.slice (some ⟨g,0,none⟩) n cap) n (fun i=>if i<k then (forceTs Dm ts)[i]? else ts[i]?) cs→wr.grownBy w2 none→D (fun b=>(fun b=>(B b∨W.heap.size+1≤b∧b<wr.heap.size)∧g≠b) b∨Fr wr w2 b) w2 (.agg #[c0,c1]) (forceT Dm t) →
      RowS D 97 (W.heap.size+1) B ((w2.setCell ⟨g,k*2,none⟩ c0).setCell ⟨g,k*2+1,none⟩ c1) (.slice (some ⟨g,0,none⟩) n cap) n (fun i=>if i<k+1 then (forceTs Dm ts)[i]? else ts[i]?) ((cs.set (k*2) c0).set (k*2+1) c1)):=fun wr w2 g cap k cs t c0 c1 hk ht h g2 hd=>by
    have hlt:=h.1.lt g rfl
    have hs2:=g2.size
    refine (RowS.put K (h.kept K g2) k hk (K.weak (fun b hb=>?_) hd)).sel (fun i t' hi=>?_)
    · rcases hb with hb | hb
      · exact ⟨hb.1.imp id fun h=>⟨h.1,by have:=h.2;omega⟩,hb.2⟩
      · exact ⟨.inr ⟨by have:=hb.1;omega,hb.2⟩,fun e=>by have:=hb.1;omega⟩
    · show (if i=k then some (forceT Dm t) else if i<k then _ else _)=some t'
      have hi':(if i<k+1 then (forceTs Dm ts)[i]? else ts[i]?)=some t':=hi
      by_cases hik:i=k
      · subst hik
        rw [if_pos (by omega),forceTs_get,ht] at hi'
        rw [if_pos rfl];exact hi'
      · rw [if_neg hik]
        by_cases hl:i<k
        · rw [if_pos (by omega)] at hi';rw [if_pos hl];exact hi'
        · rw [if_neg (by omega)] at hi';rw [if_neg hl];exact hi'
  have hcell:Hid (∀ (w:World) g cap k cs (s:Nat→Option Raw),k<n→RowS D 97 (W.heap.size+1) B w (.slice (some ⟨g,0,none⟩) n cap) n s cs→W.heap.size+1≤g∧g<w.heap.size∧(∃ v,w.cell? ⟨g,k*2,none⟩=some v)∧(∃ v,w.cell? ⟨g,k*2+1,none⟩=some v)∧∀ j,w.frozen? ⟨g,j,none⟩=false):=fun w g cap k cs s hk h=>by
    have hl:cs.length=n*2:=h.1.1
    have key:∀ o,o<2→∃ v,w.cell? ⟨g,k*2+o,none⟩=some v:=fun o h6=>by
      rw [h.1.cellAt _ (by omega)]
      exact ⟨_,List.getElem?_eq_getElem (by omega)⟩
    exact ⟨(h.1.lt g rfl).1,(h.1.lt g rfl).2,key 0 (by omega),key 1 (by omega),fun j=>h.1.frozenAt j⟩
  have hfin:Hid (∀ (w:World) g cap cs,(W.alloc (.cells #[.slice none 0 0,.int .u8 0] 108)).grownBy w none→RowS D 97 (W.heap.size+1) B w (.slice (some ⟨g,0,none⟩) n cap) n (fun i=>if i<n then (forceTs Dm ts)[i]? else ts[i]?) cs →
      FPost (DNode 6 D) B W (nodeT 6 0 f ts) (.returned (.agg #[.slice (some ⟨g,0,none⟩) n cap,.int .u8 Dm])) ((w.setCell ⟨W.heap.size,0,none⟩ (.slice (some ⟨g,0,none⟩) n cap)).setCell ⟨W.heap.size,1,none⟩ (.int .u8 Dm))):=fun w g cap cs g1 h=>by
    have h1:RowS D 97 (W.heap.size+1) B w (.slice (some ⟨g,0,none⟩) n cap) (forceTs Dm ts).length (fun i=>(forceTs Dm ts)[i]?) cs:=by
      rw [forceTs_len,hn]
      exact h.sel fun i t hi=>by
        have:=(List.getElem?_eq_some_iff.1 hi).1
        rw [forceTs_len,hn] at this
        show (if i<n then _ else _)=_
        rw [if_pos this];exact hi
    have hcap:n≤cap∧cap≤maxLen:=by
      rcases h.1.2 with ⟨hv,_⟩ | ⟨g',cap',cur,hv,_,_,hh1,hh2,_⟩
      · cases hv
      · injection hv with _ _ hv;subst hv;exact ⟨hh1,hh2⟩
    have nB:¬ B W.heap.size:=fun h=>by have:=hB _ h;omega
    have h2:=(h1.set K (q:=⟨W.heap.size,0,none⟩) (Nat.lt_succ_self _) nB (.slice (some ⟨g,0,none⟩) n cap)).set K (q:=⟨W.heap.size,1,none⟩) (Nat.lt_succ_self _) nB (.int .u8 Dm)
    have hl:(forceTs Dm ts).length=n:=by rw [forceTs_len,hn]
    refine ⟨_,rfl,⟨Dm,_,_,some ⟨g,0,none⟩,cap,hnode,hDm4,by rw [hl],by omega,hcap.2,h2.row K (by rw [hl]) (fun b hb=>.inl hb) (fun b h1 h2=>.inr ⟨by omega,h2⟩)⟩,gt_set_r (gt_set_r (gt_trans HG.out g1 (.inl rfl)) _ _ (Nat.le_refl _)) _ _ (Nat.le_refl _)⟩
  obtain ⟨DD,hDD⟩ : ∃ DD:Nat→Nat,DD=fun k=>dimsOf (ts.take k):=⟨_,rfl⟩
  have hDD':∀ k,dimsOf (ts.take k)=DD k:=fun k=>by rw [hDD]
  simp only [hDD'] at HDT HDL HDE hD0
  have hb:(0:Int)<(n:Int):=by omega
  have hc1':=Lib.hid hc1
  clear hrow hoks hfm hd4 HE HT hnode hDD hDD' hDm hc1 hc2 hc3 hne
  have hgs:∀ (w:World) (b jj:Nat) (y:Value),W.heap.size+1≤b→(W.alloc (.cells #[.slice none 0 0,.int .u8 0] 108)).grownBy w none→(W.alloc (.cells #[.slice none 0 0,.int .u8 0] 108)).grownBy (w.setCell ⟨b,jj,none⟩ y) none:=fun w b jj y hb g=>gt_set_r g _ _ (by simpa using hb)
  have HGs:=Lib.hid hgs
  clear hgs hB
  go_enter Tryz.func115,Tryz.ntmps115
  go_wp2_with fail
  go_loopw [3,12] (fun x i wr=>∃ k:Nat,k≤n∧i=.int .i64 k∧x=.int .u8 ((DD k:Nat):Int)∧(W.alloc (.cells #[.slice none 0 0,.int .u8 0] 108)).grownBy wr none) (fun _ i _=>n - (intOf i).toNat)
  case atStart=>exact ⟨0,by omega,rfl,by rw [hD0];rfl,gt_refl _ _⟩
  case round =>
    obtain ⟨k,hk,rfl,rfl,Gr⟩:=hrel
    rename World=>wr
    have Gw:=gt_trans HG.out Gr (.inl rfl)
    by_cases hkL:k<n
    · obtain ⟨t,a,c0,c1,hti,rfl,q0,q1,hd⟩:=HR.out wr Gw k hkL
      obtain ⟨ep,en,ec,er,he⟩:=HFM.out _ _ _ _ hd
      simp only [Value.agg.injEq,Array.mk.injEq,List.cons.injEq,and_true] at he
      obtain ⟨rfl,rfl⟩:=he
      have HD1:=Lib.hid (HDT.out k t hti)
      have hand:=and_u8 (DD k) (dimR t) (HDL.out k) (HD4.out _ _ _ hd)
      have HTT1:=Lib.hid (fun w (g:wr.grownBy w none)=>HTT.out w _ t (K.mono g hd))
      generalize dimR t=dt at HD1 hand HTT1
      clear hti hd
      go_wp2_with (first
        | (go_at_call 145;refine (HTT1.out _ (World.grownBy_alloc _ _ _)).mono ?_;rintro e w2 ⟨rfl,hg2⟩))
      exact ⟨⟨k+1,by omega,by go_num,by rw [HD1.out],gt_trans (gt_alloc_r Gr _) hg2 (.inl rfl)⟩,by simp [intOf];omega⟩
    · obtain rfl:k=n:=by omega
      have hDe:=HDE.out
      rw [hDe]
      have hlt:W.heap.size<wr.heap.size:=by have:=Gr.size;simp at this;omega
      go_wp2_with (first
        | (at_builtin;refine app_src rfl _ _ _ rfl Tryz.underlying106 (.agg #[.slice none 0 0,.int .u8 0]) 32 infoMp rfl (by omega) (AppV.nil wr 97 2 (W.heap.size+1)) rfl _ rfl k cs0 hcl hc1'.out (hsrc.out _ Gw) hlt (by omega) (by omega) ?_;intro v1 w1 H1;obtain ⟨g,cap,rfl,hrow,hg1⟩:=hstart.out _ _ _ Gw hlt H1;have HH:=Lib.hid hrow;clear hrow H1))
      go_loopw [25] (fun i w2=>∃ (j:Nat) (cs:List Value),j≤k∧i=.int .i64 j∧(W.alloc (.cells #[.slice none 0 0,.int .u8 0] 108)).grownBy w2 none∧RowS D 97 (W.heap.size+1) B w2 (.slice (some ⟨g,0,none⟩) k cap) k (fun i=>if i<j then (forceTs Dm ts)[i]? else ts[i]?) cs) (fun i _=>k - (intOf i).toNat)
      case atStart=>exact ⟨0,cs0,by omega,rfl,gt_trans Gr hg1 (.inl rfl),HH.out⟩
      case round =>
        clear HH hg1
        obtain ⟨j,cs,hj,rfl,G2,hrow⟩:=hrel
        rename World=>w2
        by_cases hjk:j<k
        · obtain ⟨t,c0,c1,hti,q0,q1,hcp1,hcp2,hd,HF⟩:=hel.out w2 g cap j cs hjk (gt_trans HG.out G2 (.inl rfl)) hrow
          obtain ⟨ep,en,ec,er,he⟩:=HFM.out _ _ _ _ hd
          simp only [Value.agg.injEq,Array.mk.injEq,List.cons.injEq,and_true] at he
          obtain ⟨rfl,rfl⟩:=he
          have HF1:=Lib.hid HF
          have HP1:=Lib.hid (fun w3 c0 c1=>hput.out w2 w3 g cap j cs t c0 c1 hjk hti hrow)
          have hgg:=hcell.out w2 g cap j cs _ hjk hrow
          have hgb:=hgg.1
          have hgs2:=hgg.2.1
          have HK1:Hid (∀ w,w2.grownBy w none→(∃ v,w.cell? ⟨g,j*2,none⟩=some v)∧(∃ v,w.cell? ⟨g,j*2+1,none⟩=some v)∧∀ i,w.frozen? ⟨g,i,none⟩=false):=fun w g'=>(hcell.out w g cap j cs _ hjk (hrow.kept K g')).2.2
          generalize forceT Dm t=t2 at HF1 HP1
          clear hti hd HF hrow hgg
          go_wp2_with (first
            | (go_at_call 108;refine (HF1.out).mono ?_;rintro e w3 ⟨v2,rfl,hd2,hg3⟩;obtain ⟨ep2,en2,ec2,er2,rfl⟩:=HFM.out _ _ _ _ hd2;have HD2:=Lib.hid (HP1.out w3 _ _ hg3 hd2);clear hd2;obtain ⟨⟨v0,x0⟩,⟨v1,x1⟩,xf⟩:=HK1.out _ hg3;have f0:=xf (j*2);have f1:=xf (j*2+1)))
          refine ⟨⟨j+1,_,by omega,by go_num,?_,HD2.out⟩,by simp [intOf];omega⟩
          exact HGs.out _ _ _ _ hgb (HGs.out _ _ _ _ hgb (gt_trans G2 hg3 (.inl rfl)))
        · obtain rfl:j=k:=by omega
          obtain ⟨x0,x1,f0,f1⟩:=HC2.out _ G2
          go_wp2_with fail
          go_wp2_with fail
          refine bodyPost_ret (by simp [results,Tryz.results115,go_sem,x0,x1];try rfl) rfl ?_
          exact hfin.out _ _ _ _ G2 hrow
theorem GcNew_of {D:(Nat→Prop)→World→Value→Raw→Prop} (K:DK D) (hfm:∀ {B:Nat→Prop} {W:World} {v:Value} {t:Raw},D B W v t→∃ (k:Int) (ty b:Nat),v=.agg #[.int .i64 k,.iface ty (.pointer (some ⟨b,0,none⟩))]) (hd4:∀ {B:Nat→Prop} {W:World} {v:Value} {t:Raw},D B W v t→dimR t<4) (HE:FC D 170) (HT:CC D 171) (B:Nat→Prop) (W:World) (p:Option Addr) (n c:Nat) (ts:List Raw) (f:Nat→Nat) (hrow:RowD D B W p ts) (hn:ts.length=n) (hn0:0<n) (hn2:n≤2000) (hoks:okTs ts) (hB:∀ b,B b→b<W.heap.size) :
    Calls Tryz.prog 117 #[.slice p n c] W (FPost (DNode 0 D) B W (nodeT 0 0 f ts)):=by
  obtain ⟨f',hnode⟩:=node_one 0 0 f ts
  have hne:ts≠[]:=fun h=>by rw [h] at hn;simp at hn;omega
  rw [if_neg hne,if_neg hne] at hnode
  have HFM:Hid (∀ (B:Nat→Prop) (W:World) (v:Value) (t:Raw),D B W v t→∃ (k:Int) (ty b:Nat),v=.agg #[.int .i64 k,.iface ty (.pointer (some ⟨b,0,none⟩))]):=fun B W v t h=>hfm h
  have HG:=Lib.hid (World.grownBy_alloc W (.cells #[.slice none 0 0,.int .u8 0] 112) none)
  have HC2:Hid (∀ w,(W.alloc (.cells #[.slice none 0 0,.int .u8 0] 112)).grownBy w none→w.cell? ⟨W.heap.size,0,none⟩=some (.slice none 0 0)∧w.cell? ⟨W.heap.size,1,none⟩=some (.int .u8 0)∧w.frozen? ⟨W.heap.size,0,none⟩=false∧w.frozen? ⟨W.heap.size,1,none⟩=false):=fun w g=>by
    have hb:=g.block W.heap.size (by simp) (by simp)
    refine ⟨g.cell (by simp) (by simp),g.cell (by simp) (by simp),?_,?_⟩ <;> (rw [World.frozen?_of_block hb];simp)
  have HR:Hid (∀ w,W.grownBy w none→∀ i,i<n→∃ t a c0 c1,ts[i]?=some t∧p=some a∧w.cell? (a.add (i*2))=some c0∧w.cell? ⟨(a.add (i*2)).block,(a.add (i*2)).off+1,none⟩=some c1∧D B w (.agg #[c0,c1]) t):=fun w g i hi=>by
    obtain ⟨a,ha⟩:=hrow.1 (by omega)
    obtain ⟨c0,c1,h0,h1,hd⟩:=(hrow.2 a ha).2 i (ts[i]'(by omega)) (List.getElem?_eq_getElem (by omega))
    exact ⟨ts[i]'(by omega),a,c0,c1,List.getElem?_eq_getElem (by omega),ha,g.cell h0 (by simp),g.cell h1 (by simp),K.mono g hd⟩
  have HDT:=Lib.hid (fun k t (h:ts[k]?=some t)=>dimsOf_take ts k t h)
  have HDL:=Lib.hid (fun k=>dimsOf_lt (ts.take k))
  have HDE:Hid (dimsOf (ts.take n)=dimsOf ts):=by rw [←hn,List.take_length];rfl
  have hD0:dimsOf (ts.take 0)=3:=rfl
  have HTT:Hid (∀ w v t,D B w v t→Calls Tryz.prog 171 #[v] w fun e w'=>e=.returned (.int .u8 (dimR t:Nat))∧w.grownBy w' none):=fun w v t h=>HT B w v t h
  have HD4:Hid (∀ w v t,D B w v t→dimR t<4):=fun w v t h=>hd4 h
  obtain ⟨cs0,hcl,hc1,hc2,hc3⟩:=hrow.cells K
  obtain ⟨Dm,hDm⟩ : ∃ Dm,Dm=dimsOf ts:=⟨_,rfl⟩
  have hDm4:Dm<4:=by rw [hDm];exact dimsOf_lt ts
  rw [←hDm] at HDE hnode
  rw [hn] at hcl
  have hsrc:Hid (∀ w,W.grownBy w none→(.slice p n c:Value)=.slice none 0 0∧n=0∨∃ ad cc,(.slice p n c:Value)=.slice (some ad) n cc∧∀ j u,cs0[j]?=some u→w.cell? (ad.add j)=some u):=fun w g=>by
    obtain ⟨a,ha⟩:=hrow.1 (by omega)
    exact .inr ⟨a,c,by rw [ha],fun j u hj=>g.cell (hc2 a ha j u hj) (by simp)⟩
  have hstart:Hid (∀ (wr w1:World) v1,W.grownBy wr none→W.heap.size<wr.heap.size→AppV 57 2 (W.heap.size+1) wr (.slice none 0 0) w1 v1 (0+n) ([]++cs0)→∃ g cap,v1=.slice (some ⟨g,0,none⟩) n cap∧RowS D 57 (W.heap.size+1) B w1 (.slice (some ⟨g,0,none⟩) n cap) n (fun i=>if i<0 then (forceTs Dm ts)[i]? else ts[i]?) cs0∧wr.grownBy w1 none):=fun wr w1 v1 g hlt H=>by
    rw [Nat.zero_add,List.nil_append] at H
    have hg:=H.grown0
    have ho:=H.own
    rcases ho.2 with ⟨_,h0⟩ | ⟨gb,cap,cur,rfl,_⟩
    · omega
    · refine ⟨gb,cap,rfl,⟨ho,fun i t hi=>?_⟩,hg⟩
      have hi:(if i<0 then (forceTs Dm ts)[i]? else ts[i]?)=some t:=hi
      rw [if_neg (by omega)] at hi
      obtain ⟨c0,c1,h0,h1,hd⟩:=hc3 i t hi
      have hl:=(ho.lt gb rfl).1
      refine ⟨c0,c1,h0,h1,K.weak (fun b hb=>⟨.inl hb,fun e=>?_⟩) (K.mono (gt_trans g hg (.inl rfl)) hd)⟩
      have:(Value.slice (some ⟨gb,0,none⟩) n cap).ownBlock=some gb:=rfl
      rw [this] at e;injection e with e;have:=hB b hb;omega
  have hel:Hid (∀ (wr:World) g cap k cs,k<n→W.grownBy wr none→RowS D 57 (W.heap.size+1) B wr (.slice (some ⟨g,0,none⟩) n cap) n (fun i=>if i<k then (forceTs Dm ts)[i]? else ts[i]?) cs→∃ t c0 c1,ts[k]?=some t∧wr.cell? ⟨g,k*2,none⟩=some c0∧wr.cell? ⟨g,k*2+1,none⟩=some c1∧n≤cap∧cap≤maxLen∧D (fun b=>(B b∨W.heap.size+1≤b∧b<wr.heap.size)∧g≠b) wr (.agg #[c0,c1]) t∧Calls Tryz.prog 170 #[.agg #[c0,c1],.int .u8 Dm] wr (FPost D (fun b=>(B b∨W.heap.size+1≤b∧b<wr.heap.size)∧g≠b) wr (forceT Dm t))):=fun wr g cap k cs hk hg h=>by
    have hl:cs.length=n*2:=h.1.1
    obtain ⟨c0,c1,h0,h1,hd⟩:=h.2 k (ts[k]'(by omega)) (by show (if k<k then _ else _)=_;rw [if_neg (by omega)];exact List.getElem?_eq_getElem (by omega))
    have hob:∀ b,(Value.slice (some ⟨g,0,none⟩) n cap).ownBlock≠some b↔g≠b:=fun b=>by
      have:(Value.slice (some ⟨g,0,none⟩) n cap).ownBlock=some g:=rfl
      rw [this];simp
    simp only [hob] at hd
    have hcap:n≤cap∧cap≤maxLen:=by
      rcases h.1.2 with ⟨hv,_⟩ | ⟨g',cap',cur,hv,_,_,hh1,hh2,_⟩
      · cases hv
      · injection hv with _ _ hv;subst hv;exact ⟨hh1,hh2⟩
    have hi:ts[k]?=some (ts[k]'(by omega)):=List.getElem?_eq_getElem (by omega)
    refine ⟨_,c0,c1,hi,by rw [h.1.cellAt _ (by omega)];exact h0,by rw [h.1.cellAt _ (by omega)];exact h1,hcap.1,hcap.2,hd,HE _ wr _ _ Dm hd (okTs_mem hoks hi) hDm4 (fun b hb=>?_)⟩
    rcases hb.1 with h' | h'
    · exact Nat.lt_of_lt_of_le (hB b h') hg.size
    · exact h'.2
  have hput:Hid (∀ (wr w2:World) g cap k cs t c0 c1,k<n→ts[k]?=some t→RowS D 57 (W.heap.size+1) B wr (.slice (some ⟨g,0,none⟩) n cap) n (fun i=>if i<k then (forceTs Dm ts)[i]? else ts[i]?) cs→wr.grownBy w2 none→D (fun b=>(fun b=>(B b∨W.heap.size+1≤b∧b<wr.heap.size)∧g≠b) b∨Fr wr w2 b) w2 (.agg #[c0,c1]) (forceT Dm t) →
      RowS D 57 (W.heap.size+1) B ((w2.setCell ⟨g,k*2,none⟩ c0).setCell ⟨g,k*2+1,none⟩ c1) (.slice (some ⟨g,0,none⟩) n cap) n (fun i=>if i<k+1 then (forceTs Dm ts)[i]? else ts[i]?) ((cs.set (k*2) c0).set (k*2+1) c1)):=fun wr w2 g cap k cs t c0 c1 hk ht h g2 hd=>by
    have hlt:=h.1.lt g rfl
    have hs2:=g2.size
    refine (RowS.put K (h.kept K g2) k hk (K.weak (fun b hb=>?_) hd)).sel (fun i t' hi=>?_)
    · rcases hb with hb | hb
      · exact ⟨hb.1.imp id fun h=>⟨h.1,by have:=h.2;omega⟩,hb.2⟩
      · exact ⟨.inr ⟨by have:=hb.1;omega,hb.2⟩,fun e=>by have:=hb.1;omega⟩
    · show (if i=k then some (forceT Dm t) else if i<k then _ else _)=some t'
      have hi':(if i<k+1 then (forceTs Dm ts)[i]? else ts[i]?)=some t':=hi
      by_cases hik:i=k
      · subst hik
        rw [if_pos (by omega),forceTs_get,ht] at hi'
        rw [if_pos rfl];exact hi'
      · rw [if_neg hik]
        by_cases hl:i<k
        · rw [if_pos (by omega)] at hi';rw [if_pos hl];exact hi'
        · rw [if_neg (by omega)] at hi';rw [if_neg hl];exact hi'
  have hcell:Hid (∀ (w:World) g cap k cs (s:Nat→Option Raw),k<n→RowS D 57 (W.heap.size+1) B w (.slice (some ⟨g,0,none⟩) n cap) n s cs→W.heap.size+1≤g∧g<w.heap.size∧(∃ v,w.cell? ⟨g,k*2,none⟩=some v)∧(∃ v,w.cell? ⟨g,k*2+1,none⟩=some v)∧∀ j,w.frozen? ⟨g,j,none⟩=false):=fun w g cap k cs s hk h=>by
    have hl:cs.length=n*2:=h.1.1
    have key:∀ o,o<2→∃ v,w.cell? ⟨g,k*2+o,none⟩=some v:=fun o h6=>by
      rw [h.1.cellAt _ (by omega)]
      exact ⟨_,List.getElem?_eq_getElem (by omega)⟩
    exact ⟨(h.1.lt g rfl).1,(h.1.lt g rfl).2,key 0 (by omega),key 1 (by omega),fun j=>h.1.frozenAt j⟩
  have hfin:Hid (∀ (w:World) g cap cs,(W.alloc (.cells #[.slice none 0 0,.int .u8 0] 112)).grownBy w none→RowS D 57 (W.heap.size+1) B w (.slice (some ⟨g,0,none⟩) n cap) n (fun i=>if i<n then (forceTs Dm ts)[i]? else ts[i]?) cs →
      FPost (DNode 0 D) B W (nodeT 0 0 f ts) (.returned (.agg #[.slice (some ⟨g,0,none⟩) n cap,.int .u8 Dm])) ((w.setCell ⟨W.heap.size,0,none⟩ (.slice (some ⟨g,0,none⟩) n cap)).setCell ⟨W.heap.size,1,none⟩ (.int .u8 Dm))):=fun w g cap cs g1 h=>by
    have h1:RowS D 57 (W.heap.size+1) B w (.slice (some ⟨g,0,none⟩) n cap) (forceTs Dm ts).length (fun i=>(forceTs Dm ts)[i]?) cs:=by
      rw [forceTs_len,hn]
      exact h.sel fun i t hi=>by
        have:=(List.getElem?_eq_some_iff.1 hi).1
        rw [forceTs_len,hn] at this
        show (if i<n then _ else _)=_
        rw [if_pos this];exact hi
    have hcap:n≤cap∧cap≤maxLen:=by
      rcases h.1.2 with ⟨hv,_⟩ | ⟨g',cap',cur,hv,_,_,hh1,hh2,_⟩
      · cases hv
      · injection hv with _ _ hv;subst hv;exact ⟨hh1,hh2⟩
    have nB:¬ B W.heap.size:=fun h=>by have:=hB _ h;omega
    have h2:=(h1.set K (q:=⟨W.heap.size,0,none⟩) (Nat.lt_succ_self _) nB (.slice (some ⟨g,0,none⟩) n cap)).set K (q:=⟨W.heap.size,1,none⟩) (Nat.lt_succ_self _) nB (.int .u8 Dm)
    have hl:(forceTs Dm ts).length=n:=by rw [forceTs_len,hn]
    refine ⟨_,rfl,⟨Dm,_,_,some ⟨g,0,none⟩,cap,hnode,hDm4,by rw [hl],by omega,hcap.2,h2.row K (by rw [hl]) (fun b hb=>.inl hb) (fun b h1 h2=>.inr ⟨by omega,h2⟩)⟩,gt_set_r (gt_set_r (gt_trans HG.out g1 (.inl rfl)) _ _ (Nat.le_refl _)) _ _ (Nat.le_refl _)⟩
  obtain ⟨DD,hDD⟩ : ∃ DD:Nat→Nat,DD=fun k=>dimsOf (ts.take k):=⟨_,rfl⟩
  have hDD':∀ k,dimsOf (ts.take k)=DD k:=fun k=>by rw [hDD]
  simp only [hDD'] at HDT HDL HDE hD0
  have hb:((n:Int)==0)=false:=by rw [beq_eq_false_iff_ne];omega
  have hc1':=Lib.hid hc1
  clear hrow hoks hfm hd4 HE HT hnode hDD hDD' hDm hc1 hc2 hc3 hne
  have hgs:∀ (w:World) (b jj:Nat) (y:Value),W.heap.size+1≤b→(W.alloc (.cells #[.slice none 0 0,.int .u8 0] 112)).grownBy w none→(W.alloc (.cells #[.slice none 0 0,.int .u8 0] 112)).grownBy (w.setCell ⟨b,jj,none⟩ y) none:=fun w b jj y hb g=>gt_set_r g _ _ (by simpa using hb)
  have HGs:=Lib.hid hgs
  clear hgs hB
  go_enter Tryz.func117,Tryz.ntmps117
  go_wp2_with fail
  go_loopw [3,13] (fun x i wr=>∃ k:Nat,k≤n∧i=.int .i64 k∧x=.int .u8 ((DD k:Nat):Int)∧(W.alloc (.cells #[.slice none 0 0,.int .u8 0] 112)).grownBy wr none) (fun _ i _=>n - (intOf i).toNat)
  case atStart=>exact ⟨0,by omega,rfl,by rw [hD0];rfl,gt_refl _ _⟩
  case round =>
    obtain ⟨k,hk,rfl,rfl,Gr⟩:=hrel
    rename World=>wr
    have Gw:=gt_trans HG.out Gr (.inl rfl)
    by_cases hkL:k<n
    · obtain ⟨t,a,c0,c1,hti,rfl,q0,q1,hd⟩:=HR.out wr Gw k hkL
      obtain ⟨ek,ety,eb,he⟩:=HFM.out _ _ _ _ hd
      simp only [Value.agg.injEq,Array.mk.injEq,List.cons.injEq,and_true] at he
      obtain ⟨rfl,rfl⟩:=he
      have HD1:=Lib.hid (HDT.out k t hti)
      have hand:=and_u8 (DD k) (dimR t) (HDL.out k) (HD4.out _ _ _ hd)
      have HTT1:=Lib.hid (fun w (g:wr.grownBy w none)=>HTT.out w _ t (K.mono g hd))
      generalize dimR t=dt at HD1 hand HTT1
      clear hti hd
      go_wp2_with (first
        | (go_at_call 171;refine (HTT1.out _ (World.grownBy_alloc _ _ _)).mono ?_;rintro e w2 ⟨rfl,hg2⟩))
      exact ⟨⟨k+1,by omega,by go_num,by rw [HD1.out],gt_trans (gt_alloc_r Gr _) hg2 (.inl rfl)⟩,by simp [intOf];omega⟩
    · obtain rfl:k=n:=by omega
      have hDe:=HDE.out
      rw [hDe]
      have hlt:W.heap.size<wr.heap.size:=by have:=Gr.size;simp at this;omega
      go_wp2_with (first
        | (at_builtin;refine app_src rfl _ _ _ rfl Tryz.underlying110 (.agg #[.int .i64 0,.nilIface]) 24 infoGc rfl (by omega) (AppV.nil wr 57 2 (W.heap.size+1)) rfl _ rfl k cs0 hcl hc1'.out (hsrc.out _ Gw) hlt (by omega) (by omega) ?_;intro v1 w1 H1;obtain ⟨g,cap,rfl,hrow,hg1⟩:=hstart.out _ _ _ Gw hlt H1;have HH:=Lib.hid hrow;clear hrow H1))
      go_loopw [26] (fun i w2=>∃ (j:Nat) (cs:List Value),j≤k∧i=.int .i64 j∧(W.alloc (.cells #[.slice none 0 0,.int .u8 0] 112)).grownBy w2 none∧RowS D 57 (W.heap.size+1) B w2 (.slice (some ⟨g,0,none⟩) k cap) k (fun i=>if i<j then (forceTs Dm ts)[i]? else ts[i]?) cs) (fun i _=>k - (intOf i).toNat)
      case atStart=>exact ⟨0,cs0,by omega,rfl,gt_trans Gr hg1 (.inl rfl),HH.out⟩
      case round =>
        clear HH hg1
        obtain ⟨j,cs,hj,rfl,G2,hrow⟩:=hrel
        rename World=>w2
        by_cases hjk:j<k
        · obtain ⟨t,c0,c1,hti,q0,q1,hcp1,hcp2,hd,HF⟩:=hel.out w2 g cap j cs hjk (gt_trans HG.out G2 (.inl rfl)) hrow
          obtain ⟨ek,ety,eb,he⟩:=HFM.out _ _ _ _ hd
          simp only [Value.agg.injEq,Array.mk.injEq,List.cons.injEq,and_true] at he
          obtain ⟨rfl,rfl⟩:=he
          have HF1:=Lib.hid HF
          have HP1:=Lib.hid (fun w3 c0 c1=>hput.out w2 w3 g cap j cs t c0 c1 hjk hti hrow)
          have hgg:=hcell.out w2 g cap j cs _ hjk hrow
          have hgb:=hgg.1
          have hgs2:=hgg.2.1
          have HK1:Hid (∀ w,w2.grownBy w none→(∃ v,w.cell? ⟨g,j*2,none⟩=some v)∧(∃ v,w.cell? ⟨g,j*2+1,none⟩=some v)∧∀ i,w.frozen? ⟨g,i,none⟩=false):=fun w g'=>(hcell.out w g cap j cs _ hjk (hrow.kept K g')).2.2
          generalize forceT Dm t=t2 at HF1 HP1
          clear hti hd HF hrow hgg
          go_wp2_with (first
            | (go_at_call 170;refine (HF1.out).mono ?_;rintro e w3 ⟨v2,rfl,hd2,hg3⟩;obtain ⟨ek2,ety2,eb2,rfl⟩:=HFM.out _ _ _ _ hd2;have HD2:=Lib.hid (HP1.out w3 _ _ hg3 hd2);clear hd2;obtain ⟨⟨v0,x0⟩,⟨v1,x1⟩,xf⟩:=HK1.out _ hg3;have f0:=xf (j*2);have f1:=xf (j*2+1)))
          refine ⟨⟨j+1,_,by omega,by go_num,?_,HD2.out⟩,by simp [intOf];omega⟩
          exact HGs.out _ _ _ _ hgb (HGs.out _ _ _ _ hgb (gt_trans G2 hg3 (.inl rfl)))
        · obtain rfl:j=k:=by omega
          obtain ⟨x0,x1,f0,f1⟩:=HC2.out _ G2
          go_wp2_with fail
          go_wp2_with fail
          refine bodyPost_ret (by simp [results,Tryz.results117,go_sem,x0,x1];try rfl) rfl ?_
          exact hfin.out _ _ _ _ G2 hrow
end
end Go.Proofs.YtlpaecafpbbbkaaGreatDoor
