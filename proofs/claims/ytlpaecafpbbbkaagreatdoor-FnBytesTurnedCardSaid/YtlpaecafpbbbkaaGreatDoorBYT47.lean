/- FnBytesTurned, walked whole: whatever the geometry, the place and the byte, it answers true. -/
import Derived.Test.YtlpaecafpbbbkaaGreatDoorBYT43
import Derived.Test.YtlpaecafpbbbkaaGreatDoorBYT46
set_option linter.unusedVariables false
set_option linter.unusedSimpArgs false
set_option maxRecDepth 100000
set_option maxHeartbeats 24000000
namespace Go.Proofs.YtlpaecafpbbbkaaGreatDoor
section
open Go.RowKit
theorem own_some {w:World} {base size n:Nat} {e:TypeId} {x:Value} {xs:List Value} (h:w.ownsRow base e size x n xs) (h0:0<n):∃ g c,x=.slice (some ⟨g,0,none⟩) n c:=by
  rcases h.2 with ⟨_,h1⟩ | ⟨g,cap,cur,hx,_⟩
  · omega
  · exact ⟨g,cap,hx⟩
theorem turned_in {w:World} {base g N c a:Nat} {L:List UInt8} {to8:UInt8} (hN:N=L.length) (hown:w.ownsRow base 5 1 (.slice (some ⟨g,0,none⟩) N c) N (Bs L)) (ha:a<N) :
    (∃ v,w.cell? ⟨g,a,none⟩=some v)∧w.frozen? ⟨g,a,none⟩=false∧BIn (w.setCell ⟨g,a,none⟩ (.int .u8 to8.toNat)) (.slice (some ⟨g,0,none⟩) N c) (L.set a to8)∧base≤g:=by
  refine ⟨?_,World.ownsRow.frozenAt hown a,?_,(hown.lt g rfl).1⟩
  · have:=World.ownsRow.cellAt hown a (by omega)
    exact ⟨_,this.trans (List.getElem?_eq_getElem (by rw [Bs_length];omega))⟩
  · have h1:=(World.ownsRow.stored hown a (.int .u8 to8.toNat)).1
    have e:Bs (L.set a to8)=(Bs L).set a (.int .u8 to8.toNat):=by unfold Bs;rw [List.map_set]
    rw [←e] at h1
    have e2:(L.set a to8).length=N:=by rw [List.length_set,hN]
    refine BIn.of_own (base:=base) (e:=5) ?_
    rw [e2]
    exact h1
theorem FnBytesTurned_any (h:Nat) (B:Nat→Prop) (W:World) (v:Value) (t:Raw) (at_ to_:Int) (hto:0≤to_∧to_≤255) (hk:KD B h W v t) :
    Calls Tryz.prog 5 #[v,.int .i64 at_,.int .u8 to_] W fun e w'=>e=.returned (.bool true)∧W.grownBy w' none:=by
  cases h with
  | zero=>exact hk.elim
  | succ h =>
  have hk0:=hk
  obtain ⟨k,d,n,f,kids⟩:=t
  obtain ⟨p,cap,q,c2,rfl,hf,h1,h2,h3,_⟩:=hk
  obtain ⟨m,hm⟩ : ∃ m,kids.length=m:=⟨_,rfl⟩
  rw [hm] at hk0 ⊢
  obtain ⟨t,htt⟩ : ∃ t,t=Raw.mk k d n f kids:=⟨_,rfl⟩
  rw [←htt] at hk0
  obtain ⟨W1,hW1⟩ : ∃ W1,W1=(W.alloc (.cells #[.int .i64 k,.int .i64 d,.slice p n cap,.slice q m c2] 33)):=⟨_,rfl⟩
  have hg1:W.grownBy W1 none:=by rw [hW1];exact World.grownBy_alloc _ _ _
  have HZ:=Lib.hid (fun w=>zzFits2_any w k d p q n cap m c2)
  have HS:Hid (∀ W',W1.grownBy W' none→W'.cell? ⟨W.heap.size,0,none⟩=some (.int .i64 k)∧W'.cell? ⟨W.heap.size,1,none⟩=some (.int .i64 d)∧W'.cell? ⟨W.heap.size,2,none⟩=some (.slice p n cap)∧W'.cell? ⟨W.heap.size,3,none⟩=some (.slice q m c2)):=fun W' g=>by
    rw [hW1] at g
    exact ⟨g.cell (by simp) (by simp),g.cell (by simp) (by simp),g.cell (by simp) (by simp),g.cell (by simp) (by simp)⟩
  have HG1:=Lib.hid hg1
  have HW1:=Lib.hid hW1
  have IS:=Lib.hid (fun W' b (g:W.grownBy W' none) (k0:W'.cell? ⟨b,0,none⟩=some (.int .i64 k)) (k1:W'.cell? ⟨b,0+1,none⟩=some (.int .i64 d)) (k2:W'.cell? ⟨b,0+2,none⟩=some (.slice p n cap)) (k3:W'.cell? ⟨b,0+3,none⟩=some (.slice q m c2)) =>
    gSmallD1 (h+1) W' ⟨b,0,none⟩ _ _ _ _ t (hk0.mono g) k0 k1 k2 k3)
  have IA:=Lib.hid (fun W' (g:W1.grownBy W' none)=>gAllN (h+1) B W' _ t (hk0.mono (gt_trans hg1 g (.inl rfl))))
  obtain ⟨s,hs⟩ : ∃ s,s=decide (wt t≤2000):=⟨_,rfl⟩
  rw [←hs] at IS
  have hbx:True:=trivial
  cases s
  · clear hk0 hs hf htt hm IA hg1 hW1 h1 h2 h3
    go_enter Tryz.func5,Tryz.ntmps5
    go_wp2_with (first
      | (go_at_call 19;refine (HZ.out _).mono ?_;rintro e w1 ⟨b1,rfl,_,hg⟩;rw [←HW1.out] at hg;obtain ⟨x0,x1,x2,x3⟩:=HS.out _ hg;have hg0:=gt_trans HG1.out hg (.inl rfl))
      | (go_at_call 20;refine (IS.out _ _ (gt_trans hg0 (World.grownBy_alloc _ _ _) (.inl rfl)) (by simp) (by simp) (by simp) (by simp)).mono ?_;rintro e w2 ⟨rfl,hg2⟩;have G2:=gt_trans hg (gt_trans (World.grownBy_alloc _ _ _) hg2 (.inl rfl)) (.inl rfl);obtain ⟨x0,x1,x2,x3⟩:=HS.out _ G2))
    all_goals first
      | (go_ret;exact ⟨rfl,hg0⟩)
      | (go_ret;exact ⟨rfl,gt_trans HG1.out G2 (.inl rfl)⟩)
      | (go_wp2_with (first | (go_at_call 20;refine (IS.out _ _ (gt_trans hg0 (World.grownBy_alloc _ _ _) (.inl rfl)) (by simp) (by simp) (by simp) (by simp)).mono ?_;rintro e w2 ⟨rfl,hg2⟩;have G2:=gt_trans hg (gt_trans (World.grownBy_alloc _ _ _) hg2 (.inl rfl)) (.inl rfl);obtain ⟨x0,x1,x2,x3⟩:=HS.out _ G2));go_ret;exact ⟨rfl,gt_trans HG1.out G2 (.inl rfl)⟩)
  have hw:wt t≤2000:=by simpa using hs.symm
  obtain ⟨al,hal⟩ : ∃ al,al=allN t:=⟨_,rfl⟩
  rw [←hal] at IA
  cases al
  · clear hk0 hs hf htt hm hg1 hW1 h1 h2 h3 hw hal
    go_enter Tryz.func5,Tryz.ntmps5
    go_wp2_with (first
      | (go_at_call 19;refine (HZ.out _).mono ?_;rintro e w1 ⟨b1,rfl,_,hg⟩;rw [←HW1.out] at hg;obtain ⟨x0,x1,x2,x3⟩:=HS.out _ hg;have hg0:=gt_trans HG1.out hg (.inl rfl))
      | (go_at_call 20;refine (IS.out _ _ (gt_trans hg0 (World.grownBy_alloc _ _ _) (.inl rfl)) (by simp) (by simp) (by simp) (by simp)).mono ?_;rintro e w2 ⟨rfl,hg2⟩;have G2:=gt_trans hg (gt_trans (World.grownBy_alloc _ _ _) hg2 (.inl rfl)) (.inl rfl);obtain ⟨x0,x1,x2,x3⟩:=HS.out _ G2)
      | (go_at_call 17;refine (IA.out _ G2).mono ?_;rintro e w3 ⟨rfl,hg3⟩;have G3:=gt_trans G2 hg3 (.inl rfl);obtain ⟨x0,x1,x2,x3⟩:=HS.out _ G3))
    all_goals first
      | (go_ret;exact ⟨rfl,hg0⟩)
      | (go_ret;exact ⟨rfl,gt_trans HG1.out G3 (.inl rfl)⟩)
      | (go_wp2_with (first | (go_at_call 20;refine (IS.out _ _ (gt_trans hg0 (World.grownBy_alloc _ _ _) (.inl rfl)) (by simp) (by simp) (by simp) (by simp)).mono ?_;rintro e w2 ⟨rfl,hg2⟩;have G2:=gt_trans hg (gt_trans (World.grownBy_alloc _ _ _) hg2 (.inl rfl)) (.inl rfl);obtain ⟨x0,x1,x2,x3⟩:=HS.out _ G2) | (go_at_call 17;refine (IA.out _ G2).mono ?_;rintro e w3 ⟨rfl,hg3⟩;have G3:=gt_trans G2 hg3 (.inl rfl);obtain ⟨x0,x1,x2,x3⟩:=HS.out _ G3));go_ret;exact ⟨rfl,gt_trans HG1.out G3 (.inl rfl)⟩)
  have hnn:=noN_of_all B W (h+1) _ t hk0 hal.symm
  have HN:=Lib.hid (fun w (g:W1.grownBy w none)=>(NewD (h+1) B w _ _ (hk0.mono (gt_trans hg1 g (.inl rfl))) hw).mono (fun e w' ⟨v',he,hk',hg⟩=>(by
    obtain ⟨k6,d6,n6,f6,kids6,p6,c6,q6,c7,e6,hv⟩:=hk'.form
    exact ⟨k6,d6,p6,n6,c6,q6,_,c7,by rw [he,hv],by rw [←hv];exact hk',hg⟩ : ∃ k6 d6 p6 n6 c6 q6 m6 c7,e=Ending.returned (.agg #[.int .i64 k6,.int .i64 d6,.slice p6 n6 c6,.slice q6 m6 c7])∧KD (Fr w w') (h+1) w' (.agg #[.int .i64 k6,.int .i64 d6,.slice p6 n6 c6,.slice q6 m6 c7]) (newT t)∧w.grownBy w' none)))
  obtain ⟨g1',g2'⟩:=new_gd t hw hnn
  have HWr:=Lib.hid (fun (B:Nat→Prop) (w:World) k6 d6 p6 q6 n6 c6 m6 c7 (hk6:KD B (h+1) w (.agg #[.int .i64 k6,.int .i64 d6,.slice p6 n6 c6,.slice q6 m6 c7]) (newT t))=>WriteWKB_any (h+1) B w k6 d6 p6 q6 n6 c6 m6 c7 (newT t) hk6 g1' (by omega))
  have HRd:=Lib.hid (fun W x l (hb:BIn W x l)=>FnBytesReads_any W x l hb)
  obtain ⟨L,hL⟩ : ∃ L,L=wrT (newT t):=⟨_,rfl⟩
  rw [←hL] at HWr
  generalize newT t=tn at HN HWr
  obtain ⟨N,hN⟩ : ∃ N,N=L.length:=⟨_,rfl⟩
  rw [←hN] at HWr
  have HNN:=Lib.hid hN
  obtain ⟨to8,hto8⟩ : ∃ u:UInt8,to_=(u.toNat:Int):=⟨UInt8.ofNat to_.toNat,by rw [UInt8.toNat_ofNat'];omega⟩
  subst hto8
  clear hk0 hs hf htt hm hg1 hW1 h1 h2 h3 hw hal hnn g1' g2' hL hN hto
  by_cases hN2:2000<N
  · have hNi:(2000:Int)<(N:Int):=by omega
    clear hN2
    go_enter Tryz.func5,Tryz.ntmps5
    go_wp2_with (first
      | (go_at_call 19;refine (HZ.out _).mono ?_;rintro e w1 ⟨b1,rfl,_,hg⟩;rw [←HW1.out] at hg;obtain ⟨x0,x1,x2,x3⟩:=HS.out _ hg;have hg0:=gt_trans HG1.out hg (.inl rfl))
      | (go_at_call 20;refine (IS.out _ _ (gt_trans hg0 (World.grownBy_alloc _ _ _) (.inl rfl)) (by simp) (by simp) (by simp) (by simp)).mono ?_;rintro e w2 ⟨rfl,hg2⟩;have G2:=gt_trans hg (gt_trans (World.grownBy_alloc _ _ _) hg2 (.inl rfl)) (.inl rfl);obtain ⟨x0,x1,x2,x3⟩:=HS.out _ G2)
      | (go_at_call 17;refine (IA.out _ G2).mono ?_;rintro e w3 ⟨rfl,hg3⟩;have G3:=gt_trans G2 hg3 (.inl rfl);obtain ⟨x0,x1,x2,x3⟩:=HS.out _ G3)
      | (go_at_call 22;refine (HN.out _ G3).mono ?_;rintro e w5 ⟨k6,d6,p6,n6,c6,q6,m6,c7,rfl,hk5,hg5⟩;have G5:=gt_trans G3 hg5 (.inl rfl);have Hk5:=Lib.hid hk5;clear hk5)
      | (go_at_call 21;refine (HWr.out _ _ _ _ _ _ _ _ _ _ Hk5.out).mono ?_;rintro e w6 ⟨x6,rfl,hown,hg6⟩;have G6:=gt_trans G5 hg6 (.inl rfl);rw [HNN.out] at hown;have HB6:=Lib.hid (BIn.of_own hown);obtain ⟨p9,c9,hx9,hn9,_⟩:=own_form hown;clear hown;rw [←HNN.out] at hx9 hn9;subst hx9))
    all_goals first
      | (go_ret;exact ⟨rfl,hg0⟩)
      | (go_ret;exact ⟨rfl,gt_trans HG1.out G6 (.inl rfl)⟩)
  have hN2i:¬ (2000:Int)<(N:Int):=by omega
  by_cases ha:0≤at_∧at_<(N:Int)
  · obtain ⟨a,rfl⟩ : ∃ a:Nat,at_=(a:Int):=⟨at_.toNat,by omega⟩
    have haN:a<N:=by omega
    have ha1:¬ (N:Int)≤(a:Int):=by omega
    have ha2:¬ (a:Int)<0:=by omega
    have hai:(a:Int)<(N:Int):=by omega
    have ha0i:(0:Int)≤(a:Int):=by omega
    clear ha
    go_enter Tryz.func5,Tryz.ntmps5
    go_wp2_with (first
      | (go_at_call 19;refine (HZ.out _).mono ?_;rintro e w1 ⟨b1,rfl,_,hg⟩;rw [←HW1.out] at hg;obtain ⟨x0,x1,x2,x3⟩:=HS.out _ hg;have hg0:=gt_trans HG1.out hg (.inl rfl))
      | (go_at_call 20;refine (IS.out _ _ (gt_trans hg0 (World.grownBy_alloc _ _ _) (.inl rfl)) (by simp) (by simp) (by simp) (by simp)).mono ?_;rintro e w2 ⟨rfl,hg2⟩;have G2:=gt_trans hg (gt_trans (World.grownBy_alloc _ _ _) hg2 (.inl rfl)) (.inl rfl);obtain ⟨x0,x1,x2,x3⟩:=HS.out _ G2)
      | (go_at_call 17;refine (IA.out _ G2).mono ?_;rintro e w3 ⟨rfl,hg3⟩;have G3:=gt_trans G2 hg3 (.inl rfl);obtain ⟨x0,x1,x2,x3⟩:=HS.out _ G3)
      | (go_at_call 22;refine (HN.out _ G3).mono ?_;rintro e w5 ⟨k6,d6,p6,n6,c6,q6,m6,c7,rfl,hk5,hg5⟩;have G5:=gt_trans G3 hg5 (.inl rfl);have Hk5:=Lib.hid hk5;clear hk5)
      | (go_at_call 21;refine (HWr.out _ _ _ _ _ _ _ _ _ _ Hk5.out).mono ?_;rintro e w6 ⟨x6,rfl,hown,hg6⟩;have G6:=gt_trans G5 hg6 (.inl rfl);obtain ⟨g9,c9,hx9⟩:=own_some hown (by omega);subst hx9;have HT:=Lib.hid (turned_in (a:=a) (to8:=to8) HNN.out hown haN);obtain ⟨vold,hold⟩:=HT.out.1;have hfz:=HT.out.2.1;have hs5:=G5.size;have hs1:=HG1.out.size;clear hown)
      | (go_at_call 4;go_loud ((with_reducible refine (HRd.out _ _ _ HT.out.2.2.1).mono ?_);rintro e w8 ⟨rfl,hg8⟩)))
    all_goals first
      | (go_ret;exact ⟨rfl,hg0⟩)
      | (go_ret;exact ⟨rfl,gt_trans (gt_set_r (gt_trans HG1.out G6 (.inl rfl)) _ _ (by have:=HT.out.2.2.2;show W.heap.size≤g9;omega)) hg8 (.inl rfl)⟩)
  · by_cases ha1:at_<0
    · clear ha
      go_enter Tryz.func5,Tryz.ntmps5
      go_wp2_with (first
        | (go_at_call 19;refine (HZ.out _).mono ?_;rintro e w1 ⟨b1,rfl,_,hg⟩;rw [←HW1.out] at hg;obtain ⟨x0,x1,x2,x3⟩:=HS.out _ hg;have hg0:=gt_trans HG1.out hg (.inl rfl))
        | (go_at_call 20;refine (IS.out _ _ (gt_trans hg0 (World.grownBy_alloc _ _ _) (.inl rfl)) (by simp) (by simp) (by simp) (by simp)).mono ?_;rintro e w2 ⟨rfl,hg2⟩;have G2:=gt_trans hg (gt_trans (World.grownBy_alloc _ _ _) hg2 (.inl rfl)) (.inl rfl);obtain ⟨x0,x1,x2,x3⟩:=HS.out _ G2)
        | (go_at_call 17;refine (IA.out _ G2).mono ?_;rintro e w3 ⟨rfl,hg3⟩;have G3:=gt_trans G2 hg3 (.inl rfl);obtain ⟨x0,x1,x2,x3⟩:=HS.out _ G3)
        | (go_at_call 22;refine (HN.out _ G3).mono ?_;rintro e w5 ⟨k6,d6,p6,n6,c6,q6,m6,c7,rfl,hk5,hg5⟩;have G5:=gt_trans G3 hg5 (.inl rfl);have Hk5:=Lib.hid hk5;clear hk5)
        | (go_at_call 21;refine (HWr.out _ _ _ _ _ _ _ _ _ _ Hk5.out).mono ?_;rintro e w6 ⟨x6,rfl,hown,hg6⟩;have G6:=gt_trans G5 hg6 (.inl rfl);rw [HNN.out] at hown;have HB6:=Lib.hid (BIn.of_own hown);obtain ⟨p9,c9,hx9,hn9,_⟩:=own_form hown;clear hown;rw [←HNN.out] at hx9 hn9;subst hx9))
      all_goals first
        | (go_ret;exact ⟨rfl,hg0⟩)
        | (go_ret;exact ⟨rfl,gt_trans HG1.out G6 (.inl rfl)⟩)
    · have ha2:(N:Int)≤at_:=by omega
      have ha3:¬ at_<(N:Int):=by omega
      clear ha
      go_enter Tryz.func5,Tryz.ntmps5
      go_wp2_with (first
        | (go_at_call 19;refine (HZ.out _).mono ?_;rintro e w1 ⟨b1,rfl,_,hg⟩;rw [←HW1.out] at hg;obtain ⟨x0,x1,x2,x3⟩:=HS.out _ hg;have hg0:=gt_trans HG1.out hg (.inl rfl))
        | (go_at_call 20;refine (IS.out _ _ (gt_trans hg0 (World.grownBy_alloc _ _ _) (.inl rfl)) (by simp) (by simp) (by simp) (by simp)).mono ?_;rintro e w2 ⟨rfl,hg2⟩;have G2:=gt_trans hg (gt_trans (World.grownBy_alloc _ _ _) hg2 (.inl rfl)) (.inl rfl);obtain ⟨x0,x1,x2,x3⟩:=HS.out _ G2)
        | (go_at_call 17;refine (IA.out _ G2).mono ?_;rintro e w3 ⟨rfl,hg3⟩;have G3:=gt_trans G2 hg3 (.inl rfl);obtain ⟨x0,x1,x2,x3⟩:=HS.out _ G3)
        | (go_at_call 22;refine (HN.out _ G3).mono ?_;rintro e w5 ⟨k6,d6,p6,n6,c6,q6,m6,c7,rfl,hk5,hg5⟩;have G5:=gt_trans G3 hg5 (.inl rfl);have Hk5:=Lib.hid hk5;clear hk5)
        | (go_at_call 21;refine (HWr.out _ _ _ _ _ _ _ _ _ _ Hk5.out).mono ?_;rintro e w6 ⟨x6,rfl,hown,hg6⟩;have G6:=gt_trans G5 hg6 (.inl rfl);rw [HNN.out] at hown;have HB6:=Lib.hid (BIn.of_own hown);obtain ⟨p9,c9,hx9,hn9,_⟩:=own_form hown;clear hown;rw [←HNN.out] at hx9 hn9;subst hx9))
      all_goals first
        | (go_ret;exact ⟨rfl,hg0⟩)
        | (go_ret;exact ⟨rfl,gt_trans HG1.out G6 (.inl rfl)⟩)
end
end Go.Proofs.YtlpaecafpbbbkaaGreatDoor
