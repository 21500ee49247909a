/- The rectangles about an empty shape are empty ones of its kind. -/
import Derived.Test.YtlpaecafpbbbkaaGreatDoorRCT7
import Derived.Test.YtlpaecafpbbbkaaGreatDoorRCT21
import Derived.Test.YtlpaecafpbbbkaaGreatDoorRCT26
set_option linter.unusedVariables false
set_option linter.unusedSimpArgs false
set_option maxRecDepth 100000
set_option maxHeartbeats 24000000
namespace Go.Proofs.YtlpaecafpbbbkaaGreatDoor
section
open Go.RowKit
def RPost (H:Nat) (r:Raw) (W:World) (e:Ending) (w':World):Prop:=∃ (k d:Int) (p:Option Addr) (n cap:Nat) (q:Option Addr) (m c:Nat),e=.returned (.agg #[.int .i64 k,.int .i64 d,.slice p n cap,.slice q m c])∧KD (Fr W w') H w' (.agg #[.int .i64 k,.int .i64 d,.slice p n cap,.slice q m c]) r∧W.grownBy w' none
theorem RPost.back {H:Nat} {W w w':World} {r:Raw} {e:Ending} (hs:W.heap.size+2≤w.heap.size) (hp:RPost H r w e w'):∃ (k d:Int) (p:Option Addr) (n cap:Nat) (q:Option Addr) (m c:Nat),e=.returned (.agg #[.int .i64 k,.int .i64 d,.slice p n cap,.slice q m c])∧KD (fun b=>W.heap.size+2≤b∧b<w'.heap.size) H w' (.agg #[.int .i64 k,.int .i64 d,.slice p n cap,.slice q m c]) r∧w.grownBy w' none:=by
  obtain ⟨k,d,p,n,cap,q,m,c,rfl,hk,hg⟩:=hp
  exact ⟨k,d,p,n,cap,q,m,c,rfl,hk.weak fun b hb=>⟨Nat.le_trans hs hb.1,hb.2⟩,hg⟩
theorem KClose {H:Nat} {W w:World} {v x0 x1 x2 x3:Value} {r:Raw} (g:W.grownBy w none) (hk:KD (fun b=>W.heap.size+2≤b∧b<w.heap.size) H w v r) :
    KD (Fr W ((((w.setCell ⟨W.heap.size+1,0,none⟩ x0).setCell ⟨W.heap.size+1,1,none⟩ x1).setCell ⟨W.heap.size+1,2,none⟩ x2).setCell ⟨W.heap.size+1,3,none⟩ x3)) H ((((w.setCell ⟨W.heap.size+1,0,none⟩ x0).setCell ⟨W.heap.size+1,1,none⟩ x1).setCell ⟨W.heap.size+1,2,none⟩ x2).setCell ⟨W.heap.size+1,3,none⟩ x3) v r∧W.grownBy ((((w.setCell ⟨W.heap.size+1,0,none⟩ x0).setCell ⟨W.heap.size+1,1,none⟩ x1).setCell ⟨W.heap.size+1,2,none⟩ x2).setCell ⟨W.heap.size+1,3,none⟩ x3) none:=by
  have ks:∀ (u:World) (j:Nat) (y:Value),Kept (fun b=>W.heap.size+2≤b∧b<w.heap.size) u (u.setCell ⟨W.heap.size+1,j,none⟩ y):=fun u j y=>.set (fun hB=>by have h2:W.heap.size+2≤W.heap.size+1:=hB.1;omega) y
  have gs:∀ (u:World) (j:Nat) (y:Value),W.grownBy u none→W.grownBy (u.setCell ⟨W.heap.size+1,j,none⟩ y) none:=fun u j y g=>gt_set_r g _ _ (Nat.le_succ _)
  exact ⟨((((hk.keep (ks _ _ _)).keep (ks _ _ _)).keep (ks _ _ _)).keep (ks _ _ _)).weak fun b hb=>⟨by have:=hb.1;omega,by simp [World.setCell];exact hb.2⟩,gs _ _ _ (gs _ _ _ (gs _ _ _ (gs _ _ _ g)))⟩
theorem KD.kind {H:Nat} {B:Nat→Prop} {W:World} {k d:Int} {p q:Option Addr} {n cap m c:Nat} {r:Raw} (hk:KD B H W (.agg #[.int .i64 k,.int .i64 d,.slice p n cap,.slice q m c]) r):k=kindOf r:=by
  obtain ⟨k6,d6,n6,f6,kids6,p6,cap6,q6,cq6,rfl,hv⟩:=hk.form
  simp only [Value.agg.injEq,Array.mk.injEq,List.cons.injEq,Value.int.injEq,true_and] at hv
  exact hv.1
theorem MinArea_em (h:Nat) (B:Nat→Prop) (W:World) (k d:Int) (p q:Option Addr) (n cap m c:Nat) (t:Raw) (hk:KD B h W (.agg #[.int .i64 k,.int .i64 d,.slice p n cap,.slice q m c]) t) (hem:emR t):Calls Tryz.prog 46 #[.agg #[.int .i64 k,.int .i64 d,.slice p n cap,.slice q m c]] W (RPost (h+2) (dataT (forceT 0 (newT t))) W):=by
  have HBd:Hid (∀ w,W.grownBy w none→Calls Tryz.prog 29 #[.agg #[.int .i64 k,.int .i64 d,.slice p n cap,.slice q m c]] w fun e w'=>∃ k2 ty2 b2,e=.returned (.agg #[.int .i64 k2,.iface ty2 (.pointer (some ⟨b2,0,none⟩))])∧DGeo h (Fr w w') w' (.agg #[.int .i64 k2,.iface ty2 (.pointer (some ⟨b2,0,none⟩))]) (newT t)∧w.grownBy w' none):=fun w g =>
    (GeoBC h B w _ t (hk.mono g) hem.wt).mono fun e w' ⟨v',he,hd',hg⟩=>by
      obtain ⟨k2,ty2,b2,rfl⟩:=hd'.form
      exact ⟨k2,ty2,b2,he,hd',hg⟩
  have HR:Hid (∀ (B':Nat→Prop) w k ty b,DGeo h B' w (.agg #[.int .i64 k,.iface ty (.pointer (some ⟨b,0,none⟩))]) (newT t)→(∀ b,B' b→b<w.heap.size)→Calls Tryz.prog 93 #[.agg #[.int .i64 k,.iface ty (.pointer (some ⟨b,0,none⟩))]] w (GPost h B' w (forceT 0 (newT t)))):=fun B' w k ty b hd hB=>RotArea_em h B' w k ty b _ hd hem.new hB
  have HP:Hid (∀ (B':Nat→Prop) w v,DGeo h B' w v (forceT 0 (newT t))→(∀ b,B' b→b<w.heap.size)→Calls Tryz.prog 32 #[v] w (RPost (h+2) (dataT (forceT 0 (newT t))) w)):=fun B' w v hd hB=>(plain_all h B' w v _ hd (hem.new.force 0).okT hB).mono fun e w' ⟨v',he,hk',hg⟩=>by
    obtain ⟨k6,d6,n6,f6,kids6,p6,cap6,q6,cq6,_,hv⟩:=hk'.form
    exact ⟨k6,d6,p6,n6,cap6,q6,_,cq6,by rw [he,hv],by rw [←hv];exact hk',hg⟩
  have HG:=Lib.hid (gt_alloc_r (World.grownBy_alloc W (.cells #[.int .i64 k,.int .i64 d,.slice p n cap,.slice q m c] 33) none) (.cells #[.int .i64 0,.int .i64 0,.slice none 0 0,.slice none 0 0] 33))
  have HB:Hid (∀ w,((W.alloc (.cells #[.int .i64 k,.int .i64 d,.slice p n cap,.slice q m c] 33)).alloc (.cells #[.int .i64 0,.int .i64 0,.slice none 0 0,.slice none 0 0] 33)).grownBy w none→(w.cell? ⟨W.heap.size+1,0,none⟩=some (.int .i64 0)∧w.cell? ⟨W.heap.size+1,1,none⟩=some (.int .i64 0)∧w.cell? ⟨W.heap.size+1,2,none⟩=some (.slice none 0 0)∧w.cell? ⟨W.heap.size+1,3,none⟩=some (.slice none 0 0))∧(∀ j,w.frozen? ⟨W.heap.size+1,j,none⟩=false)∧W.heap.size+2≤w.heap.size):=fun w g=>by
    have hb:=g.block (W.heap.size+1) (by simp) (by simp)
    refine ⟨⟨g.cell (by simp) (by simp),g.cell (by simp) (by simp),g.cell (by simp) (by simp),g.cell (by simp) (by simp)⟩,fun j=>?_,by have:=g.size;simp at this;omega⟩
    rw [World.frozen?_of_block hb];simp
  clear hk hem
  go_enter Tryz.func46,Tryz.ntmps46
  go_wp2_with (first
    | (go_at_call 29;refine (HBd.out _ HG.out).mono ?_;rintro e w1 ⟨k1,ty1,b1,rfl,hd1,hg1⟩;have HD1:=Lib.hid hd1;clear hd1;have G1:=gt_trans HG.out hg1 (.inl rfl))
    | (go_at_call 93;refine (HR.out _ _ _ _ _ HD1.out (fun b hb=>hb.2)).mono ?_;rintro e w2 ⟨k3,ty3,b3,rfl,hd2,hg2⟩;have HD2:=Lib.hid hd2;clear hd2;have g12:=gt_trans hg1 hg2 (.inl rfl);have hs2:=(HB.out _ g12).2.2)
    | (go_at_call 32;refine (HP.out _ _ _ HD2.out (fun b hb=>hb.elim (fun hb=>Nat.lt_of_lt_of_le hb.2 hg2.size) (fun hb=>hb.2))).mono ?_;intro e w3 hp;obtain ⟨k2,d2,p2,n2,cap2,q2,m2,c2,rfl,hk2,hg3⟩:=RPost.back (W:=W) hs2 hp;have HK2:=Lib.hid hk2;clear hk2 hp;have GG:=gt_trans g12 hg3 (.inl rfl);obtain ⟨⟨r0,r1,r2,r3⟩,rf,_⟩:=HB.out _ GG;have rf0:=rf 0;have rf1:=rf 1;have rf2:=rf 2;have rf3:=rf 3))
  refine bodyPost_ret (by simp [results,Tryz.results46,go_sem,r0,r1,r2,r3];try rfl) rfl ?_
  obtain ⟨h1,h2⟩:=KClose (x0:=.int .i64 k2) (x1:=.int .i64 d2) (x2:=.slice p2 n2 cap2) (x3:=.slice q2 m2 c2) (gt_trans HG.out GG (.inl rfl)) HK2.out
  exact ⟨_,_,_,_,_,_,_,_,rfl,h1,h2⟩
theorem MinWidth_em (h:Nat) (B:Nat→Prop) (W:World) (k d:Int) (p q:Option Addr) (n cap m c:Nat) (t:Raw) (hk:KD B h W (.agg #[.int .i64 k,.int .i64 d,.slice p n cap,.slice q m c]) t) (hem:emR t):Calls Tryz.prog 45 #[.agg #[.int .i64 k,.int .i64 d,.slice p n cap,.slice q m c]] W (RPost (h+2) (dataT (forceT 0 (newT t))) W):=by
  have HBd:Hid (∀ w,W.grownBy w none→Calls Tryz.prog 29 #[.agg #[.int .i64 k,.int .i64 d,.slice p n cap,.slice q m c]] w fun e w'=>∃ k2 ty2 b2,e=.returned (.agg #[.int .i64 k2,.iface ty2 (.pointer (some ⟨b2,0,none⟩))])∧DGeo h (Fr w w') w' (.agg #[.int .i64 k2,.iface ty2 (.pointer (some ⟨b2,0,none⟩))]) (newT t)∧w.grownBy w' none):=fun w g =>
    (GeoBC h B w _ t (hk.mono g) hem.wt).mono fun e w' ⟨v',he,hd',hg⟩=>by
      obtain ⟨k2,ty2,b2,rfl⟩:=hd'.form
      exact ⟨k2,ty2,b2,he,hd',hg⟩
  have HR:Hid (∀ (B':Nat→Prop) w k ty b,DGeo h B' w (.agg #[.int .i64 k,.iface ty (.pointer (some ⟨b,0,none⟩))]) (newT t)→(∀ b,B' b→b<w.heap.size)→Calls Tryz.prog 92 #[.agg #[.int .i64 k,.iface ty (.pointer (some ⟨b,0,none⟩))]] w (GPost h B' w (forceT 0 (newT t)))):=fun B' w k ty b hd hB=>RotWidth_em h B' w k ty b _ hd hem.new hB
  have HP:Hid (∀ (B':Nat→Prop) w v,DGeo h B' w v (forceT 0 (newT t))→(∀ b,B' b→b<w.heap.size)→Calls Tryz.prog 32 #[v] w (RPost (h+2) (dataT (forceT 0 (newT t))) w)):=fun B' w v hd hB=>(plain_all h B' w v _ hd (hem.new.force 0).okT hB).mono fun e w' ⟨v',he,hk',hg⟩=>by
    obtain ⟨k6,d6,n6,f6,kids6,p6,cap6,q6,cq6,_,hv⟩:=hk'.form
    exact ⟨k6,d6,p6,n6,cap6,q6,_,cq6,by rw [he,hv],by rw [←hv];exact hk',hg⟩
  have HG:=Lib.hid (gt_alloc_r (World.grownBy_alloc W (.cells #[.int .i64 k,.int .i64 d,.slice p n cap,.slice q m c] 33) none) (.cells #[.int .i64 0,.int .i64 0,.slice none 0 0,.slice none 0 0] 33))
  have HB:Hid (∀ w,((W.alloc (.cells #[.int .i64 k,.int .i64 d,.slice p n cap,.slice q m c] 33)).alloc (.cells #[.int .i64 0,.int .i64 0,.slice none 0 0,.slice none 0 0] 33)).grownBy w none→(w.cell? ⟨W.heap.size+1,0,none⟩=some (.int .i64 0)∧w.cell? ⟨W.heap.size+1,1,none⟩=some (.int .i64 0)∧w.cell? ⟨W.heap.size+1,2,none⟩=some (.slice none 0 0)∧w.cell? ⟨W.heap.size+1,3,none⟩=some (.slice none 0 0))∧(∀ j,w.frozen? ⟨W.heap.size+1,j,none⟩=false)∧W.heap.size+2≤w.heap.size):=fun w g=>by
    have hb:=g.block (W.heap.size+1) (by simp) (by simp)
    refine ⟨⟨g.cell (by simp) (by simp),g.cell (by simp) (by simp),g.cell (by simp) (by simp),g.cell (by simp) (by simp)⟩,fun j=>?_,by have:=g.size;simp at this;omega⟩
    rw [World.frozen?_of_block hb];simp
  clear hk hem
  go_enter Tryz.func45,Tryz.ntmps45
  go_wp2_with (first
    | (go_at_call 29;refine (HBd.out _ HG.out).mono ?_;rintro e w1 ⟨k1,ty1,b1,rfl,hd1,hg1⟩;have HD1:=Lib.hid hd1;clear hd1;have G1:=gt_trans HG.out hg1 (.inl rfl))
    | (go_at_call 92;refine (HR.out _ _ _ _ _ HD1.out (fun b hb=>hb.2)).mono ?_;rintro e w2 ⟨k3,ty3,b3,rfl,hd2,hg2⟩;have HD2:=Lib.hid hd2;clear hd2;have g12:=gt_trans hg1 hg2 (.inl rfl);have hs2:=(HB.out _ g12).2.2)
    | (go_at_call 32;refine (HP.out _ _ _ HD2.out (fun b hb=>hb.elim (fun hb=>Nat.lt_of_lt_of_le hb.2 hg2.size) (fun hb=>hb.2))).mono ?_;intro e w3 hp;obtain ⟨k2,d2,p2,n2,cap2,q2,m2,c2,rfl,hk2,hg3⟩:=RPost.back (W:=W) hs2 hp;have HK2:=Lib.hid hk2;clear hk2 hp;have GG:=gt_trans g12 hg3 (.inl rfl);obtain ⟨⟨r0,r1,r2,r3⟩,rf,_⟩:=HB.out _ GG;have rf0:=rf 0;have rf1:=rf 1;have rf2:=rf 2;have rf3:=rf 3))
  refine bodyPost_ret (by simp [results,Tryz.results45,go_sem,r0,r1,r2,r3];try rfl) rfl ?_
  obtain ⟨h1,h2⟩:=KClose (x0:=.int .i64 k2) (x1:=.int .i64 d2) (x2:=.slice p2 n2 cap2) (x3:=.slice q2 m2 c2) (gt_trans HG.out GG (.inl rfl)) HK2.out
  exact ⟨_,_,_,_,_,_,_,_,rfl,h1,h2⟩
theorem rectangle_em (h:Nat) (B:Nat→Prop) (W:World) (k d:Int) (p q:Option Addr) (n cap m c:Nat) (t:Raw) (width:Bool) (hk:KD B h W (.agg #[.int .i64 k,.int .i64 d,.slice p n cap,.slice q m c]) t) (hem:emR t):Calls Tryz.prog 25 #[.agg #[.int .i64 k,.int .i64 d,.slice p n cap,.slice q m c],.bool width] W (RPost (h+2) (dataT (forceT 0 (newT t))) W):=by
  have HA:Hid (∀ w,W.grownBy w none→Calls Tryz.prog 46 #[.agg #[.int .i64 k,.int .i64 d,.slice p n cap,.slice q m c]] w (RPost (h+2) (dataT (forceT 0 (newT t))) w)):=fun w g=>MinArea_em h B w k d p q n cap m c t (hk.mono g) hem
  have HW:Hid (∀ w,W.grownBy w none→Calls Tryz.prog 45 #[.agg #[.int .i64 k,.int .i64 d,.slice p n cap,.slice q m c]] w (RPost (h+2) (dataT (forceT 0 (newT t))) w)):=fun w g=>MinWidth_em h B w k d p q n cap m c t (hk.mono g) hem
  have HG:=Lib.hid (gt_alloc_r (World.grownBy_alloc W (.cells #[.int .i64 k,.int .i64 d,.slice p n cap,.slice q m c] 33) none) (.cells #[.int .i64 0,.int .i64 0,.slice none 0 0,.slice none 0 0] 33))
  have HB:Hid (∀ w,((W.alloc (.cells #[.int .i64 k,.int .i64 d,.slice p n cap,.slice q m c] 33)).alloc (.cells #[.int .i64 0,.int .i64 0,.slice none 0 0,.slice none 0 0] 33)).grownBy w none→(w.cell? ⟨W.heap.size+1,0,none⟩=some (.int .i64 0)∧w.cell? ⟨W.heap.size+1,1,none⟩=some (.int .i64 0)∧w.cell? ⟨W.heap.size+1,2,none⟩=some (.slice none 0 0)∧w.cell? ⟨W.heap.size+1,3,none⟩=some (.slice none 0 0))∧(∀ j,w.frozen? ⟨W.heap.size+1,j,none⟩=false)∧W.heap.size+2≤w.heap.size):=fun w g=>by
    have hb:=g.block (W.heap.size+1) (by simp) (by simp)
    refine ⟨⟨g.cell (by simp) (by simp),g.cell (by simp) (by simp),g.cell (by simp) (by simp),g.cell (by simp) (by simp)⟩,fun j=>?_,by have:=g.size;simp at this;omega⟩
    rw [World.frozen?_of_block hb];simp
  clear hk hem
  cases width
  · go_enter Tryz.func25,Tryz.ntmps25
    go_wp2_with (first
      | (go_at_call 46;refine (HA.out _ HG.out).mono ?_;intro e w3 hp;obtain ⟨k2,d2,p2,n2,cap2,q2,m2,c2,rfl,hk2,GG⟩:=RPost.back (W:=W) (by simp) hp;have HK2:=Lib.hid hk2;clear hk2 hp;obtain ⟨⟨r0,r1,r2,r3⟩,rf,_⟩:=HB.out _ GG;have rf0:=rf 0;have rf1:=rf 1;have rf2:=rf 2;have rf3:=rf 3))
    refine bodyPost_ret (by simp [results,Tryz.results25,go_sem,r0,r1,r2,r3];try rfl) rfl ?_
    obtain ⟨h1,h2⟩:=KClose (x0:=.int .i64 k2) (x1:=.int .i64 d2) (x2:=.slice p2 n2 cap2) (x3:=.slice q2 m2 c2) (gt_trans HG.out GG (.inl rfl)) HK2.out
    exact ⟨_,_,_,_,_,_,_,_,rfl,h1,h2⟩
  · go_enter Tryz.func25,Tryz.ntmps25
    go_wp2_with (first
      | (go_at_call 45;refine (HW.out _ HG.out).mono ?_;intro e w3 hp;obtain ⟨k2,d2,p2,n2,cap2,q2,m2,c2,rfl,hk2,GG⟩:=RPost.back (W:=W) (by simp) hp;have HK2:=Lib.hid hk2;clear hk2 hp;obtain ⟨⟨r0,r1,r2,r3⟩,rf,_⟩:=HB.out _ GG;have rf0:=rf 0;have rf1:=rf 1;have rf2:=rf 2;have rf3:=rf 3))
    refine bodyPost_ret (by simp [results,Tryz.results25,go_sem,r0,r1,r2,r3];try rfl) rfl ?_
    obtain ⟨h1,h2⟩:=KClose (x0:=.int .i64 k2) (x1:=.int .i64 d2) (x2:=.slice p2 n2 cap2) (x3:=.slice q2 m2 c2) (gt_trans HG.out GG (.inl rfl)) HK2.out
    exact ⟨_,_,_,_,_,_,_,_,rfl,h1,h2⟩
theorem IsEmpty_em (h:Nat) (B:Nat→Prop) (W:World) (k d:Int) (p q:Option Addr) (n cap m c:Nat) (t:Raw) (hk:KD B h W (.agg #[.int .i64 k,.int .i64 d,.slice p n cap,.slice q m c]) t) (hem:emR t):Calls Tryz.prog 26 #[.agg #[.int .i64 k,.int .i64 d,.slice p n cap,.slice q m c]] W (EPost W true):=by
  have HBd:Hid (∀ w,W.grownBy w none→Calls Tryz.prog 29 #[.agg #[.int .i64 k,.int .i64 d,.slice p n cap,.slice q m c]] w fun e w'=>∃ k2 ty2 b2,e=.returned (.agg #[.int .i64 k2,.iface ty2 (.pointer (some ⟨b2,0,none⟩))])∧DGeo h (Fr w w') w' (.agg #[.int .i64 k2,.iface ty2 (.pointer (some ⟨b2,0,none⟩))]) (newT t)∧w.grownBy w' none):=fun w g =>
    (GeoBC h B w _ t (hk.mono g) hem.wt).mono fun e w' ⟨v',he,hd',hg⟩=>by
      obtain ⟨k2,ty2,b2,rfl⟩:=hd'.form
      exact ⟨k2,ty2,b2,he,hd',hg⟩
  have HE:Hid (∀ (B':Nat→Prop) w v,DGeo h B' w v (newT t)→Calls Tryz.prog 47 #[v] w (EPost w true)):=fun B' w v hd=>GeoEC h B' w v _ hd hem.new.emT
  have HG:=Lib.hid (World.grownBy_alloc W (.cells #[.int .i64 k,.int .i64 d,.slice p n cap,.slice q m c] 33) none)
  clear hk hem
  go_enter Tryz.func26,Tryz.ntmps26
  go_wp2_with (first
    | (go_at_call 29;refine (HBd.out _ HG.out).mono ?_;rintro e w1 ⟨k1,ty1,b1,rfl,hd1,hg1⟩;have HD1:=Lib.hid hd1;clear hd1)
    | (go_at_call 47;refine (HE.out _ _ _ HD1.out).mono ?_;rintro e w2 ⟨rfl,hg2⟩))
  go_ret
  exact ⟨rfl,gt_trans (gt_trans HG.out hg1 (.inl rfl)) hg2 (.inl rfl)⟩
theorem formed_of2 (b:Bool) (most:Int) (k:Int) (p q:Option Addr) (n cap m c:Nat) (W:World) (H:∀ w,W.grownBy w none→Calls Tryz.prog 27 #[.agg #[.int .i64 k,.slice p n cap,.slice q m c],.int .i64 most,.int .i64 100] w (EPost w b)) :
    Calls Tryz.prog 9 #[.agg #[.int .i64 k,.slice p n cap,.slice q m c],.int .i64 most] W (EPost W b):=by
  have HH:=Lib.hid H
  have HG:=Lib.hid (World.grownBy_alloc W (.cells #[.int .i64 k,.slice p n cap,.slice q m c] 25) none)
  clear H
  go_enter Tryz.func9,Tryz.ntmps9
  go_wp2_with (first
    | (go_at_call 27;refine (HH.out _ HG.out).mono ?_;rintro e w2 ⟨rfl,hg2⟩))
  go_ret
  exact ⟨rfl,gt_trans HG.out hg2 (.inl rfl)⟩
theorem size_of2 (r:Int) (k:Int) (p q:Option Addr) (n cap m c:Nat) (W:World) (H:∀ w,W.grownBy w none→Calls Tryz.prog 28 #[.agg #[.int .i64 k,.slice p n cap,.slice q m c],.int .i64 100] w (SPostI w r)) :
    Calls Tryz.prog 10 #[.agg #[.int .i64 k,.slice p n cap,.slice q m c]] W (SPostI W r):=by
  have HH:=Lib.hid H
  have HG:=Lib.hid (World.grownBy_alloc W (.cells #[.int .i64 k,.slice p n cap,.slice q m c] 25) none)
  clear H
  go_enter Tryz.func10,Tryz.ntmps10
  go_wp2_with (first
    | (go_at_call 28;refine (HH.out _ HG.out).mono ?_;rintro e w2 ⟨rfl,hg2⟩))
  go_ret
  exact ⟨rfl,gt_trans HG.out hg2 (.inl rfl)⟩
theorem FnRectangleEmpty_any (h:Nat) (W:World) (v:Value) (t:Shp) (width:Bool) (hk:KS h W v t) (hrow:rowS t):Calls Tryz.prog 7 #[v,.bool width] W (EPost W true):=by
  obtain ⟨k,pts,kids,p,cap,q,c,ht,rfl⟩:=hk.form
  generalize pts.length=n at hk ⊢
  generalize kids.length=m at hk ⊢
  have hkS:kindS t=k:=by rw [ht];rfl
  clear ht
  have HZ:Hid (∀ w,W.grownBy w none→Calls Tryz.prog 8 #[.agg #[.int .i64 k,.slice p n cap,.slice q m c]] w (EPost w (decide (n≤2147483647)&&decide (m≤2147483647)))):=fun w _=>zzFits1_any k p q n cap m c w
  have HF:Hid (∀ w,W.grownBy w none→Calls Tryz.prog 9 #[.agg #[.int .i64 k,.slice p n cap,.slice q m c],.int .i64 1000] w (EPost w (fmB t 100))):=fun w g=>formed_of2 _ _ _ _ _ _ _ _ _ w fun w' g'=>formedB_any h w' _ t 100 (by omega) (by omega) ((hk.mono g).mono g')
  have HSz:Hid (∀ w,W.grownBy w none→Calls Tryz.prog 10 #[.agg #[.int .i64 k,.slice p n cap,.slice q m c]] w (SPostI w (szI t 100))):=fun w g=>size_of2 _ _ _ _ _ _ _ _ w fun w' g'=>size_any h w' _ t 100 (by omega) (by omega) ((hk.mono g).mono g')
  have HE:Hid (∀ w,W.grownBy w none→Calls Tryz.prog 23 #[.agg #[.int .i64 k,.slice p n cap,.slice q m c]] w (EPost w (emB t))):=fun w g=>empty_any h w _ t (hk.mono g)
  have HR:Hid (∀ w,W.grownBy w none→Calls Tryz.prog 24 #[.agg #[.int .i64 k,.slice p n cap,.slice q m c]] w (EPost w (erB t))):=fun w g=>ring_any h w _ t (hk.mono g)
  have HFg0:Hid (okS t→∀ w,W.grownBy w none→Calls Tryz.prog 12 #[.agg #[.int .i64 k,.slice p n cap,.slice q m c]] w (RPost h (rawS t) w)):=fun hok w g=>figure_any h w k p q n cap m c t (hk.mono g) hok
  have HG:=Lib.hid (World.grownBy_alloc W (.cells #[.int .i64 k,.slice p n cap,.slice q m c] 25) none)
  have HC0:Hid (∀ w',(W.alloc (.cells #[.int .i64 k,.slice p n cap,.slice q m c] 25)).grownBy w' none→w'.cell? ⟨W.heap.size,0,none⟩=some (.int .i64 k)∧w'.cell? ⟨W.heap.size,1,none⟩=some (.slice p n cap)∧w'.cell? ⟨W.heap.size,2,none⟩=some (.slice q m c)):=fun w g=>⟨g.cell (by simp) (by simp),g.cell (by simp) (by simp),g.cell (by simp) (by simp)⟩
  clear hk
  generalize (decide (n≤2147483647)&&decide (m≤2147483647))=zb at HZ
  have HLaw:Hid (fmB t 100=true→emB t=true→erB t=false→okS t∧emR (rawS t)∧emR (newT (rawS t))∧emR (forceT 0 (newT (rawS t)))∧emR (dataT (forceT 0 (newT (rawS t))))∧emR (newT (dataT (forceT 0 (newT (rawS t)))))∧kindOf (dataT (forceT 0 (newT (rawS t))))=k):=fun h1 h2 h3=>by rw [←hkS];exact rect_law h1 h2 h3 hrow
  clear hrow hkS
  generalize szI t 100=sz at HSz
  generalize hfb:fmB t 100=fb at HF HLaw
  generalize heb:emB t=eb at HE HLaw
  generalize hrb:erB t=rb at HR HLaw
  clear hfb heb hrb
  by_cases hbad:zb=false∨fb=false∨200<sz∨eb=false∨rb=true
  · clear HFg0 HLaw
    cases zb
    · go_enter Tryz.func7,Tryz.ntmps7
      go_wp2_with (first
    | (go_at_call 8;refine (HZ.out _ HG.out).mono ?_;rintro e w1 ⟨rfl,hg1⟩;have G1:=gt_trans HG.out hg1 (.inl rfl);obtain ⟨x0,x1,x2⟩:=HC0.out _ hg1)
    | (go_at_call 9;refine (HF.out _ G1).mono ?_;rintro e w2 ⟨rfl,hg2⟩;have G2:=gt_trans G1 hg2 (.inl rfl);have g12:=gt_trans hg1 hg2 (.inl rfl);obtain ⟨y0,y1,y2⟩:=HC0.out _ g12)
    | (go_at_call 10;refine (HSz.out _ G2).mono ?_;rintro e w3 ⟨rfl,hg3⟩;have G3:=gt_trans G2 hg3 (.inl rfl);have g13:=gt_trans g12 hg3 (.inl rfl);obtain ⟨u0,u1,u2⟩:=HC0.out _ g13)
    | (go_at_call 23;refine (HE.out _ G3).mono ?_;rintro e w4 ⟨rfl,hg4⟩;have G4:=gt_trans G3 hg4 (.inl rfl);have g14:=gt_trans g13 hg4 (.inl rfl);obtain ⟨v0,v1,v2⟩:=HC0.out _ g14)
    | (go_at_call 24;refine (HR.out _ G4).mono ?_;rintro e w5 ⟨rfl,hg5⟩;have G5:=gt_trans G4 hg5 (.inl rfl);have g15:=gt_trans g14 hg5 (.inl rfl);obtain ⟨z0,z1,z2⟩:=HC0.out _ g15)
    | (go_at_call 12;refine (HFg.out _ G5).mono ?_;rintro e w6 ⟨k6,d6,p6,n6,cap6,q6,m6,cq6,rfl,hk6,hg6⟩;have Hk6:=Lib.hid hk6;clear hk6;have G6:=gt_trans G5 hg6 (.inl rfl);have g16:=gt_trans g15 hg6 (.inl rfl))
    | (go_at_call 25;refine (HRe.out _ _ _ _ _ _ _ _ _ _ Hk6.out).mono ?_;rintro e w7 ⟨k7,d7,p7,n7,cap7,q7,m7,cq7,rfl,hk7,hg7⟩;obtain rfl:=(KD.kind hk7).trans HKind.out;have Hk7:=Lib.hid hk7;clear hk7;have G7:=gt_trans G6 hg7 (.inl rfl);have g17:=gt_trans g16 hg7 (.inl rfl);obtain ⟨t0,t1,t2⟩:=HC0.out _ (gt_alloc_r g17 (.cells #[.int .i64 k7,.int .i64 d7,.slice p7 n7 cap7,.slice q7 m7 cq7] 33));have hkk:(k7==k7)=true:=beq_self_eq_true k7)
    | (go_at_call 26;refine (HIs.out _ _ _ _ _ _ _ _ _ _ (Hk7.out.mono (World.grownBy_alloc _ _ _))).mono ?_;rintro e w8 ⟨rfl,hg8⟩;have G8:=gt_trans (gt_alloc_r G7 _) hg8 (.inl rfl)))
      go_ret
      exact ⟨rfl,G1⟩
    · cases fb
      · go_enter Tryz.func7,Tryz.ntmps7
        go_wp2_with (first
    | (go_at_call 8;refine (HZ.out _ HG.out).mono ?_;rintro e w1 ⟨rfl,hg1⟩;have G1:=gt_trans HG.out hg1 (.inl rfl);obtain ⟨x0,x1,x2⟩:=HC0.out _ hg1)
    | (go_at_call 9;refine (HF.out _ G1).mono ?_;rintro e w2 ⟨rfl,hg2⟩;have G2:=gt_trans G1 hg2 (.inl rfl);have g12:=gt_trans hg1 hg2 (.inl rfl);obtain ⟨y0,y1,y2⟩:=HC0.out _ g12)
    | (go_at_call 10;refine (HSz.out _ G2).mono ?_;rintro e w3 ⟨rfl,hg3⟩;have G3:=gt_trans G2 hg3 (.inl rfl);have g13:=gt_trans g12 hg3 (.inl rfl);obtain ⟨u0,u1,u2⟩:=HC0.out _ g13)
    | (go_at_call 23;refine (HE.out _ G3).mono ?_;rintro e w4 ⟨rfl,hg4⟩;have G4:=gt_trans G3 hg4 (.inl rfl);have g14:=gt_trans g13 hg4 (.inl rfl);obtain ⟨v0,v1,v2⟩:=HC0.out _ g14)
    | (go_at_call 24;refine (HR.out _ G4).mono ?_;rintro e w5 ⟨rfl,hg5⟩;have G5:=gt_trans G4 hg5 (.inl rfl);have g15:=gt_trans g14 hg5 (.inl rfl);obtain ⟨z0,z1,z2⟩:=HC0.out _ g15)
    | (go_at_call 12;refine (HFg.out _ G5).mono ?_;rintro e w6 ⟨k6,d6,p6,n6,cap6,q6,m6,cq6,rfl,hk6,hg6⟩;have Hk6:=Lib.hid hk6;clear hk6;have G6:=gt_trans G5 hg6 (.inl rfl);have g16:=gt_trans g15 hg6 (.inl rfl))
    | (go_at_call 25;refine (HRe.out _ _ _ _ _ _ _ _ _ _ Hk6.out).mono ?_;rintro e w7 ⟨k7,d7,p7,n7,cap7,q7,m7,cq7,rfl,hk7,hg7⟩;obtain rfl:=(KD.kind hk7).trans HKind.out;have Hk7:=Lib.hid hk7;clear hk7;have G7:=gt_trans G6 hg7 (.inl rfl);have g17:=gt_trans g16 hg7 (.inl rfl);obtain ⟨t0,t1,t2⟩:=HC0.out _ (gt_alloc_r g17 (.cells #[.int .i64 k7,.int .i64 d7,.slice p7 n7 cap7,.slice q7 m7 cq7] 33));have hkk:(k7==k7)=true:=beq_self_eq_true k7)
    | (go_at_call 26;refine (HIs.out _ _ _ _ _ _ _ _ _ _ (Hk7.out.mono (World.grownBy_alloc _ _ _))).mono ?_;rintro e w8 ⟨rfl,hg8⟩;have G8:=gt_trans (gt_alloc_r G7 _) hg8 (.inl rfl)))
        go_ret
        exact ⟨rfl,G2⟩
      · by_cases hsz:200<sz
        · go_enter Tryz.func7,Tryz.ntmps7
          go_wp2_with (first
    | (go_at_call 8;refine (HZ.out _ HG.out).mono ?_;rintro e w1 ⟨rfl,hg1⟩;have G1:=gt_trans HG.out hg1 (.inl rfl);obtain ⟨x0,x1,x2⟩:=HC0.out _ hg1)
    | (go_at_call 9;refine (HF.out _ G1).mono ?_;rintro e w2 ⟨rfl,hg2⟩;have G2:=gt_trans G1 hg2 (.inl rfl);have g12:=gt_trans hg1 hg2 (.inl rfl);obtain ⟨y0,y1,y2⟩:=HC0.out _ g12)
    | (go_at_call 10;refine (HSz.out _ G2).mono ?_;rintro e w3 ⟨rfl,hg3⟩;have G3:=gt_trans G2 hg3 (.inl rfl);have g13:=gt_trans g12 hg3 (.inl rfl);obtain ⟨u0,u1,u2⟩:=HC0.out _ g13)
    | (go_at_call 23;refine (HE.out _ G3).mono ?_;rintro e w4 ⟨rfl,hg4⟩;have G4:=gt_trans G3 hg4 (.inl rfl);have g14:=gt_trans g13 hg4 (.inl rfl);obtain ⟨v0,v1,v2⟩:=HC0.out _ g14)
    | (go_at_call 24;refine (HR.out _ G4).mono ?_;rintro e w5 ⟨rfl,hg5⟩;have G5:=gt_trans G4 hg5 (.inl rfl);have g15:=gt_trans g14 hg5 (.inl rfl);obtain ⟨z0,z1,z2⟩:=HC0.out _ g15)
    | (go_at_call 12;refine (HFg.out _ G5).mono ?_;rintro e w6 ⟨k6,d6,p6,n6,cap6,q6,m6,cq6,rfl,hk6,hg6⟩;have Hk6:=Lib.hid hk6;clear hk6;have G6:=gt_trans G5 hg6 (.inl rfl);have g16:=gt_trans g15 hg6 (.inl rfl))
    | (go_at_call 25;refine (HRe.out _ _ _ _ _ _ _ _ _ _ Hk6.out).mono ?_;rintro e w7 ⟨k7,d7,p7,n7,cap7,q7,m7,cq7,rfl,hk7,hg7⟩;obtain rfl:=(KD.kind hk7).trans HKind.out;have Hk7:=Lib.hid hk7;clear hk7;have G7:=gt_trans G6 hg7 (.inl rfl);have g17:=gt_trans g16 hg7 (.inl rfl);obtain ⟨t0,t1,t2⟩:=HC0.out _ (gt_alloc_r g17 (.cells #[.int .i64 k7,.int .i64 d7,.slice p7 n7 cap7,.slice q7 m7 cq7] 33));have hkk:(k7==k7)=true:=beq_self_eq_true k7)
    | (go_at_call 26;refine (HIs.out _ _ _ _ _ _ _ _ _ _ (Hk7.out.mono (World.grownBy_alloc _ _ _))).mono ?_;rintro e w8 ⟨rfl,hg8⟩;have G8:=gt_trans (gt_alloc_r G7 _) hg8 (.inl rfl)))
          go_ret
          exact ⟨rfl,G3⟩
        · cases eb
          · go_enter Tryz.func7,Tryz.ntmps7
            go_wp2_with (first
    | (go_at_call 8;refine (HZ.out _ HG.out).mono ?_;rintro e w1 ⟨rfl,hg1⟩;have G1:=gt_trans HG.out hg1 (.inl rfl);obtain ⟨x0,x1,x2⟩:=HC0.out _ hg1)
    | (go_at_call 9;refine (HF.out _ G1).mono ?_;rintro e w2 ⟨rfl,hg2⟩;have G2:=gt_trans G1 hg2 (.inl rfl);have g12:=gt_trans hg1 hg2 (.inl rfl);obtain ⟨y0,y1,y2⟩:=HC0.out _ g12)
    | (go_at_call 10;refine (HSz.out _ G2).mono ?_;rintro e w3 ⟨rfl,hg3⟩;have G3:=gt_trans G2 hg3 (.inl rfl);have g13:=gt_trans g12 hg3 (.inl rfl);obtain ⟨u0,u1,u2⟩:=HC0.out _ g13)
    | (go_at_call 23;refine (HE.out _ G3).mono ?_;rintro e w4 ⟨rfl,hg4⟩;have G4:=gt_trans G3 hg4 (.inl rfl);have g14:=gt_trans g13 hg4 (.inl rfl);obtain ⟨v0,v1,v2⟩:=HC0.out _ g14)
    | (go_at_call 24;refine (HR.out _ G4).mono ?_;rintro e w5 ⟨rfl,hg5⟩;have G5:=gt_trans G4 hg5 (.inl rfl);have g15:=gt_trans g14 hg5 (.inl rfl);obtain ⟨z0,z1,z2⟩:=HC0.out _ g15)
    | (go_at_call 12;refine (HFg.out _ G5).mono ?_;rintro e w6 ⟨k6,d6,p6,n6,cap6,q6,m6,cq6,rfl,hk6,hg6⟩;have Hk6:=Lib.hid hk6;clear hk6;have G6:=gt_trans G5 hg6 (.inl rfl);have g16:=gt_trans g15 hg6 (.inl rfl))
    | (go_at_call 25;refine (HRe.out _ _ _ _ _ _ _ _ _ _ Hk6.out).mono ?_;rintro e w7 ⟨k7,d7,p7,n7,cap7,q7,m7,cq7,rfl,hk7,hg7⟩;obtain rfl:=(KD.kind hk7).trans HKind.out;have Hk7:=Lib.hid hk7;clear hk7;have G7:=gt_trans G6 hg7 (.inl rfl);have g17:=gt_trans g16 hg7 (.inl rfl);obtain ⟨t0,t1,t2⟩:=HC0.out _ (gt_alloc_r g17 (.cells #[.int .i64 k7,.int .i64 d7,.slice p7 n7 cap7,.slice q7 m7 cq7] 33));have hkk:(k7==k7)=true:=beq_self_eq_true k7)
    | (go_at_call 26;refine (HIs.out _ _ _ _ _ _ _ _ _ _ (Hk7.out.mono (World.grownBy_alloc _ _ _))).mono ?_;rintro e w8 ⟨rfl,hg8⟩;have G8:=gt_trans (gt_alloc_r G7 _) hg8 (.inl rfl)))
            go_ret
            exact ⟨rfl,G4⟩
          · cases rb
            · exact absurd hbad (by simp;omega)
            · go_enter Tryz.func7,Tryz.ntmps7
              go_wp2_with (first
    | (go_at_call 8;refine (HZ.out _ HG.out).mono ?_;rintro e w1 ⟨rfl,hg1⟩;have G1:=gt_trans HG.out hg1 (.inl rfl);obtain ⟨x0,x1,x2⟩:=HC0.out _ hg1)
    | (go_at_call 9;refine (HF.out _ G1).mono ?_;rintro e w2 ⟨rfl,hg2⟩;have G2:=gt_trans G1 hg2 (.inl rfl);have g12:=gt_trans hg1 hg2 (.inl rfl);obtain ⟨y0,y1,y2⟩:=HC0.out _ g12)
    | (go_at_call 10;refine (HSz.out _ G2).mono ?_;rintro e w3 ⟨rfl,hg3⟩;have G3:=gt_trans G2 hg3 (.inl rfl);have g13:=gt_trans g12 hg3 (.inl rfl);obtain ⟨u0,u1,u2⟩:=HC0.out _ g13)
    | (go_at_call 23;refine (HE.out _ G3).mono ?_;rintro e w4 ⟨rfl,hg4⟩;have G4:=gt_trans G3 hg4 (.inl rfl);have g14:=gt_trans g13 hg4 (.inl rfl);obtain ⟨v0,v1,v2⟩:=HC0.out _ g14)
    | (go_at_call 24;refine (HR.out _ G4).mono ?_;rintro e w5 ⟨rfl,hg5⟩;have G5:=gt_trans G4 hg5 (.inl rfl);have g15:=gt_trans g14 hg5 (.inl rfl);obtain ⟨z0,z1,z2⟩:=HC0.out _ g15)
    | (go_at_call 12;refine (HFg.out _ G5).mono ?_;rintro e w6 ⟨k6,d6,p6,n6,cap6,q6,m6,cq6,rfl,hk6,hg6⟩;have Hk6:=Lib.hid hk6;clear hk6;have G6:=gt_trans G5 hg6 (.inl rfl);have g16:=gt_trans g15 hg6 (.inl rfl))
    | (go_at_call 25;refine (HRe.out _ _ _ _ _ _ _ _ _ _ Hk6.out).mono ?_;rintro e w7 ⟨k7,d7,p7,n7,cap7,q7,m7,cq7,rfl,hk7,hg7⟩;obtain rfl:=(KD.kind hk7).trans HKind.out;have Hk7:=Lib.hid hk7;clear hk7;have G7:=gt_trans G6 hg7 (.inl rfl);have g17:=gt_trans g16 hg7 (.inl rfl);obtain ⟨t0,t1,t2⟩:=HC0.out _ (gt_alloc_r g17 (.cells #[.int .i64 k7,.int .i64 d7,.slice p7 n7 cap7,.slice q7 m7 cq7] 33));have hkk:(k7==k7)=true:=beq_self_eq_true k7)
    | (go_at_call 26;refine (HIs.out _ _ _ _ _ _ _ _ _ _ (Hk7.out.mono (World.grownBy_alloc _ _ _))).mono ?_;rintro e w8 ⟨rfl,hg8⟩;have G8:=gt_trans (gt_alloc_r G7 _) hg8 (.inl rfl)))
              go_ret
              exact ⟨rfl,G5⟩
  · have hz1:zb=true:=by cases zb with | false=>exact absurd (.inl rfl) hbad | true=>rfl
    have hf1:fb=true:=by cases fb with | false=>exact absurd (.inr (.inl rfl)) hbad | true=>rfl
    have hs1:¬ 200<sz:=fun h=>hbad (.inr (.inr (.inl h)))
    have he1:eb=true:=by cases eb with | false=>exact absurd (.inr (.inr (.inr (.inl rfl)))) hbad | true=>rfl
    have hr1:rb=false:=by cases rb with | true=>exact absurd (.inr (.inr (.inr (.inr rfl)))) hbad | false=>rfl
    subst hz1 hf1 he1 hr1
    obtain ⟨l1,l2,l3,l4,l5,l6,l7⟩:=HLaw.out rfl rfl rfl
    have HFg:=Lib.hid (HFg0.out l1)
    have HRe:Hid (∀ (B:Nat→Prop) w k d p q n cap m c,KD B h w (.agg #[.int .i64 k,.int .i64 d,.slice p n cap,.slice q m c]) (rawS t)→Calls Tryz.prog 25 #[.agg #[.int .i64 k,.int .i64 d,.slice p n cap,.slice q m c],.bool width] w (RPost (h+2) (dataT (forceT 0 (newT (rawS t)))) w)):=fun B w k d p q n cap m c hk=>rectangle_em h B w k d p q n cap m c _ width hk l2
    have HIs:Hid (∀ (B:Nat→Prop) w k d p q n cap m c,KD B (h+2) w (.agg #[.int .i64 k,.int .i64 d,.slice p n cap,.slice q m c]) (dataT (forceT 0 (newT (rawS t))))→Calls Tryz.prog 26 #[.agg #[.int .i64 k,.int .i64 d,.slice p n cap,.slice q m c]] w (EPost w true)):=fun B w k d p q n cap m c hk=>IsEmpty_em (h+2) B w k d p q n cap m c _ hk l5
    have HKind:=Lib.hid l7
    generalize dataT (forceT 0 (newT (rawS t)))=r7 at HRe HIs HKind
    clear hbad HLaw HFg0 l1 l2 l3 l4 l5 l6 l7
    go_enter Tryz.func7,Tryz.ntmps7
    go_wp2_with (first
    | (go_at_call 8;refine (HZ.out _ HG.out).mono ?_;rintro e w1 ⟨rfl,hg1⟩;have G1:=gt_trans HG.out hg1 (.inl rfl);obtain ⟨x0,x1,x2⟩:=HC0.out _ hg1)
    | (go_at_call 9;refine (HF.out _ G1).mono ?_;rintro e w2 ⟨rfl,hg2⟩;have G2:=gt_trans G1 hg2 (.inl rfl);have g12:=gt_trans hg1 hg2 (.inl rfl);obtain ⟨y0,y1,y2⟩:=HC0.out _ g12)
    | (go_at_call 10;refine (HSz.out _ G2).mono ?_;rintro e w3 ⟨rfl,hg3⟩;have G3:=gt_trans G2 hg3 (.inl rfl);have g13:=gt_trans g12 hg3 (.inl rfl);obtain ⟨u0,u1,u2⟩:=HC0.out _ g13)
    | (go_at_call 23;refine (HE.out _ G3).mono ?_;rintro e w4 ⟨rfl,hg4⟩;have G4:=gt_trans G3 hg4 (.inl rfl);have g14:=gt_trans g13 hg4 (.inl rfl);obtain ⟨v0,v1,v2⟩:=HC0.out _ g14)
    | (go_at_call 24;refine (HR.out _ G4).mono ?_;rintro e w5 ⟨rfl,hg5⟩;have G5:=gt_trans G4 hg5 (.inl rfl);have g15:=gt_trans g14 hg5 (.inl rfl);obtain ⟨z0,z1,z2⟩:=HC0.out _ g15)
    | (go_at_call 12;refine (HFg.out _ G5).mono ?_;rintro e w6 ⟨k6,d6,p6,n6,cap6,q6,m6,cq6,rfl,hk6,hg6⟩;have Hk6:=Lib.hid hk6;clear hk6;have G6:=gt_trans G5 hg6 (.inl rfl);have g16:=gt_trans g15 hg6 (.inl rfl))
    | (go_at_call 25;refine (HRe.out _ _ _ _ _ _ _ _ _ _ Hk6.out).mono ?_;rintro e w7 ⟨k7,d7,p7,n7,cap7,q7,m7,cq7,rfl,hk7,hg7⟩;obtain rfl:=(KD.kind hk7).trans HKind.out;have Hk7:=Lib.hid hk7;clear hk7;have G7:=gt_trans G6 hg7 (.inl rfl);have g17:=gt_trans g16 hg7 (.inl rfl);obtain ⟨t0,t1,t2⟩:=HC0.out _ (gt_alloc_r g17 (.cells #[.int .i64 k7,.int .i64 d7,.slice p7 n7 cap7,.slice q7 m7 cq7] 33));have hkk:(k7==k7)=true:=beq_self_eq_true k7)
    | (go_at_call 26;refine (HIs.out _ _ _ _ _ _ _ _ _ _ (Hk7.out.mono (World.grownBy_alloc _ _ _))).mono ?_;rintro e w8 ⟨rfl,hg8⟩;have G8:=gt_trans (gt_alloc_r G7 _) hg8 (.inl rfl)))
    go_ret
    exact ⟨rfl,G8⟩
end
end Go.Proofs.YtlpaecafpbbbkaaGreatDoor
