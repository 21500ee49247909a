/- Simplify of a geometry that is a point or several points: it comes back as it is. Plain data of a geometry of each kind. A row of elements of several cells is copied; the rings of a polygon. A polygon of the package as plain data. -/
import Derived.Laws.CopyOwn
import Derived.Deep.RegionLaw
import Derived.Test.YtlpaecafpbbbkaaGreatDoorRCT21
import Derived.Test.YtlpaecafpbbbkaaGreatDoorRCT22
set_option linter.unusedVariables false
set_option linter.unusedSimpArgs false
set_option maxRecDepth 100000
set_option maxHeartbeats 24000000
namespace Go.Proofs.YtlpaecafpbbbkaaGreatDoor
section
open Go.RowKit
theorem geoType_any (k:Int) (ty b:Nat) (W:World):Calls Tryz.prog 72 #[.agg #[.int .i64 k,.iface ty (.pointer (some ⟨b,0,none⟩))]] W fun e w'=>e=.returned (.int .i64 k)∧W.grownBy w' none:=by
  go_enter Tryz.func72,Tryz.ntmps72
  go_wp2_with fail
  go_ret
  exact ⟨rfl,World.grownBy_alloc _ _ _⟩
end
section
open Go.RowKit
theorem plainG_1 {D:(Nat→Prop)→World→Value→Raw→Prop} (K:DK0 D) (hfm:∀ {B:Nat→Prop} {W:World} {x:Value} {t:Raw},D B W x t→∃ (fx fy fz fm er:Nat) (eb:Bool),x=.agg #[.float .f64 fx,.float .f64 fy,.float .f64 fz,.float .f64 fm,.int .u8 er,.bool eb]) (hh:Nat) (HPC:PC D 74 hh):PC (GeoK 1 165 D) 32 hh:=by
  intro B W v t hd hok hB
  have HP:∀ w x,W.grownBy w none→D B w x t→Calls Tryz.prog 74 #[x] w fun e w'=>∃ v',e=.returned v'∧KD (Fr w w') hh w' v' (dataT t)∧w.grownBy w' none:=fun w x g hx=>HPC B w x t hx hok (fun b hb=>Nat.lt_of_lt_of_le (hB b hb) g.size)
  generalize dataT t=t2 at HP ⊢
  clear hok hB HPC
  obtain ⟨b,x,hkd,hv,hB1,hx,hd⟩:=hd
  subst hv
  have hd0:=hd
  obtain ⟨fx,fy,fz,fm,er,eb,rfl⟩:=hfm hd
  have h0:=hx 0 (.float .f64 fx) rfl
  have h1:=hx 1 (.float .f64 fy) rfl
  have h2:=hx 2 (.float .f64 fz) rfl
  have h3:=hx 3 (.float .f64 fm) rfl
  have h4:=hx 4 (.int .u8 er) rfl
  have h5:=hx 5 (.bool eb) rfl
  have hb:b<W.heap.size:=World.block_lt_of_cell? W _ h0
  have HM:=Lib.hid (fun w (g:W.grownBy w none)=>MustAsPoint _ _ _ _ _ _ b w (g.cell h0 (by simp)) (g.cell h1 (by simp)) (g.cell h2 (by simp)) (g.cell h3 (by simp)) (g.cell h4 (by simp)) (g.cell h5 (by simp)) (Nat.lt_of_lt_of_le hb g.size))
  have HPp:Hid (∀ w,W.grownBy w none→Calls Tryz.prog 74 #[.agg #[.float .f64 fx,.float .f64 fy,.float .f64 fz,.float .f64 fm,.int .u8 er,.bool eb]] w fun e w'=>∃ k6 d6 p6 n6 cap6 q6 m6 cq6,e=.returned (.agg #[.int .i64 k6,.int .i64 d6,.slice p6 n6 cap6,.slice q6 m6 cq6])∧KD (Fr w w') hh w' (.agg #[.int .i64 k6,.int .i64 d6,.slice p6 n6 cap6,.slice q6 m6 cq6]) t2∧w.grownBy w' none):=fun w g=>(HP w _ g (K.mono g hd0)).mono fun e w' ⟨v',he,hk,hg⟩=>by
    obtain ⟨k6,d6,n6,f6,kids6,p6,cap6,q6,cq6,_,hv⟩:=hk.form
    exact ⟨k6,d6,p6,n6,cap6,q6,_,cq6,by rw [he,hv],by rw [←hv];exact hk,hg⟩
  have HG:=Lib.hid (gt_alloc_r (World.grownBy_alloc W (.cells #[.int .i64 1,.iface 165 (.pointer (some ⟨b,0,none⟩))] 57) none) (.cells #[.int .i64 0,.int .i64 0,.slice none 0 0,.slice none 0 0] 33))
  have HC:Hid (∀ w,((W.alloc (.cells #[.int .i64 1,.iface 165 (.pointer (some ⟨b,0,none⟩))] 57)).alloc (.cells #[.int .i64 0,.int .i64 0,.slice none 0 0,.slice none 0 0] 33)).grownBy w none→(w.cell? ⟨W.heap.size,0,none⟩=some (.int .i64 1)∧w.cell? ⟨W.heap.size,1,none⟩=some (.iface 165 (.pointer (some ⟨b,0,none⟩))))∧(w.cell? ⟨W.heap.size+1,0,none⟩=some (.int .i64 0)∧w.cell? ⟨W.heap.size+1,1,none⟩=some (.int .i64 0)∧w.cell? ⟨W.heap.size+1,2,none⟩=some (.slice none 0 0)∧w.cell? ⟨W.heap.size+1,3,none⟩=some (.slice none 0 0))∧∀ j,w.frozen? ⟨W.heap.size+1,j,none⟩=false):=fun w g=>by
    have hb:=g.block (W.heap.size+1) (by simp) (by simp)
    refine ⟨⟨g.cell (by simp) (by simp),g.cell (by simp) (by simp)⟩,⟨g.cell (by simp) (by simp),g.cell (by simp) (by simp),g.cell (by simp) (by simp),g.cell (by simp) (by simp)⟩,fun j=>?_⟩
    rw [World.frozen?_of_block hb];simp
  have HT:=Lib.hid (fun w=>geoType_any 1 165 b w)
  clear hx hd hd0 HP hkd hB1 hfm
  go_enter Tryz.func32,Tryz.ntmps32
  go_wp2_with (first
    | (go_at_call 72;refine (HT.out _).mono ?_;rintro e w1 ⟨rfl,hg1⟩;obtain ⟨⟨k0,k1⟩,_,_⟩:=HC.out _ hg1)
    | (go_at_call 75;refine (HM.out _ (gt_trans HG.out hg1 (.inl rfl))).mono ?_;rintro e w2 ⟨rfl,hg2⟩;have G2:=gt_trans hg1 hg2 (.inl rfl))
    | (go_at_call 74;refine (HPp.out _ (gt_trans HG.out G2 (.inl rfl))).mono ?_;rintro e w3 ⟨k6,d6,p6,n6,cap6,q6,m6,cq6,rfl,hk,hg3⟩;have Hk:=Lib.hid hk;clear hk;have G3:=gt_trans G2 hg3 (.inl rfl);obtain ⟨_,⟨r0,r1,r2,r3⟩,rf⟩:=HC.out _ G3;have rf0:=rf 0;have rf1:=rf 1;have rf2:=rf 2;have rf3:=rf 3))
  have hs2:W.heap.size+2≤w2.heap.size:=by have:=G2.size;simp at this;omega
  refine bodyPost_ret (by simp [results,Tryz.results32,go_sem,r0,r1,r2,r3];try rfl) rfl ?_
  have ks:∀ (w:World) (j:Nat) (y:Value),Kept (Fr w2 w3) w (w.setCell ⟨W.heap.size+1,j,none⟩ y):=fun w j y=>.set (fun hB=>by have h2:w2.heap.size≤W.heap.size+1:=hB.1;omega) y
  have gs:∀ (w:World) (j:Nat) (y:Value),W.grownBy w none→W.grownBy (w.setCell ⟨W.heap.size+1,j,none⟩ y) none:=fun w j y g=>gt_set_r g _ _ (Nat.le_succ _)
  refine ⟨_,rfl,((((Hk.out.keep (ks _ _ _)).keep (ks _ _ _)).keep (ks _ _ _)).keep (ks _ _ _)).weak fun b hb=>⟨by have:=hb.1;omega,by simp [World.setCell];exact hb.2⟩,gs _ _ _ (gs _ _ _ (gs _ _ _ (gs _ _ _ (gt_trans HG.out G3 (.inl rfl)))))⟩
theorem plainG_2 {D:(Nat→Prop)→World→Value→Raw→Prop} (K:DK0 D) (hfm:∀ {B:Nat→Prop} {W:World} {x:Value} {t:Raw},D B W x t→∃ (er:Nat) (ep:Option Addr) (en ec:Nat),x=.agg #[.int .u8 er,.slice ep en ec]) (hh:Nat) (HPC:PC D 76 hh):PC (GeoK 2 167 D) 32 hh:=by
  intro B W v t hd hok hB
  have HP:∀ w x,W.grownBy w none→D B w x t→Calls Tryz.prog 76 #[x] w fun e w'=>∃ v',e=.returned v'∧KD (Fr w w') hh w' v' (dataT t)∧w.grownBy w' none:=fun w x g hx=>HPC B w x t hx hok (fun b hb=>Nat.lt_of_lt_of_le (hB b hb) g.size)
  generalize dataT t=t2 at HP ⊢
  clear hok hB HPC
  obtain ⟨b,x,hkd,hv,hB1,hx,hd⟩:=hd
  subst hv
  have hd0:=hd
  obtain ⟨er,ep,en,ec,rfl⟩:=hfm hd
  have h0:=hx 0 (.int .u8 er) rfl
  have h1:=hx 1 (.slice ep en ec) rfl
  have hb:b<W.heap.size:=World.block_lt_of_cell? W _ h0
  have HM:=Lib.hid (fun w (g:W.grownBy w none)=>MustAsLineString _ _ _ _ b w (g.cell h0 (by simp)) (g.cell h1 (by simp)) (Nat.lt_of_lt_of_le hb g.size))
  have HPp:Hid (∀ w,W.grownBy w none→Calls Tryz.prog 76 #[.agg #[.int .u8 er,.slice ep en ec]] w fun e w'=>∃ k6 d6 p6 n6 cap6 q6 m6 cq6,e=.returned (.agg #[.int .i64 k6,.int .i64 d6,.slice p6 n6 cap6,.slice q6 m6 cq6])∧KD (Fr w w') hh w' (.agg #[.int .i64 k6,.int .i64 d6,.slice p6 n6 cap6,.slice q6 m6 cq6]) t2∧w.grownBy w' none):=fun w g=>(HP w _ g (K.mono g hd0)).mono fun e w' ⟨v',he,hk,hg⟩=>by
    obtain ⟨k6,d6,n6,f6,kids6,p6,cap6,q6,cq6,_,hv⟩:=hk.form
    exact ⟨k6,d6,p6,n6,cap6,q6,_,cq6,by rw [he,hv],by rw [←hv];exact hk,hg⟩
  have HG:=Lib.hid (gt_alloc_r (World.grownBy_alloc W (.cells #[.int .i64 2,.iface 167 (.pointer (some ⟨b,0,none⟩))] 57) none) (.cells #[.int .i64 0,.int .i64 0,.slice none 0 0,.slice none 0 0] 33))
  have HC:Hid (∀ w,((W.alloc (.cells #[.int .i64 2,.iface 167 (.pointer (some ⟨b,0,none⟩))] 57)).alloc (.cells #[.int .i64 0,.int .i64 0,.slice none 0 0,.slice none 0 0] 33)).grownBy w none→(w.cell? ⟨W.heap.size,0,none⟩=some (.int .i64 2)∧w.cell? ⟨W.heap.size,1,none⟩=some (.iface 167 (.pointer (some ⟨b,0,none⟩))))∧(w.cell? ⟨W.heap.size+1,0,none⟩=some (.int .i64 0)∧w.cell? ⟨W.heap.size+1,1,none⟩=some (.int .i64 0)∧w.cell? ⟨W.heap.size+1,2,none⟩=some (.slice none 0 0)∧w.cell? ⟨W.heap.size+1,3,none⟩=some (.slice none 0 0))∧∀ j,w.frozen? ⟨W.heap.size+1,j,none⟩=false):=fun w g=>by
    have hb:=g.block (W.heap.size+1) (by simp) (by simp)
    refine ⟨⟨g.cell (by simp) (by simp),g.cell (by simp) (by simp)⟩,⟨g.cell (by simp) (by simp),g.cell (by simp) (by simp),g.cell (by simp) (by simp),g.cell (by simp) (by simp)⟩,fun j=>?_⟩
    rw [World.frozen?_of_block hb];simp
  have HT:=Lib.hid (fun w=>geoType_any 2 167 b w)
  clear hx hd hd0 HP hkd hB1 hfm
  go_enter Tryz.func32,Tryz.ntmps32
  go_wp2_with (first
    | (go_at_call 72;refine (HT.out _).mono ?_;rintro e w1 ⟨rfl,hg1⟩;obtain ⟨⟨k0,k1⟩,_,_⟩:=HC.out _ hg1)
    | (go_at_call 64;refine (HM.out _ (gt_trans HG.out hg1 (.inl rfl))).mono ?_;rintro e w2 ⟨rfl,hg2⟩;have G2:=gt_trans hg1 hg2 (.inl rfl))
    | (go_at_call 76;refine (HPp.out _ (gt_trans HG.out G2 (.inl rfl))).mono ?_;rintro e w3 ⟨k6,d6,p6,n6,cap6,q6,m6,cq6,rfl,hk,hg3⟩;have Hk:=Lib.hid hk;clear hk;have G3:=gt_trans G2 hg3 (.inl rfl);obtain ⟨_,⟨r0,r1,r2,r3⟩,rf⟩:=HC.out _ G3;have rf0:=rf 0;have rf1:=rf 1;have rf2:=rf 2;have rf3:=rf 3))
  have hs2:W.heap.size+2≤w2.heap.size:=by have:=G2.size;simp at this;omega
  refine bodyPost_ret (by simp [results,Tryz.results32,go_sem,r0,r1,r2,r3];try rfl) rfl ?_
  have ks:∀ (w:World) (j:Nat) (y:Value),Kept (Fr w2 w3) w (w.setCell ⟨W.heap.size+1,j,none⟩ y):=fun w j y=>.set (fun hB=>by have h2:w2.heap.size≤W.heap.size+1:=hB.1;omega) y
  have gs:∀ (w:World) (j:Nat) (y:Value),W.grownBy w none→W.grownBy (w.setCell ⟨W.heap.size+1,j,none⟩ y) none:=fun w j y g=>gt_set_r g _ _ (Nat.le_succ _)
  refine ⟨_,rfl,((((Hk.out.keep (ks _ _ _)).keep (ks _ _ _)).keep (ks _ _ _)).keep (ks _ _ _)).weak fun b hb=>⟨by have:=hb.1;omega,by simp [World.setCell];exact hb.2⟩,gs _ _ _ (gs _ _ _ (gs _ _ _ (gs _ _ _ (gt_trans HG.out G3 (.inl rfl)))))⟩
theorem plainG_3 {D:(Nat→Prop)→World→Value→Raw→Prop} (K:DK0 D) (hfm:∀ {B:Nat→Prop} {W:World} {x:Value} {t:Raw},D B W x t→∃ (ep:Option Addr) (en ec er:Nat),x=.agg #[.slice ep en ec,.int .u8 er]) (hh:Nat) (HPC:PC D 77 hh):PC (GeoK 3 170 D) 32 hh:=by
  intro B W v t hd hok hB
  have HP:∀ w x,W.grownBy w none→D B w x t→Calls Tryz.prog 77 #[x] w fun e w'=>∃ v',e=.returned v'∧KD (Fr w w') hh w' v' (dataT t)∧w.grownBy w' none:=fun w x g hx=>HPC B w x t hx hok (fun b hb=>Nat.lt_of_lt_of_le (hB b hb) g.size)
  generalize dataT t=t2 at HP ⊢
  clear hok hB HPC
  obtain ⟨b,x,hkd,hv,hB1,hx,hd⟩:=hd
  subst hv
  have hd0:=hd
  obtain ⟨ep,en,ec,er,rfl⟩:=hfm hd
  have h0:=hx 0 (.slice ep en ec) rfl
  have h1:=hx 1 (.int .u8 er) rfl
  have hb:b<W.heap.size:=World.block_lt_of_cell? W _ h0
  have HM:=Lib.hid (fun w (g:W.grownBy w none)=>MustAsPolygon _ _ _ _ b w (g.cell h0 (by simp)) (g.cell h1 (by simp)) (Nat.lt_of_lt_of_le hb g.size))
  have HPp:Hid (∀ w,W.grownBy w none→Calls Tryz.prog 77 #[.agg #[.slice ep en ec,.int .u8 er]] w fun e w'=>∃ k6 d6 p6 n6 cap6 q6 m6 cq6,e=.returned (.agg #[.int .i64 k6,.int .i64 d6,.slice p6 n6 cap6,.slice q6 m6 cq6])∧KD (Fr w w') hh w' (.agg #[.int .i64 k6,.int .i64 d6,.slice p6 n6 cap6,.slice q6 m6 cq6]) t2∧w.grownBy w' none):=fun w g=>(HP w _ g (K.mono g hd0)).mono fun e w' ⟨v',he,hk,hg⟩=>by
    obtain ⟨k6,d6,n6,f6,kids6,p6,cap6,q6,cq6,_,hv⟩:=hk.form
    exact ⟨k6,d6,p6,n6,cap6,q6,_,cq6,by rw [he,hv],by rw [←hv];exact hk,hg⟩
  have HG:=Lib.hid (gt_alloc_r (World.grownBy_alloc W (.cells #[.int .i64 3,.iface 170 (.pointer (some ⟨b,0,none⟩))] 57) none) (.cells #[.int .i64 0,.int .i64 0,.slice none 0 0,.slice none 0 0] 33))
  have HC:Hid (∀ w,((W.alloc (.cells #[.int .i64 3,.iface 170 (.pointer (some ⟨b,0,none⟩))] 57)).alloc (.cells #[.int .i64 0,.int .i64 0,.slice none 0 0,.slice none 0 0] 33)).grownBy w none→(w.cell? ⟨W.heap.size,0,none⟩=some (.int .i64 3)∧w.cell? ⟨W.heap.size,1,none⟩=some (.iface 170 (.pointer (some ⟨b,0,none⟩))))∧(w.cell? ⟨W.heap.size+1,0,none⟩=some (.int .i64 0)∧w.cell? ⟨W.heap.size+1,1,none⟩=some (.int .i64 0)∧w.cell? ⟨W.heap.size+1,2,none⟩=some (.slice none 0 0)∧w.cell? ⟨W.heap.size+1,3,none⟩=some (.slice none 0 0))∧∀ j,w.frozen? ⟨W.heap.size+1,j,none⟩=false):=fun w g=>by
    have hb:=g.block (W.heap.size+1) (by simp) (by simp)
    refine ⟨⟨g.cell (by simp) (by simp),g.cell (by simp) (by simp)⟩,⟨g.cell (by simp) (by simp),g.cell (by simp) (by simp),g.cell (by simp) (by simp),g.cell (by simp) (by simp)⟩,fun j=>?_⟩
    rw [World.frozen?_of_block hb];simp
  have HT:=Lib.hid (fun w=>geoType_any 3 170 b w)
  clear hx hd hd0 HP hkd hB1 hfm
  go_enter Tryz.func32,Tryz.ntmps32
  go_wp2_with (first
    | (go_at_call 72;refine (HT.out _).mono ?_;rintro e w1 ⟨rfl,hg1⟩;obtain ⟨⟨k0,k1⟩,_,_⟩:=HC.out _ hg1)
    | (go_at_call 66;refine (HM.out _ (gt_trans HG.out hg1 (.inl rfl))).mono ?_;rintro e w2 ⟨rfl,hg2⟩;have G2:=gt_trans hg1 hg2 (.inl rfl))
    | (go_at_call 77;refine (HPp.out _ (gt_trans HG.out G2 (.inl rfl))).mono ?_;rintro e w3 ⟨k6,d6,p6,n6,cap6,q6,m6,cq6,rfl,hk,hg3⟩;have Hk:=Lib.hid hk;clear hk;have G3:=gt_trans G2 hg3 (.inl rfl);obtain ⟨_,⟨r0,r1,r2,r3⟩,rf⟩:=HC.out _ G3;have rf0:=rf 0;have rf1:=rf 1;have rf2:=rf 2;have rf3:=rf 3))
  have hs2:W.heap.size+2≤w2.heap.size:=by have:=G2.size;simp at this;omega
  refine bodyPost_ret (by simp [results,Tryz.results32,go_sem,r0,r1,r2,r3];try rfl) rfl ?_
  have ks:∀ (w:World) (j:Nat) (y:Value),Kept (Fr w2 w3) w (w.setCell ⟨W.heap.size+1,j,none⟩ y):=fun w j y=>.set (fun hB=>by have h2:w2.heap.size≤W.heap.size+1:=hB.1;omega) y
  have gs:∀ (w:World) (j:Nat) (y:Value),W.grownBy w none→W.grownBy (w.setCell ⟨W.heap.size+1,j,none⟩ y) none:=fun w j y g=>gt_set_r g _ _ (Nat.le_succ _)
  refine ⟨_,rfl,((((Hk.out.keep (ks _ _ _)).keep (ks _ _ _)).keep (ks _ _ _)).keep (ks _ _ _)).weak fun b hb=>⟨by have:=hb.1;omega,by simp [World.setCell];exact hb.2⟩,gs _ _ _ (gs _ _ _ (gs _ _ _ (gs _ _ _ (gt_trans HG.out G3 (.inl rfl)))))⟩
theorem plainG_4 {D:(Nat→Prop)→World→Value→Raw→Prop} (K:DK0 D) (hfm:∀ {B:Nat→Prop} {W:World} {x:Value} {t:Raw},D B W x t→∃ (ep:Option Addr) (en ec er:Nat),x=.agg #[.slice ep en ec,.int .u8 er]) (hh:Nat) (HPC:PC D 78 hh):PC (GeoK 4 173 D) 32 hh:=by
  intro B W v t hd hok hB
  have HP:∀ w x,W.grownBy w none→D B w x t→Calls Tryz.prog 78 #[x] w fun e w'=>∃ v',e=.returned v'∧KD (Fr w w') hh w' v' (dataT t)∧w.grownBy w' none:=fun w x g hx=>HPC B w x t hx hok (fun b hb=>Nat.lt_of_lt_of_le (hB b hb) g.size)
  generalize dataT t=t2 at HP ⊢
  clear hok hB HPC
  obtain ⟨b,x,hkd,hv,hB1,hx,hd⟩:=hd
  subst hv
  have hd0:=hd
  obtain ⟨ep,en,ec,er,rfl⟩:=hfm hd
  have h0:=hx 0 (.slice ep en ec) rfl
  have h1:=hx 1 (.int .u8 er) rfl
  have hb:b<W.heap.size:=World.block_lt_of_cell? W _ h0
  have HM:=Lib.hid (fun w (g:W.grownBy w none)=>MustAsMultiPoint _ _ _ _ b w (g.cell h0 (by simp)) (g.cell h1 (by simp)) (Nat.lt_of_lt_of_le hb g.size))
  have HPp:Hid (∀ w,W.grownBy w none→Calls Tryz.prog 78 #[.agg #[.slice ep en ec,.int .u8 er]] w fun e w'=>∃ k6 d6 p6 n6 cap6 q6 m6 cq6,e=.returned (.agg #[.int .i64 k6,.int .i64 d6,.slice p6 n6 cap6,.slice q6 m6 cq6])∧KD (Fr w w') hh w' (.agg #[.int .i64 k6,.int .i64 d6,.slice p6 n6 cap6,.slice q6 m6 cq6]) t2∧w.grownBy w' none):=fun w g=>(HP w _ g (K.mono g hd0)).mono fun e w' ⟨v',he,hk,hg⟩=>by
    obtain ⟨k6,d6,n6,f6,kids6,p6,cap6,q6,cq6,_,hv⟩:=hk.form
    exact ⟨k6,d6,p6,n6,cap6,q6,_,cq6,by rw [he,hv],by rw [←hv];exact hk,hg⟩
  have HG:=Lib.hid (gt_alloc_r (World.grownBy_alloc W (.cells #[.int .i64 4,.iface 173 (.pointer (some ⟨b,0,none⟩))] 57) none) (.cells #[.int .i64 0,.int .i64 0,.slice none 0 0,.slice none 0 0] 33))
  have HC:Hid (∀ w,((W.alloc (.cells #[.int .i64 4,.iface 173 (.pointer (some ⟨b,0,none⟩))] 57)).alloc (.cells #[.int .i64 0,.int .i64 0,.slice none 0 0,.slice none 0 0] 33)).grownBy w none→(w.cell? ⟨W.heap.size,0,none⟩=some (.int .i64 4)∧w.cell? ⟨W.heap.size,1,none⟩=some (.iface 173 (.pointer (some ⟨b,0,none⟩))))∧(w.cell? ⟨W.heap.size+1,0,none⟩=some (.int .i64 0)∧w.cell? ⟨W.heap.size+1,1,none⟩=some (.int .i64 0)∧w.cell? ⟨W.heap.size+1,2,none⟩=some (.slice none 0 0)∧w.cell? ⟨W.heap.size+1,3,none⟩=some (.slice none 0 0))∧∀ j,w.frozen? ⟨W.heap.size+1,j,none⟩=false):=fun w g=>by
    have hb:=g.block (W.heap.size+1) (by simp) (by simp)
    refine ⟨⟨g.cell (by simp) (by simp),g.cell (by simp) (by simp)⟩,⟨g.cell (by simp) (by simp),g.cell (by simp) (by simp),g.cell (by simp) (by simp),g.cell (by simp) (by simp)⟩,fun j=>?_⟩
    rw [World.frozen?_of_block hb];simp
  have HT:=Lib.hid (fun w=>geoType_any 4 173 b w)
  clear hx hd hd0 HP hkd hB1 hfm
  go_enter Tryz.func32,Tryz.ntmps32
  go_wp2_with (first
    | (go_at_call 72;refine (HT.out _).mono ?_;rintro e w1 ⟨rfl,hg1⟩;obtain ⟨⟨k0,k1⟩,_,_⟩:=HC.out _ hg1)
    | (go_at_call 79;refine (HM.out _ (gt_trans HG.out hg1 (.inl rfl))).mono ?_;rintro e w2 ⟨rfl,hg2⟩;have G2:=gt_trans hg1 hg2 (.inl rfl))
    | (go_at_call 78;refine (HPp.out _ (gt_trans HG.out G2 (.inl rfl))).mono ?_;rintro e w3 ⟨k6,d6,p6,n6,cap6,q6,m6,cq6,rfl,hk,hg3⟩;have Hk:=Lib.hid hk;clear hk;have G3:=gt_trans G2 hg3 (.inl rfl);obtain ⟨_,⟨r0,r1,r2,r3⟩,rf⟩:=HC.out _ G3;have rf0:=rf 0;have rf1:=rf 1;have rf2:=rf 2;have rf3:=rf 3))
  have hs2:W.heap.size+2≤w2.heap.size:=by have:=G2.size;simp at this;omega
  refine bodyPost_ret (by simp [results,Tryz.results32,go_sem,r0,r1,r2,r3];try rfl) rfl ?_
  have ks:∀ (w:World) (j:Nat) (y:Value),Kept (Fr w2 w3) w (w.setCell ⟨W.heap.size+1,j,none⟩ y):=fun w j y=>.set (fun hB=>by have h2:w2.heap.size≤W.heap.size+1:=hB.1;omega) y
  have gs:∀ (w:World) (j:Nat) (y:Value),W.grownBy w none→W.grownBy (w.setCell ⟨W.heap.size+1,j,none⟩ y) none:=fun w j y g=>gt_set_r g _ _ (Nat.le_succ _)
  refine ⟨_,rfl,((((Hk.out.keep (ks _ _ _)).keep (ks _ _ _)).keep (ks _ _ _)).keep (ks _ _ _)).weak fun b hb=>⟨by have:=hb.1;omega,by simp [World.setCell];exact hb.2⟩,gs _ _ _ (gs _ _ _ (gs _ _ _ (gs _ _ _ (gt_trans HG.out G3 (.inl rfl)))))⟩
theorem plainG_5 {D:(Nat→Prop)→World→Value→Raw→Prop} (K:DK0 D) (hfm:∀ {B:Nat→Prop} {W:World} {x:Value} {t:Raw},D B W x t→∃ (ep:Option Addr) (en ec er:Nat),x=.agg #[.slice ep en ec,.int .u8 er]) (hh:Nat) (HPC:PC D 80 hh):PC (GeoK 5 176 D) 32 hh:=by
  intro B W v t hd hok hB
  have HP:∀ w x,W.grownBy w none→D B w x t→Calls Tryz.prog 80 #[x] w fun e w'=>∃ v',e=.returned v'∧KD (Fr w w') hh w' v' (dataT t)∧w.grownBy w' none:=fun w x g hx=>HPC B w x t hx hok (fun b hb=>Nat.lt_of_lt_of_le (hB b hb) g.size)
  generalize dataT t=t2 at HP ⊢
  clear hok hB HPC
  obtain ⟨b,x,hkd,hv,hB1,hx,hd⟩:=hd
  subst hv
  have hd0:=hd
  obtain ⟨ep,en,ec,er,rfl⟩:=hfm hd
  have h0:=hx 0 (.slice ep en ec) rfl
  have h1:=hx 1 (.int .u8 er) rfl
  have hb:b<W.heap.size:=World.block_lt_of_cell? W _ h0
  have HM:=Lib.hid (fun w (g:W.grownBy w none)=>MustAsMultiLineString _ _ _ _ b w (g.cell h0 (by simp)) (g.cell h1 (by simp)) (Nat.lt_of_lt_of_le hb g.size))
  have HPp:Hid (∀ w,W.grownBy w none→Calls Tryz.prog 80 #[.agg #[.slice ep en ec,.int .u8 er]] w fun e w'=>∃ k6 d6 p6 n6 cap6 q6 m6 cq6,e=.returned (.agg #[.int .i64 k6,.int .i64 d6,.slice p6 n6 cap6,.slice q6 m6 cq6])∧KD (Fr w w') hh w' (.agg #[.int .i64 k6,.int .i64 d6,.slice p6 n6 cap6,.slice q6 m6 cq6]) t2∧w.grownBy w' none):=fun w g=>(HP w _ g (K.mono g hd0)).mono fun e w' ⟨v',he,hk,hg⟩=>by
    obtain ⟨k6,d6,n6,f6,kids6,p6,cap6,q6,cq6,_,hv⟩:=hk.form
    exact ⟨k6,d6,p6,n6,cap6,q6,_,cq6,by rw [he,hv],by rw [←hv];exact hk,hg⟩
  have HG:=Lib.hid (gt_alloc_r (World.grownBy_alloc W (.cells #[.int .i64 5,.iface 176 (.pointer (some ⟨b,0,none⟩))] 57) none) (.cells #[.int .i64 0,.int .i64 0,.slice none 0 0,.slice none 0 0] 33))
  have HC:Hid (∀ w,((W.alloc (.cells #[.int .i64 5,.iface 176 (.pointer (some ⟨b,0,none⟩))] 57)).alloc (.cells #[.int .i64 0,.int .i64 0,.slice none 0 0,.slice none 0 0] 33)).grownBy w none→(w.cell? ⟨W.heap.size,0,none⟩=some (.int .i64 5)∧w.cell? ⟨W.heap.size,1,none⟩=some (.iface 176 (.pointer (some ⟨b,0,none⟩))))∧(w.cell? ⟨W.heap.size+1,0,none⟩=some (.int .i64 0)∧w.cell? ⟨W.heap.size+1,1,none⟩=some (.int .i64 0)∧w.cell? ⟨W.heap.size+1,2,none⟩=some (.slice none 0 0)∧w.cell? ⟨W.heap.size+1,3,none⟩=some (.slice none 0 0))∧∀ j,w.frozen? ⟨W.heap.size+1,j,none⟩=false):=fun w g=>by
    have hb:=g.block (W.heap.size+1) (by simp) (by simp)
    refine ⟨⟨g.cell (by simp) (by simp),g.cell (by simp) (by simp)⟩,⟨g.cell (by simp) (by simp),g.cell (by simp) (by simp),g.cell (by simp) (by simp),g.cell (by simp) (by simp)⟩,fun j=>?_⟩
    rw [World.frozen?_of_block hb];simp
  have HT:=Lib.hid (fun w=>geoType_any 5 176 b w)
  clear hx hd hd0 HP hkd hB1 hfm
  go_enter Tryz.func32,Tryz.ntmps32
  go_wp2_with (first
    | (go_at_call 72;refine (HT.out _).mono ?_;rintro e w1 ⟨rfl,hg1⟩;obtain ⟨⟨k0,k1⟩,_,_⟩:=HC.out _ hg1)
    | (go_at_call 68;refine (HM.out _ (gt_trans HG.out hg1 (.inl rfl))).mono ?_;rintro e w2 ⟨rfl,hg2⟩;have G2:=gt_trans hg1 hg2 (.inl rfl))
    | (go_at_call 80;refine (HPp.out _ (gt_trans HG.out G2 (.inl rfl))).mono ?_;rintro e w3 ⟨k6,d6,p6,n6,cap6,q6,m6,cq6,rfl,hk,hg3⟩;have Hk:=Lib.hid hk;clear hk;have G3:=gt_trans G2 hg3 (.inl rfl);obtain ⟨_,⟨r0,r1,r2,r3⟩,rf⟩:=HC.out _ G3;have rf0:=rf 0;have rf1:=rf 1;have rf2:=rf 2;have rf3:=rf 3))
  have hs2:W.heap.size+2≤w2.heap.size:=by have:=G2.size;simp at this;omega
  refine bodyPost_ret (by simp [results,Tryz.results32,go_sem,r0,r1,r2,r3];try rfl) rfl ?_
  have ks:∀ (w:World) (j:Nat) (y:Value),Kept (Fr w2 w3) w (w.setCell ⟨W.heap.size+1,j,none⟩ y):=fun w j y=>.set (fun hB=>by have h2:w2.heap.size≤W.heap.size+1:=hB.1;omega) y
  have gs:∀ (w:World) (j:Nat) (y:Value),W.grownBy w none→W.grownBy (w.setCell ⟨W.heap.size+1,j,none⟩ y) none:=fun w j y g=>gt_set_r g _ _ (Nat.le_succ _)
  refine ⟨_,rfl,((((Hk.out.keep (ks _ _ _)).keep (ks _ _ _)).keep (ks _ _ _)).keep (ks _ _ _)).weak fun b hb=>⟨by have:=hb.1;omega,by simp [World.setCell];exact hb.2⟩,gs _ _ _ (gs _ _ _ (gs _ _ _ (gs _ _ _ (gt_trans HG.out G3 (.inl rfl)))))⟩
theorem plainG_6 {D:(Nat→Prop)→World→Value→Raw→Prop} (K:DK0 D) (hfm:∀ {B:Nat→Prop} {W:World} {x:Value} {t:Raw},D B W x t→∃ (ep:Option Addr) (en ec er:Nat),x=.agg #[.slice ep en ec,.int .u8 er]) (hh:Nat) (HPC:PC D 81 hh):PC (GeoK 6 179 D) 32 hh:=by
  intro B W v t hd hok hB
  have HP:∀ w x,W.grownBy w none→D B w x t→Calls Tryz.prog 81 #[x] w fun e w'=>∃ v',e=.returned v'∧KD (Fr w w') hh w' v' (dataT t)∧w.grownBy w' none:=fun w x g hx=>HPC B w x t hx hok (fun b hb=>Nat.lt_of_lt_of_le (hB b hb) g.size)
  generalize dataT t=t2 at HP ⊢
  clear hok hB HPC
  obtain ⟨b,x,hkd,hv,hB1,hx,hd⟩:=hd
  subst hv
  have hd0:=hd
  obtain ⟨ep,en,ec,er,rfl⟩:=hfm hd
  have h0:=hx 0 (.slice ep en ec) rfl
  have h1:=hx 1 (.int .u8 er) rfl
  have hb:b<W.heap.size:=World.block_lt_of_cell? W _ h0
  have HM:=Lib.hid (fun w (g:W.grownBy w none)=>MustAsMultiPolygon _ _ _ _ b w (g.cell h0 (by simp)) (g.cell h1 (by simp)) (Nat.lt_of_lt_of_le hb g.size))
  have HPp:Hid (∀ w,W.grownBy w none→Calls Tryz.prog 81 #[.agg #[.slice ep en ec,.int .u8 er]] w fun e w'=>∃ k6 d6 p6 n6 cap6 q6 m6 cq6,e=.returned (.agg #[.int .i64 k6,.int .i64 d6,.slice p6 n6 cap6,.slice q6 m6 cq6])∧KD (Fr w w') hh w' (.agg #[.int .i64 k6,.int .i64 d6,.slice p6 n6 cap6,.slice q6 m6 cq6]) t2∧w.grownBy w' none):=fun w g=>(HP w _ g (K.mono g hd0)).mono fun e w' ⟨v',he,hk,hg⟩=>by
    obtain ⟨k6,d6,n6,f6,kids6,p6,cap6,q6,cq6,_,hv⟩:=hk.form
    exact ⟨k6,d6,p6,n6,cap6,q6,_,cq6,by rw [he,hv],by rw [←hv];exact hk,hg⟩
  have HG:=Lib.hid (gt_alloc_r (World.grownBy_alloc W (.cells #[.int .i64 6,.iface 179 (.pointer (some ⟨b,0,none⟩))] 57) none) (.cells #[.int .i64 0,.int .i64 0,.slice none 0 0,.slice none 0 0] 33))
  have HC:Hid (∀ w,((W.alloc (.cells #[.int .i64 6,.iface 179 (.pointer (some ⟨b,0,none⟩))] 57)).alloc (.cells #[.int .i64 0,.int .i64 0,.slice none 0 0,.slice none 0 0] 33)).grownBy w none→(w.cell? ⟨W.heap.size,0,none⟩=some (.int .i64 6)∧w.cell? ⟨W.heap.size,1,none⟩=some (.iface 179 (.pointer (some ⟨b,0,none⟩))))∧(w.cell? ⟨W.heap.size+1,0,none⟩=some (.int .i64 0)∧w.cell? ⟨W.heap.size+1,1,none⟩=some (.int .i64 0)∧w.cell? ⟨W.heap.size+1,2,none⟩=some (.slice none 0 0)∧w.cell? ⟨W.heap.size+1,3,none⟩=some (.slice none 0 0))∧∀ j,w.frozen? ⟨W.heap.size+1,j,none⟩=false):=fun w g=>by
    have hb:=g.block (W.heap.size+1) (by simp) (by simp)
    refine ⟨⟨g.cell (by simp) (by simp),g.cell (by simp) (by simp)⟩,⟨g.cell (by simp) (by simp),g.cell (by simp) (by simp),g.cell (by simp) (by simp),g.cell (by simp) (by simp)⟩,fun j=>?_⟩
    rw [World.frozen?_of_block hb];simp
  have HT:=Lib.hid (fun w=>geoType_any 6 179 b w)
  clear hx hd hd0 HP hkd hB1 hfm
  go_enter Tryz.func32,Tryz.ntmps32
  go_wp2_with (first
    | (go_at_call 72;refine (HT.out _).mono ?_;rintro e w1 ⟨rfl,hg1⟩;obtain ⟨⟨k0,k1⟩,_,_⟩:=HC.out _ hg1)
    | (go_at_call 70;refine (HM.out _ (gt_trans HG.out hg1 (.inl rfl))).mono ?_;rintro e w2 ⟨rfl,hg2⟩;have G2:=gt_trans hg1 hg2 (.inl rfl))
    | (go_at_call 81;refine (HPp.out _ (gt_trans HG.out G2 (.inl rfl))).mono ?_;rintro e w3 ⟨k6,d6,p6,n6,cap6,q6,m6,cq6,rfl,hk,hg3⟩;have Hk:=Lib.hid hk;clear hk;have G3:=gt_trans G2 hg3 (.inl rfl);obtain ⟨_,⟨r0,r1,r2,r3⟩,rf⟩:=HC.out _ G3;have rf0:=rf 0;have rf1:=rf 1;have rf2:=rf 2;have rf3:=rf 3))
  have hs2:W.heap.size+2≤w2.heap.size:=by have:=G2.size;simp at this;omega
  refine bodyPost_ret (by simp [results,Tryz.results32,go_sem,r0,r1,r2,r3];try rfl) rfl ?_
  have ks:∀ (w:World) (j:Nat) (y:Value),Kept (Fr w2 w3) w (w.setCell ⟨W.heap.size+1,j,none⟩ y):=fun w j y=>.set (fun hB=>by have h2:w2.heap.size≤W.heap.size+1:=hB.1;omega) y
  have gs:∀ (w:World) (j:Nat) (y:Value),W.grownBy w none→W.grownBy (w.setCell ⟨W.heap.size+1,j,none⟩ y) none:=fun w j y g=>gt_set_r g _ _ (Nat.le_succ _)
  refine ⟨_,rfl,((((Hk.out.keep (ks _ _ _)).keep (ks _ _ _)).keep (ks _ _ _)).keep (ks _ _ _)).weak fun b hb=>⟨by have:=hb.1;omega,by simp [World.setCell];exact hb.2⟩,gs _ _ _ (gs _ _ _ (gs _ _ _ (gs _ _ _ (gt_trans HG.out G3 (.inl rfl)))))⟩
theorem plainG_0 {D:(Nat→Prop)→World→Value→Raw→Prop} (K:DK0 D) (hfm:∀ {B:Nat→Prop} {W:World} {x:Value} {t:Raw},D B W x t→∃ (ep:Option Addr) (en ec er:Nat),x=.agg #[.slice ep en ec,.int .u8 er]) (hh:Nat) (HPC:PC D 82 hh):PC (GeoK 0 183 D) 32 hh:=by
  intro B W v t hd hok hB
  have HP:∀ w x,W.grownBy w none→D B w x t→Calls Tryz.prog 82 #[x] w fun e w'=>∃ v',e=.returned v'∧KD (Fr w w') hh w' v' (dataT t)∧w.grownBy w' none:=fun w x g hx=>HPC B w x t hx hok (fun b hb=>Nat.lt_of_lt_of_le (hB b hb) g.size)
  generalize dataT t=t2 at HP ⊢
  clear hok hB HPC
  obtain ⟨b,x,hkd,hv,hB1,hx,hd⟩:=hd
  subst hv
  have hd0:=hd
  obtain ⟨ep,en,ec,er,rfl⟩:=hfm hd
  have h0:=hx 0 (.slice ep en ec) rfl
  have h1:=hx 1 (.int .u8 er) rfl
  have hb:b<W.heap.size:=World.block_lt_of_cell? W _ h0
  have HM:=Lib.hid (fun w (g:W.grownBy w none)=>MustAsGeometryCollection _ _ _ _ b w (g.cell h0 (by simp)) (g.cell h1 (by simp)) (Nat.lt_of_lt_of_le hb g.size))
  have HPp:Hid (∀ w,W.grownBy w none→Calls Tryz.prog 82 #[.agg #[.slice ep en ec,.int .u8 er]] w fun e w'=>∃ k6 d6 p6 n6 cap6 q6 m6 cq6,e=.returned (.agg #[.int .i64 k6,.int .i64 d6,.slice p6 n6 cap6,.slice q6 m6 cq6])∧KD (Fr w w') hh w' (.agg #[.int .i64 k6,.int .i64 d6,.slice p6 n6 cap6,.slice q6 m6 cq6]) t2∧w.grownBy w' none):=fun w g=>(HP w _ g (K.mono g hd0)).mono fun e w' ⟨v',he,hk,hg⟩=>by
    obtain ⟨k6,d6,n6,f6,kids6,p6,cap6,q6,cq6,_,hv⟩:=hk.form
    exact ⟨k6,d6,p6,n6,cap6,q6,_,cq6,by rw [he,hv],by rw [←hv];exact hk,hg⟩
  have HG:=Lib.hid (gt_alloc_r (World.grownBy_alloc W (.cells #[.int .i64 0,.iface 183 (.pointer (some ⟨b,0,none⟩))] 57) none) (.cells #[.int .i64 0,.int .i64 0,.slice none 0 0,.slice none 0 0] 33))
  have HC:Hid (∀ w,((W.alloc (.cells #[.int .i64 0,.iface 183 (.pointer (some ⟨b,0,none⟩))] 57)).alloc (.cells #[.int .i64 0,.int .i64 0,.slice none 0 0,.slice none 0 0] 33)).grownBy w none→(w.cell? ⟨W.heap.size,0,none⟩=some (.int .i64 0)∧w.cell? ⟨W.heap.size,1,none⟩=some (.iface 183 (.pointer (some ⟨b,0,none⟩))))∧(w.cell? ⟨W.heap.size+1,0,none⟩=some (.int .i64 0)∧w.cell? ⟨W.heap.size+1,1,none⟩=some (.int .i64 0)∧w.cell? ⟨W.heap.size+1,2,none⟩=some (.slice none 0 0)∧w.cell? ⟨W.heap.size+1,3,none⟩=some (.slice none 0 0))∧∀ j,w.frozen? ⟨W.heap.size+1,j,none⟩=false):=fun w g=>by
    have hb:=g.block (W.heap.size+1) (by simp) (by simp)
    refine ⟨⟨g.cell (by simp) (by simp),g.cell (by simp) (by simp)⟩,⟨g.cell (by simp) (by simp),g.cell (by simp) (by simp),g.cell (by simp) (by simp),g.cell (by simp) (by simp)⟩,fun j=>?_⟩
    rw [World.frozen?_of_block hb];simp
  have HT:=Lib.hid (fun w=>geoType_any 0 183 b w)
  clear hx hd hd0 HP hkd hB1 hfm
  go_enter Tryz.func32,Tryz.ntmps32
  go_wp2_with (first
    | (go_at_call 72;refine (HT.out _).mono ?_;rintro e w1 ⟨rfl,hg1⟩;obtain ⟨⟨k0,k1⟩,_,_⟩:=HC.out _ hg1)
    | (go_at_call 62;refine (HM.out _ (gt_trans HG.out hg1 (.inl rfl))).mono ?_;rintro e w2 ⟨rfl,hg2⟩;have G2:=gt_trans hg1 hg2 (.inl rfl))
    | (go_at_call 82;refine (HPp.out _ (gt_trans HG.out G2 (.inl rfl))).mono ?_;rintro e w3 ⟨k6,d6,p6,n6,cap6,q6,m6,cq6,rfl,hk,hg3⟩;have Hk:=Lib.hid hk;clear hk;have G3:=gt_trans G2 hg3 (.inl rfl);obtain ⟨_,⟨r0,r1,r2,r3⟩,rf⟩:=HC.out _ G3;have rf0:=rf 0;have rf1:=rf 1;have rf2:=rf 2;have rf3:=rf 3))
  have hs2:W.heap.size+2≤w2.heap.size:=by have:=G2.size;simp at this;omega
  refine bodyPost_ret (by simp [results,Tryz.results32,go_sem,r0,r1,r2,r3];try rfl) rfl ?_
  have ks:∀ (w:World) (j:Nat) (y:Value),Kept (Fr w2 w3) w (w.setCell ⟨W.heap.size+1,j,none⟩ y):=fun w j y=>.set (fun hB=>by have h2:w2.heap.size≤W.heap.size+1:=hB.1;omega) y
  have gs:∀ (w:World) (j:Nat) (y:Value),W.grownBy w none→W.grownBy (w.setCell ⟨W.heap.size+1,j,none⟩ y) none:=fun w j y g=>gt_set_r g _ _ (Nat.le_succ _)
  refine ⟨_,rfl,((((Hk.out.keep (ks _ _ _)).keep (ks _ _ _)).keep (ks _ _ _)).keep (ks _ _ _)).weak fun b hb=>⟨by have:=hb.1;omega,by simp [World.setCell];exact hb.2⟩,gs _ _ _ (gs _ _ _ (gs _ _ _ (gs _ _ _ (gt_trans HG.out G3 (.inl rfl)))))⟩
end
section
open Go.RowKit
theorem run_copy_rowN (P:Program) (w:World) (dT sT ty elem:TypeId) (k g dLen dCap:Nat) (sp:Option Addr) (sLen sCap n:Nat) (cur:Array Value) (t:TypeId) (cs:List Value)
    (hu:P.underlying dT=some (.slice elem)) (hs:(P.info? elem).map (·.size)=some k)
    (hg:w.heap[g]?=some (.cells cur t (0,0))) (hn:n=Nat.min sLen dLen) (hcl:cs.length=n*k)
    (hsrc:0<n→∃ a,sp=some a∧∀ j v,cs[j]?=some v→w.cell? (a.add j)=some v) (hfit:cs.length≤cur.size) (h1:∀ v ∈ cs,v.oneCell'=true) :
    (Builtin.copy_ #[dT,sT] ty #[.slice (some ⟨g,0,none⟩) dLen dCap,.slice sp sLen sCap]).run P w =
      .ok (goInt n) (w.setRow g (cs++cur.toList.drop cs.length).toArray):=by
  have hst:=run_storeCells_at P g 0 t cs 0 cur w hg (by simpa using hfit) h1
  cases hq:P.info? elem with
  | none=>simp [hq] at hs
  | some i =>
    have hi:i.size=k:=by simpa [hq] using hs
    cases sp with
    | none =>
      have h0:n=0:=by
        by_cases h:0<n
        · obtain ⟨a,ha,_⟩:=hsrc h;cases ha
        · omega
      subst h0
      obtain rfl:cs=[]:=List.eq_nil_of_length_eq_zero (by simpa using hcl)
      simp at hst
      simp [Builtin.copy_,run_underlying hu,Builtin.lenOf,Builtin.firstCells,sizeOf,typeInfo,hq,hi,←hn,hst]
    | some a =>
      have hl:(loadCells a (n*k)).run P w=.ok cs.toArray w:=by
        by_cases h:0<n
        · obtain ⟨a',ha,hc⟩:=hsrc h
          injection ha with ha
          subst ha
          have:=run_loadCells_list (P:=P) w a cs hc
          rw [hcl] at this
          exact this
        · obtain rfl:n=0:=by omega
          obtain rfl:cs=[]:=List.eq_nil_of_length_eq_zero (by simpa using hcl)
          have:=run_loadCells_list (P:=P) w a [] (fun j v h=>by simp at h)
          simpa using this
      simp at hst
      simp [Builtin.copy_,run_underlying hu,Builtin.lenOf,Builtin.firstCells,sizeOf,typeInfo,hq,hi,←hn,hl,hst]
theorem wpList_copy_N {P:Program} {w:World} {ops:Array Oper} {rest:List Oper} {o:Oper} {a:Act} {Q:Exit→Act→World→Prop} (hgd:o.guard=none) (d s:Operand) (dT sT:TypeId)
    (ho:o.op=.call { callee:=.builtin .copy,args:=#[d,s],argTypes:=#[dT,sT] }) (elem:TypeId) (hu:P.underlying dT=some (.slice elem)) (k:Nat) (hsz:(P.info? elem).map (·.size)=some k)
    (g dLen dCap:Nat) (sp:Option Addr) (sLen sCap n:Nat) (hd:a.eval d=.slice (some ⟨g,0,none⟩) dLen dCap) (hs:a.eval s=.slice sp sLen sCap)
    (cur:Array Value) (t:TypeId) (hg:w.heap[g]?=some (.cells cur t (0,0))) (cs:List Value) (hn:n=Nat.min sLen dLen) (hcl:cs.length=n*k)
    (hsrc:0<n→∃ ad,sp=some ad∧∀ j v,cs[j]?=some v→w.cell? (ad.add j)=some v) (hfit:cs.length=cur.size) (h1:∀ v ∈ cs,v.oneCell'=true)
    (h:∀ w',Hid (w'.heap[g]?=some (.cells cs.toArray t (0,0)))→w.grownBy w' (some g)→wpList P ops Q rest (a.put o.dst (goInt n)) w') :
    wpList P ops Q (o::rest) a w:=by
  refine wpList_plain hgd fun K hK=>?_
  have hrun:=run_copy_rowN P w dT sT o.type elem k g dLen dCap sp sLen sCap n cur t cs hu hsz hg hn hcl hsrc (by omega) h1
  have e:cs++cur.toList.drop cs.length=cs:=by rw [List.drop_of_length_le (by simp;omega),List.append_nil]
  rw [e] at hrun
  unfold Oper.wp
  simp [execOp,ho,resolve,invoke,builtin,hd,hs,hrun,Result.andThen]
  refine hK _ _ (h _ (setRow_heap w g cur _ t _ hg) ⟨rfl,rfl,rfl,by simp [World.setRow],fun i _ hne=>?_⟩)
  exact setRow_other w g i cs.toArray (fun e=>hne (by rw [e]))
theorem RowD.of_cells {D:(Nat→Prop)→World→Value→Raw→Prop} {B:Nat→Prop} {W:World} {g:Nat} {ts:List Raw} {cs:List Value} {t:TypeId} (hB:B g) (hh:W.heap[g]?=some (.cells cs.toArray t (0,0)))
    (h:∀ i t,ts[i]?=some t→∃ c0 c1,cs[i*2]?=some c0∧cs[i*2+1]?=some c1∧D B W (.agg #[c0,c1]) t):RowD D B W (some ⟨g,0,none⟩) ts:=by
  refine ⟨fun _=>⟨_,rfl⟩,fun a ha=>?_⟩
  injection ha with ha
  subst ha
  refine ⟨hB,fun i t hi=>?_⟩
  obtain ⟨c0,c1,h0,h1,hd⟩:=h i t hi
  refine ⟨c0,c1,?_,?_,hd⟩
  · rw [addr0]
    simp [World.cell?,hh,h0]
  · rw [addr0]
    simp [World.cell?,hh,h1]
theorem own_heapN {w:World} {base size g n cap:Nat} {e:TypeId} {xs:List Value} (h:w.ownsRow base e size (.slice (some ⟨g,0,none⟩) n cap) n xs):∃ cur:Array Value,w.heap[g]?=some (.cells cur e (0,0))∧cur.size=cap*size:=by
  obtain ⟨_,h | ⟨g',cap',cur,hv,hb,hc,_,_,hs,_⟩⟩:=h
  · cases h.1
  · cases hv
    exact ⟨cur,hc,hs⟩
theorem DumpRings_any (B:Nat→Prop) (W:World) (p:Option Addr) (n c r:Nat) (kids:List Raw) (hn:kids.length=n) (hn2:n≤2513169434843) (hrow:RowD DLine B W p kids) :
    Calls Tryz.prog 146 #[.agg #[.slice p n c,.int .u8 r]] W fun e w'=>∃ a,e=.returned (.slice (some a) n n)∧RowD DLine (fun b=>B b∨Fr W w' b) w' (some a) kids∧W.heap.size<a.block∧W.grownBy w' none:=by
  obtain ⟨cs,hcl,h1c,hcell,hat⟩:=hrow.cells DLine.dk
  rw [hn] at hcl
  obtain ⟨i0,hi,hzz⟩:=Option.map_eq_some_iff.1 infoPg
  simp only [Prod.mk.injEq] at hzz
  have HI:=Lib.hid hzz
  have hsz:(Tryz.prog.info? 93).map (·.size)=some 2:=by kernel_rfl
  have HG:=Lib.hid (World.grownBy_alloc W (.cells #[.slice p n c,.int .u8 r] 97) none)
  have HSrc:Hid (∀ w,W.grownBy w none→0<n→∃ ad,p=some ad∧∀ j v,cs[j]?=some v→w.cell? (ad.add j)=some v):=fun w g h0=>by
    obtain ⟨a,rfl⟩:=hrow.1 (by omega)
    exact ⟨a,rfl,fun j v hv=>g.cell (hcell a rfl j v hv) (by simp)⟩
  have H1c:=Lib.hid h1c
  have HFin:Hid (∀ (w:World) (g:Nat),W.grownBy w none→W.heap.size<g→Hid (w.heap[g]?=some (.cells cs.toArray 93 (0,0)))→RowD DLine (fun b=>B b∨Fr W w b) w (some ⟨g,0,none⟩) kids):=fun w g gr hg hh=>by
    have hlt:=(Array.getElem?_eq_some_iff.1 hh.out).1
    refine RowD.of_cells (cs:=cs) (.inr ⟨by omega,hlt⟩) hh.out (fun i t hi=>?_)
    obtain ⟨c0,c1,e0,e1,hd⟩:=hat i t hi
    exact ⟨c0,c1,e0,e1,DLine.dk.weak (fun b hb=>.inl hb) (DLine.dk.toDK0.mono gr hd)⟩
  clear hzz hrow hat hcell h1c hn
  go_enter Tryz.func146,Tryz.ntmps146
  go_wp2_with (first
    | (at_make;refine wpList_make_full _ rfl _ _ _ rfl (W.heap.size+1) 93 i0 (.agg #[.int .u8 0,.slice none 0 0]) 2 Tryz.underlying95 hi HI.out.1 HI.out.2.1 .i64 .i64 _ _ n rfl rfl rfl rfl (by rw [HI.out.2.2];omega) (by unfold maxLen;omega) (by simp) ?_;intro w1 hown hg1;obtain ⟨cur,hcur,hlen⟩:=own_heapN hown;clear hown;have G1:=gt_trans HG.out hg1 (.inl rfl);have hz1:W.heap.size<w1.heap.size:=(by have:=hg1.size;simp at this;omega);have k0:w1.cell? ⟨W.heap.size,0,none⟩=some (.slice p n c):=hg1.cell (by simp) (by simp))
    | (refine wpList_copy_N rfl _ _ _ _ rfl 93 Tryz.underlying95 2 hsz _ _ _ _ _ _ n rfl rfl cur 93 (by simpa using hcur) cs (Nat.min_self n).symm hcl (HSrc.out _ G1) (by omega) H1c.out ?_;intro w2 hh2 hg2))
  go_wp2_with fail
  go_ret
  have hG2:=gt_trans G1 hg2 (.inr (.inr ⟨_,rfl,Nat.le_succ _⟩))
  exact ⟨_,rfl,HFin.out _ _ hG2 (Nat.lt_succ_self _) hh2,Nat.lt_succ_self _,hG2⟩
end
section
open Go.RowKit
theorem plPg_of (h:Nat) (HP:PC DLine 76 h) (HCt:CC (DNode 3 DLine) 145):PC (DNode 3 DLine) 77 (h+1):=by
  intro B W v t hd hok hB
  have HCT0:=HCt B W v t hd
  obtain ⟨r,f,kids,p,c,rfl,hr,rfl,hc1,hc2,hrow⟩:=hd
  have hdr:dimR (.mk 3 (r:Nat) 0 f kids)=r:=by show ((r:Nat):Int).toNat=r;omega
  rw [hdr] at HCT0
  unfold okT at hok
  obtain ⟨_,hkl,hoks⟩:=hok
  have e:dataT (.mk 3 (r:Nat) 0 f kids)=.mk 3 (r:Nat) 0 (fun _=>0) (dataTs kids):=rfl
  rw [e]
  clear e
  obtain ⟨n,hn⟩ : ∃ n,n=kids.length:=⟨_,rfl⟩
  obtain ⟨kids2,hk2⟩ : ∃ k2,k2=dataTs kids:=⟨_,rfl⟩
  have hn2:kids2.length=n:=by rw [hk2,dataTs_len,hn]
  have HGt:Hid (∀ i,kids2[i]?=kids[i]?.map dataT):=fun i=>by rw [hk2];exact dataTs_get kids i
  rw [←hn] at hkl HCT0 ⊢
  rw [←hk2]
  have HCT:=Lib.hid (fun (w:World) (g:W.grownBy w none)=>(by
    have h2:=HCt B w (.agg #[.slice p kids.length c,.int .u8 r]) (.mk 3 (r:Nat) 0 f kids) ⟨r,f,kids,p,c,rfl,hr,rfl,hc1,hc2,hrow.mono DLine.dk g⟩
    rw [hdr,←hn] at h2
    exact h2:Calls Tryz.prog 145 #[.agg #[.slice p n c,.int .u8 r]] w fun e w'=>e=.returned (.int .u8 r)∧w.grownBy w' none))
  have HG:=Lib.hid (gt_alloc_r (World.grownBy_alloc W (.cells #[.slice p n c,.int .u8 r] 97) none) (.cells #[.int .i64 0,.int .i64 0,.slice none 0 0,.slice none 0 0] 33))
  have HC:Hid (∀ w,((W.alloc (.cells #[.slice p n c,.int .u8 r] 97)).alloc (.cells #[.int .i64 0,.int .i64 0,.slice none 0 0,.slice none 0 0] 33)).grownBy w none→(w.cell? ⟨W.heap.size,0,none⟩=some (.slice p n c)∧w.cell? ⟨W.heap.size,1,none⟩=some (.int .u8 r))∧(w.cell? ⟨W.heap.size+1,0,none⟩=some (.int .i64 0)∧w.cell? ⟨W.heap.size+1,1,none⟩=some (.int .i64 0)∧w.cell? ⟨W.heap.size+1,2,none⟩=some (.slice none 0 0)∧w.cell? ⟨W.heap.size+1,3,none⟩=some (.slice none 0 0))∧∀ j,w.frozen? ⟨W.heap.size+1,j,none⟩=false):=fun w g=>by
    have hb:=g.block (W.heap.size+1) (by simp) (by simp)
    refine ⟨⟨g.cell (by simp) (by simp),g.cell (by simp) (by simp)⟩,⟨g.cell (by simp) (by simp),g.cell (by simp) (by simp),g.cell (by simp) (by simp),g.cell (by simp) (by simp)⟩,fun j=>?_⟩
    rw [World.frozen?_of_block hb];simp
  have HDr:=Lib.hid (fun (w:World) (g:W.grownBy w none)=>DumpRings_any B w p n c r kids hn.symm hkl (hrow.mono DLine.dk g))
  have HK0:Hid (∀ (w2:World) (a:Addr) (B2:Nat→Prop),RowD DLine B2 w2 (some a) kids→∀ w,Kept B2 w2 w→(∀ b,B2 b→b<w.heap.size)→∀ k,k<n→∃ (t:Raw) (er:Nat) (ep:Option Addr) (en ec:Nat),kids2[k]?=some t∧w.cell? (a.add (k*2))=some (.int .u8 er)∧w.cell? ⟨(a.add (k*2)).block,(a.add (k*2)).off+1,none⟩=some (.slice ep en ec)∧B2 a.block ∧
      ∀ w',w.grownBy w' none→Calls Tryz.prog 76 #[.agg #[.int .u8 er,.slice ep en ec]] w' fun e w2=>∃ k6 d6 p6 n6 cap6 q6 m6 cq6,e=.returned (.agg #[.int .i64 k6,.int .i64 d6,.slice p6 n6 cap6,.slice q6 m6 cq6])∧KD (Fr w' w2) h w2 (.agg #[.int .i64 k6,.int .i64 d6,.slice p6 n6 cap6,.slice q6 m6 cq6]) t∧w'.grownBy w2 none):=fun w2 a B2 hrow2 w hkp hBw k hk=>by
    have hi:kids[k]?=some (kids[k]'(by omega)):=List.getElem?_eq_getElem (by omega)
    obtain ⟨hba,h2⟩:=(hrow2.keep DLine.dk hkp).2 a rfl
    obtain ⟨c0,c1,q0,q1,hd⟩:=h2 k _ hi
    obtain ⟨er,ep,en,ec,hv⟩:=DLine.form2 hd
    simp only [Value.agg.injEq,Array.mk.injEq,List.cons.injEq,and_true] at hv
    obtain ⟨rfl,rfl⟩:=hv
    refine ⟨dataT (kids[k]'(by omega)),er,ep,en,ec,(HGt.out k).trans (by rw [hi];rfl),q0,q1,hba,fun w' g'=>?_⟩
    refine (HP B2 w' _ _ (DLine.dk.toDK0.mono g' hd) (okTs_mem hoks hi) (fun b hb=>Nat.lt_of_lt_of_le (hBw b hb) g'.size)).mono ?_
    rintro e w2 ⟨v',he,hk,hg⟩
    obtain ⟨k6,d6,n6,f6,kids6,p6,cap6,q6,cq6,_,hv⟩:=hk.form
    exact ⟨k6,d6,p6,n6,cap6,q6,_,cq6,by rw [he,hv],by rw [←hv];exact hk,hg⟩
  have HBl:=Lib.hid hB
  have HRl:Hid (∀ j,j≤n→(kids2.take j).length=j):=fun j hj=>by rw [List.length_take];omega
  have HRt:Hid (∀ j t,kids2[j]?=some t→kids2.take (j+1)=kids2.take j++[t]):=fun j t h=>by
    obtain ⟨hlt,rfl⟩:=List.getElem?_eq_some_iff.1 h
    rw [List.take_succ_eq_append_getElem hlt]
  have HRe:Hid (kids2.take n=kids2):=by show kids2.take n=kids2;rw [←hn2,List.take_length]
  clear hrow HP hn hn2 hk2 hoks hB hdr HCt HCT0 hc1 hc2
  go_enter Tryz.func77,Tryz.ntmps77
  go_wp2_with (first
    | (go_at_call 145;refine (HCT.out _ HG.out).mono ?_;rintro e w1 ⟨rfl,hg1⟩;obtain ⟨⟨k0,k1⟩,_,_⟩:=HC.out _ hg1;have hz1:W.heap.size<w1.heap.size:=(by have:=hg1.size;simp at this;omega);have hz2:W.heap.size+1<w1.heap.size:=(by have:=hg1.size;simp at this;omega);have G1w:=gt_trans HG.out (gt_alloc_r hg1 (.cells #[.int .i64 3,.int .i64 r,.slice none 0 0,.slice none 0 0] 33)) (.inl rfl))
    | (go_at_call 146;refine (HDr.out _ G1w).mono ?_;rintro e w2 ⟨a,rfl,hrow2,hab,hg2⟩;have HRow2:=Lib.hid hrow2;have HG2:=Lib.hid hg2;have HAb:=Lib.hid hab;clear hrow2 hg2 hab))
  have hs2:w1.heap.size<w2.heap.size:=by have:=HG2.out.size;simp at this;omega
  have hob2:w2.heap[w1.heap.size]?=(w1.alloc (.cells #[.int .i64 3,.int .i64 r,.slice none 0 0,.slice none 0 0] 33)).heap[w1.heap.size]?:=HG2.out.block w1.heap.size (by simp) (by simp)
  have gW2:=gt_trans G1w HG2.out (.inl rfl)
  have N0:NumB W w2 w2.heap.size w1.heap.size w2 3 r (.slice none 0 0) 0 []:=⟨Und.start gW2 (by omega) hs2 (fun j=>by rw [World.frozen?_of_block hob2];simp),HG2.out.cell (by simp) (by simp),HG2.out.cell (by simp) (by simp),HG2.out.cell (by simp) (by simp),HG2.out.cell (by simp) (by simp),World.ownsRow_nil _ _ _ _⟩
  obtain ⟨pn,cn,hx,I0⟩:=KidB.of_num (f:=fun _=>0) (n:=0) N0 h (fun _=>Nat.zero_lt_succ _)
  injection hx with hx1 hx2 hx3
  subst hx1 hx3
  have HI0:=Lib.hid I0
  clear I0 N0
  have HK:Hid (∀ wr,Und W w2 w2.heap.size w1.heap.size wr→∀ k,k<n→∃ (t:Raw) (er:Nat) (ep:Option Addr) (en ec:Nat),kids2[k]?=some t∧wr.cell? (a.add (k*2))=some (.int .u8 er)∧wr.cell? ⟨(a.add (k*2)).block,(a.add (k*2)).off+1,none⟩=some (.slice ep en ec)∧(a.block<w2.heap.size∧a.block≠w1.heap.size) ∧
      ∀ w',wr.grownBy w' none→Calls Tryz.prog 76 #[.agg #[.int .u8 er,.slice ep en ec]] w' fun e w2=>∃ k6 d6 p6 n6 cap6 q6 m6 cq6,e=.returned (.agg #[.int .i64 k6,.int .i64 d6,.slice p6 n6 cap6,.slice q6 m6 cq6])∧KD (Fr w' w2) h w2 (.agg #[.int .i64 k6,.int .i64 d6,.slice p6 n6 cap6,.slice q6 m6 cq6]) t∧w'.grownBy w2 none):=fun wr u k hk=>by
    have hB2:∀ b,(B b∨Fr (w1.alloc (.cells #[.int .i64 3,.int .i64 r,.slice none 0 0,.slice none 0 0] 33)) w2 b)→b<w2.heap.size∧b≠w1.heap.size:=fun b hb=>by
      rcases hb with hb | hb
      · have:=HBl.out b hb;omega
      · have h1:=hb.1;have h2:=hb.2;simp at h1;omega
    obtain ⟨t,er,ep,en,ec,e0,e1,e2,e3,e4⟩:=HK0.out w2 a _ HRow2.out wr (fun x v hb hx=>u.keep x v (hB2 _ hb).1 (hB2 _ hb).2 hx) (fun b hb=>by have:=(hB2 b hb).1;have:=u.big;omega) k hk
    exact ⟨t,er,ep,en,ec,e0,e1,e2,hB2 _ e3,e4⟩
  have HBx:Hid (∀ wr,Und W w2 w2.heap.size w1.heap.size wr→(wr.cell? ⟨W.heap.size+1,0,none⟩=some (.int .i64 0)∧wr.cell? ⟨W.heap.size+1,1,none⟩=some (.int .i64 0)∧wr.cell? ⟨W.heap.size+1,2,none⟩=some (.slice none 0 0)∧wr.cell? ⟨W.heap.size+1,3,none⟩=some (.slice none 0 0))∧∀ j,wr.frozen? ⟨W.heap.size+1,j,none⟩=false):=fun wr u=>by
    obtain ⟨_,⟨f0,f1,f2,f3⟩,fz⟩:=HC.out w2 (gt_trans (gt_alloc_r hg1 _) HG2.out (.inl rfl))
    have kp:∀ b j x,b<w1.heap.size→w2.cell? ⟨b,j,none⟩=some x→wr.cell? ⟨b,j,none⟩=some x:=fun b j x hb h=>u.keep _ _ (by show b<_;omega) (by show b≠_;omega) h
    exact ⟨⟨kp _ _ _ hz2 f0,kp _ _ _ hz2 f1,kp _ _ _ hz2 f2,kp _ _ _ hz2 f3⟩,fun j=>by rw [u.kf _ j (by omega) (by omega)];exact fz j⟩
  clear HC k0 k1 gW2 hob2
  go_loopw [13] (fun i wr=>∃ (k:Nat) (y:Value) (cs:List Value),k≤n∧i=.int .i64 k∧KidB W w2 w2.heap.size w1.heap.size wr h 3 r none 0 0 (fun _=>0) y (kids2.take k) cs) (fun i _=>n - (intOf i).toNat)
  case atStart=>exact ⟨0,_,_,by omega,rfl,by rw [List.take_zero];exact HI0.out⟩
  case round =>
    clear HI0
    obtain ⟨k,y,cs,hk,rfl,I⟩:=hrel
    rename World=>wr
    obtain ⟨⟨r0,r1,r2,r3⟩,rf⟩:=HBx.out _ I.u
    have hll:=HRl.out k hk
    obtain ⟨py,cy,rfl,_⟩:=own_form I.kr.1
    rw [hll] at I
    have hbig:=I.u.big
    have hzA:W.heap.size<wr.heap.size:=by omega
    have hzB:W.heap.size+1<wr.heap.size:=by omega
    have hzC:w1.heap.size<wr.heap.size:=by omega
    by_cases hkn:k<n
    · obtain ⟨t,er,ep,en,ec,hti,q0,q1,⟨ha1,ha2⟩,hpp⟩:=HK.out wr I.u k hkn
      have HPp:=Lib.hid hpp
      have HRj:=Lib.hid (HRt.out k t hti)
      have HI:=Lib.hid I
      have hkI:(k:Int)<(n:Int):=by omega
      have hk0:(0:Int)≤(k:Int):=by omega
      have HOw:Hid (∀ w,wr.grownBy w none→w.ownsRow w2.heap.size 33 4 (.slice py k cy) k cs):=fun w g=>by
        have hh:=(HI.out.kept g).kr.1
        rw [hll] at hh
        exact hh
      have HS:Hid (∀ w,wr.grownBy w none→w.cell? ⟨w1.heap.size,3,none⟩=some (.slice py k cy)):=fun w g=>(HI.out.kept g).o3
      have HX7:Hid (∀ w6 w7,wr.grownBy w6 none→w6.grownBy w7 (Value.slice py k cy).ownBlock→w7.cell? ⟨w1.heap.size,3,none⟩=some (.slice py k cy)∧w7.frozen? ⟨w1.heap.size,3,none⟩=false):=fun w6 w7 g g'=>by
        have hi:=HI.out.kept g
        have hne:some w1.heap.size≠(Value.slice py k cy).ownBlock:=fun e=>by have:=(hi.kr.1.lt _ e.symm).1;omega
        exact ⟨g'.cell hi.o3 hne,by rw [World.frozen?_of_block (g'.block w1.heap.size (by have:=hi.u.big;omega) hne)];exact hi.u.of_ 3⟩
      have HSn:Hid (∀ (wa wb wc wd:World) (d0 d1 d2 d3:Value) (gg cap:Nat),wr.grownBy wa none→wa.grownBy wb none→wb.grownBy wc none→KD (Fr wa wb) h wb (.agg #[d0,d1,d2,d3]) t→wd.ownsRow w2.heap.size 33 4 (.slice (some ⟨gg,0,none⟩) (k+1) cap) (k+1) (cs++[d0,d1,d2,d3])→wc.grownBy wd (Value.slice py k cy).ownBlock→((Value.slice py k cy).ownBlock=some gg∨gg=wc.heap.size) →
          KidB W w2 w2.heap.size w1.heap.size (wd.setCell ⟨w1.heap.size,3,none⟩ (.slice (some ⟨gg,0,none⟩) (k+1) cap)) h 3 r none 0 0 (fun _=>0) (.slice (some ⟨gg,0,none⟩) (k+1) cap) (kids2.take k++[t]) (cs++[d0,d1,d2,d3])):=fun wa wb wc wd d0 d1 d2 d3 gg cap g1 g2 g3 hk hown g4 hg=>by
        have hh:=HI.out.snoc g1 g2 g3 hk (gg:=gg) (cap:=cap) (by rw [hll];exact hown) g4 hg
        rw [hll] at hh
        exact hh
      clear I hpp hti
      have b3:=HS.out _ (World.grownBy_alloc wr (.cells #[.int .u8 er,.slice ep en ec] 93) none)
      go_wp2_with fail
      have hgd:wr.grownBy (wr.alloc (.cells #[.int .u8 er,.slice ep en ec] 93)).drew none:=gt_drew_r (World.grownBy_alloc wr _ none)
      go_region_law (first
        | (rw [if_pos (by simp [Region.wanted])];go_simp;go_at_call 76;(with_reducible refine (HPp.out _ hgd).mono ?_);rintro e w5 ⟨k6,d6,p6,n6,cap6,q6,m6,cq6,rfl,hk5,hg5⟩;have Hk5:=Lib.hid hk5;clear hk5;have G6:=gt_trans hgd hg5 (.inl rfl);have d3:=HS.out _ G6;have hzE:w1.heap.size<w5.heap.size:=(by have:=G6.size;omega))
        | (refine app_cells2_step (size:=4) (n:=k) (xs:=cs) (base:=w2.heap.size) rfl _ _ _ rfl Tryz.underlying31 (.agg #[.int .i64 0,.int .i64 0,.slice none 0 0,.slice none 0 0]) 64 infoG rfl (Nat.succ_pos 3) rfl rfl rfl _ (HOw.out _ (gt_alloc_r G6 _)) rfl (one4 _ _ _ _ _ _ _ _) (Nat.succ_pos 0) (by have:=G6.size;simp;omega) (by omega) (by omega) ?_;intro gg cap7 w7 hown7 hg7 hat7;obtain ⟨u3,uf⟩:=HX7.out _ _ (gt_alloc_r G6 _) hg7;have HFin:=Lib.hid (HSn.out _ _ _ _ _ _ _ _ _ _ hgd hg5 (World.grownBy_alloc _ _ _) Hk5.out hown7 hg7 hat7);clear hown7 hg7 hat7))
      all_goals
        go_wp2_with fail
        exact ⟨⟨k+1,_,_,by omega,by go_num,by rw [HRj.out];exact HFin.out⟩,by simp [intOf];omega⟩
    · obtain rfl:k=n:=by omega
      rw [HRe.out] at I
      have HI:=Lib.hid I
      clear I
      have I2:=HI.out
      have o0:=I2.o0
      have o1:=I2.o1
      have o2:=I2.o2
      have o3:=I2.o3
      obtain ⟨⟨s0,s1,s2,s3⟩,sf⟩:=HBx.out _ I2.u
      have sf0:=sf 0
      have sf1:=sf 1
      have sf2:=sf 2
      have sf3:=sf 3
      have HE:=Lib.hid (I2.end_ (W.heap.size+1) (by omega) (by omega))
      clear I2
      go_wp2_with fail
      go_wp2_with fail
      refine bodyPost_ret (by simp [results,Tryz.results77,go_sem,s0,s1,s2,s3];try rfl) rfl ?_
      exact ⟨_,rfl,HE.out.1,HE.out.2⟩
end
end Go.Proofs.YtlpaecafpbbbkaaGreatDoor
