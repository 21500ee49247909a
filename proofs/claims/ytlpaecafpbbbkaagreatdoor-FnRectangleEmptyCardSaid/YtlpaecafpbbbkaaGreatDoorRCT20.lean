/- Geometries of the package at any depth: brought to a type of coordinates, made of plain data. Which geometries of the package have no place: IsEmpty, of trees without numbers. IsEmpty of a geometry of any kind, of trees without numbers. -/
import Derived.Test.YtlpaecafpbbbkaaGreatDoorRCT7
import Derived.Test.YtlpaecafpbbbkaaGreatDoorRCT19
set_option linter.unusedVariables false
set_option linter.unusedSimpArgs false
set_option maxRecDepth 100000
set_option maxHeartbeats 24000000
namespace Go.Proofs.YtlpaecafpbbbkaaGreatDoor
section
open Go.RowKit
theorem DPoint.dk:DK0 DPoint:=⟨fun _ h=>h,fun _ h=>h⟩
theorem DPoint.form6 {B:Nat→Prop} {W:World} {x:Value} {t:Raw} : DPoint B W x t→∃ (fx fy fz fm er:Nat) (eb:Bool),x=.agg #[.float .f64 fx,.float .f64 fy,.float .f64 fz,.float .f64 fm,.int .u8 er,.bool eb]:=fun ⟨_,hv⟩=>⟨_,_,_,_,_,_,hv⟩
theorem DLine.form2 {B:Nat→Prop} {W:World} {x:Value} {t:Raw} : DLine B W x t→∃ (er:Nat) (ep:Option Addr) (en ec:Nat),x=.agg #[.int .u8 er,.slice ep en ec]:=fun ⟨r,n,f,p,_,_,_,ev,_⟩=>⟨r,p,n,n,ev⟩
theorem GeoK.form {k:Int} {ty:Nat} {D:(Nat→Prop)→World→Value→Raw→Prop} {B:Nat→Prop} {W:World} {v:Value} {t:Raw} : GeoK k ty D B W v t→∃ (k:Int) (ty b:Nat),v=.agg #[.int .i64 k,.iface ty (.pointer (some ⟨b,0,none⟩))]:=fun ⟨b,_,_,hv,_⟩=>⟨k,ty,b,hv⟩
def DGeo:Nat→(Nat→Prop)→World→Value→Raw→Prop
  | 0,_,_,_,_=>False
  | h+1,B,W,v,t=>GeoK 1 165 DPoint B W v t∨GeoK 2 167 DLine B W v t∨GeoK 3 170 DPg B W v t∨GeoK 4 173 DMpt B W v t∨GeoK 5 176 DMl B W v t∨GeoK 6 179 DMp B W v t∨GeoK 0 183 (DNode 0 (DGeo h)) B W v t
theorem DGeo.dk:∀ h:Nat,DK (DGeo h)
  | 0=>⟨⟨fun _ h=>h.elim,fun _ h=>h.elim⟩,fun h=>h.elim⟩
  | h+1=>by
    have ih:=DGeo.dk h
    refine ⟨⟨fun g hd=>?_,fun hl hd=>?_⟩,fun hd=>?_⟩
    · rcases hd with hd | hd | hd | hd | hd | hd | hd
      · exact (.inl ((GeoK.dk DPoint.dk).keep g hd))
      · exact (.inr (.inl ((GeoK.dk DLine.dk.toDK0).keep g hd)))
      · exact (.inr (.inr (.inl ((GeoK.dk DPg.dk.toDK0).keep g hd))))
      · exact (.inr (.inr (.inr (.inl ((GeoK.dk DMpt.dk.toDK0).keep g hd)))))
      · exact (.inr (.inr (.inr (.inr (.inl ((GeoK.dk DMl.dk.toDK0).keep g hd))))))
      · exact (.inr (.inr (.inr (.inr (.inr (.inl ((GeoK.dk DMp.dk.toDK0).keep g hd)))))))
      · exact (.inr (.inr (.inr (.inr (.inr (.inr ((GeoK.dk (DNode.dk ih).toDK0).keep g hd)))))))
    · rcases hd with hd | hd | hd | hd | hd | hd | hd
      · exact (.inl ((GeoK.dk DPoint.dk).weak hl hd))
      · exact (.inr (.inl ((GeoK.dk DLine.dk.toDK0).weak hl hd)))
      · exact (.inr (.inr (.inl ((GeoK.dk DPg.dk.toDK0).weak hl hd))))
      · exact (.inr (.inr (.inr (.inl ((GeoK.dk DMpt.dk.toDK0).weak hl hd)))))
      · exact (.inr (.inr (.inr (.inr (.inl ((GeoK.dk DMl.dk.toDK0).weak hl hd))))))
      · exact (.inr (.inr (.inr (.inr (.inr (.inl ((GeoK.dk DMp.dk.toDK0).weak hl hd)))))))
      · exact (.inr (.inr (.inr (.inr (.inr (.inr ((GeoK.dk (DNode.dk ih).toDK0).weak hl hd)))))))
    · rcases hd with hd | hd | hd | hd | hd | hd | hd
      · exact (GeoK.dk DPoint.dk).one hd
      · exact (GeoK.dk DLine.dk.toDK0).one hd
      · exact (GeoK.dk DPg.dk.toDK0).one hd
      · exact (GeoK.dk DMpt.dk.toDK0).one hd
      · exact (GeoK.dk DMl.dk.toDK0).one hd
      · exact (GeoK.dk DMp.dk.toDK0).one hd
      · exact (GeoK.dk (DNode.dk ih).toDK0).one hd
theorem DGeo.form {h:Nat} {B:Nat→Prop} {W:World} {v:Value} {t:Raw} (hd:DGeo h B W v t):∃ (k:Int) (ty b:Nat),v=.agg #[.int .i64 k,.iface ty (.pointer (some ⟨b,0,none⟩))]:=by
  cases h with
  | zero=>exact hd.elim
  | succ h =>
  rcases hd with hd | hd | hd | hd | hd | hd | hd
  · exact hd.form
  · exact hd.form
  · exact hd.form
  · exact hd.form
  · exact hd.form
  · exact hd.form
  · exact hd.form
theorem GeoK.dim {k:Int} {ty:Nat} {D:(Nat→Prop)→World→Value→Raw→Prop} (h4:∀ {B:Nat→Prop} {W:World} {v:Value} {t:Raw},D B W v t→dimR t<4) {B:Nat→Prop} {W:World} {v:Value} {t:Raw} : GeoK k ty D B W v t→dimR t<4:=fun ⟨_,_,_,_,_,_,hd⟩=>h4 hd
theorem DGeo.d4 {h:Nat} {B:Nat→Prop} {W:World} {v:Value} {t:Raw} (hd:DGeo h B W v t):dimR t<4:=by
  cases h with
  | zero=>exact hd.elim
  | succ h =>
  rcases hd with hd | hd | hd | hd | hd | hd | hd
  · exact GeoK.dim (fun h=>h.1.dim.1) hd
  · exact GeoK.dim DLine.d4 hd
  · exact GeoK.dim DNode.d4 hd
  · exact GeoK.dim DMpt.d4 hd
  · exact GeoK.dim DNode.d4 hd
  · exact GeoK.dim DNode.d4 hd
  · exact GeoK.dim DNode.d4 hd
theorem MlCT (D:(Nat→Prop)→World→Value→Raw→Prop):CC (DNode 5 D) 150:=by
  intro B W v t ⟨r,f,kids,p,c,ht,hr,hv,_⟩
  subst ht hv
  generalize kids.length=n
  go_enter Tryz.func150,Tryz.ntmps150
  go_wp2_with fail
  go_ret
  exact ⟨rfl,World.grownBy_alloc _ _ _⟩
theorem MpCT (D:(Nat→Prop)→World→Value→Raw→Prop):CC (DNode 6 D) 151:=by
  intro B W v t ⟨r,f,kids,p,c,ht,hr,hv,_⟩
  subst ht hv
  generalize kids.length=n
  go_enter Tryz.func151,Tryz.ntmps151
  go_wp2_with fail
  go_ret
  exact ⟨rfl,World.grownBy_alloc _ _ _⟩
theorem GcCT (D:(Nat→Prop)→World→Value→Raw→Prop):CC (DNode 0 D) 152:=by
  intro B W v t ⟨r,f,kids,p,c,ht,hr,hv,_⟩
  subst ht hv
  generalize kids.length=n
  go_enter Tryz.func152,Tryz.ntmps152
  go_wp2_with fail
  go_ret
  exact ⟨rfl,World.grownBy_alloc _ _ _⟩
theorem GeoCC:∀ h:Nat,CC (DGeo h) 171
  | 0=>fun B W v t hd=>hd.elim
  | h+1=>fun B W v t hd=>by
    rcases hd with hd | hd | hd | hd | hd | hd | hd
    · exact GeoCTPoint DPoint.dk DPoint.form6 PointCC B W v t hd
    · exact GeoCTLineString DLine.dk.toDK0 DLine.form2 LineCC B W v t hd
    · exact GeoCTPolygon DPg.dk.toDK0 DNode.form (PgCT DLine) B W v t hd
    · exact GeoCTMultiPoint DMpt.dk.toDK0 DMpt.form MptCC B W v t hd
    · exact GeoCTMultiLineString DMl.dk.toDK0 DNode.form (MlCT DLine) B W v t hd
    · exact GeoCTMultiPolygon DMp.dk.toDK0 DNode.form (MpCT DPg) B W v t hd
    · exact GeoCTGeometryCollection (DNode.dk (DGeo.dk h)).toDK0 DNode.form (GcCT (DGeo h)) B W v t hd
theorem GeoFC:∀ h:Nat,FC (DGeo h) 170
  | 0=>fun B W v t r' hd=>hd.elim
  | h+1=>fun B W v t r' hd hok hr' hB=>by
    rcases hd with hd | hd | hd | hd | hd | hd | hd
    · exact (GeoForcePoint DPoint.dk DPoint.form6 PointFC B W v t r' hd hok hr' hB).mono fun e w' ⟨v',he,hd',hg⟩=>⟨v',he,(.inl hd'),hg⟩
    · exact (GeoForceLineString DLine.dk.toDK0 DLine.form2 LineFC B W v t r' hd hok hr' hB).mono fun e w' ⟨v',he,hd',hg⟩=>⟨v',he,(.inr (.inl hd')),hg⟩
    · exact (GeoForcePolygon DPg.dk.toDK0 DNode.form PgFC B W v t r' hd hok hr' hB).mono fun e w' ⟨v',he,hd',hg⟩=>⟨v',he,(.inr (.inr (.inl hd'))),hg⟩
    · exact (GeoForceMultiPoint DMpt.dk.toDK0 DMpt.form MptFC B W v t r' hd hok hr' hB).mono fun e w' ⟨v',he,hd',hg⟩=>⟨v',he,(.inr (.inr (.inr (.inl hd')))),hg⟩
    · exact (GeoForceMultiLineString DMl.dk.toDK0 DNode.form MlFC B W v t r' hd hok hr' hB).mono fun e w' ⟨v',he,hd',hg⟩=>⟨v',he,(.inr (.inr (.inr (.inr (.inl hd'))))),hg⟩
    · exact (GeoForceMultiPolygon DMp.dk.toDK0 DNode.form MpFC B W v t r' hd hok hr' hB).mono fun e w' ⟨v',he,hd',hg⟩=>⟨v',he,(.inr (.inr (.inr (.inr (.inr (.inl hd')))))),hg⟩
    · exact (GeoForceGeometryCollection (DNode.dk (DGeo.dk h)).toDK0 DNode.form (GcForce_of (DGeo.dk h) DGeo.form (GeoFC h)) B W v t r' hd hok hr' hB).mono fun e w' ⟨v',he,hd',hg⟩=>⟨v',he,(.inr (.inr (.inr (.inr (.inr (.inr hd')))))),hg⟩
def GBC (h:Nat):Prop:=∀ (B:Nat→Prop) (W:World) (v:Value) (t:Raw),KD B h W v t→wt t≤2513169434843→Calls Tryz.prog 29 #[v] W (MPost (DGeo h) W (newT t))
theorem news_get:∀ (ts:List Raw) (i:Nat),(newTs ts)[i]?=ts[i]?.map newT
  | [],i=>by simp [newTs]
  | t::ts,0=>by simp [newTs]
  | t::ts,i+1=>by simp only [newTs,List.getElem?_cons_succ];exact news_get ts i
theorem news_len:∀ (ts:List Raw),(newTs ts).length=ts.length
  | []=>rfl
  | t::ts=>by simp only [newTs,List.length_cons,news_len ts]
theorem keep0 (ts:List Raw):ts.filter (keepT 0)=ts:=List.filter_eq_self.2 fun t _=>by unfold keepT;simp [kidOf]
theorem infoGe:(Tryz.prog.info? 57).map (fun i=>(i.zero,i.size,i.bytes))=some (some (.agg #[.int .i64 0,.nilIface]),2,24):=by kernel_rfl
theorem geometries_of (h:Nat) (ih:GBC h) (B:Nat→Prop) (W:World) (q:Option Addr) (m c2:Nat) (kids:List Raw) (hm:kids.length=m) (hwk:wts kids≤2513169434843) (hq:q=none→m=0)
    (hk:∀ a,q=some a→∀ i t,kids[i]?=some t→∃ c0 c1 c2 c3,KD B h W (.agg #[c0,c1,c2,c3]) t∧W.cell? (a.add (i*4))=some c0∧W.cell? ⟨(a.add (i*4)).block,(a.add (i*4)).off+1,none⟩=some c1∧W.cell? ⟨(a.add (i*4)).block,(a.add (i*4)).off+2,none⟩=some c2∧W.cell? ⟨(a.add (i*4)).block,(a.add (i*4)).off+3,none⟩=some c3) :
    Calls Tryz.prog 118 #[.slice q m c2] W fun e w'=>∃ g,e=.returned (.slice (some ⟨g,0,none⟩) m m)∧RowD (DGeo h) (Fr W w') w' (some ⟨g,0,none⟩) (newTs kids)∧W.grownBy w' none:=by
  have hml:m≤2513169434843:=by have:=wts_len kids;omega
  obtain ⟨i0,hi,hzz⟩:=Option.map_eq_some_iff.1 infoGe
  simp only [Prod.mk.injEq] at hzz
  have HI:=Lib.hid hzz
  have HKid:Hid (∀ w,W.grownBy w none→∀ j,j<m→∃ t a c0 c1 c2 c3,kids[j]?=some t∧q=some a∧KD B h w (.agg #[c0,c1,c2,c3]) t∧wt t≤2513169434843∧w.cell? (a.add (j*4))=some c0∧w.cell? ⟨(a.add (j*4)).block,(a.add (j*4)).off+1,none⟩=some c1∧w.cell? ⟨(a.add (j*4)).block,(a.add (j*4)).off+2,none⟩=some c2∧w.cell? ⟨(a.add (j*4)).block,(a.add (j*4)).off+3,none⟩=some c3):=fun w g j hj=>by
    obtain ⟨a,rfl⟩ : ∃ a,q=some a:=by
      cases q with
      | none=>have:=hq rfl;omega
      | some a=>exact ⟨a,rfl⟩
    have hj':kids[j]?=some (kids[j]'(by omega)):=List.getElem?_eq_getElem (by omega)
    obtain ⟨c0,c1,c2,c3,k0,k1,k2,k3,k4⟩:=hk a rfl j _ hj'
    exact ⟨_,a,c0,c1,c2,c3,hj',rfl,k0.mono g,by have:=wts_mem kids j _ hj';omega,g.cell k1 (by simp),g.cell k2 (by simp),g.cell k3 (by simp),g.cell k4 (by simp)⟩
  have HB1:Hid (∀ w c0 c1 c2 c3 t,KD B h w (.agg #[c0,c1,c2,c3]) t→wt t≤2513169434843→Calls Tryz.prog 29 #[.agg #[c0,c1,c2,c3]] w (MPost (DGeo h) w (newT t))):=fun w c0 c1 c2 c3 t h1 h2=>ih B w _ t h1 h2
  have K:=DGeo.dk h
  have hput:Hid (∀ (wr w1 w2:World) k cs t c0 c1,k<m→kids[k]?=some t→RowS (DGeo h) 57 W.heap.size (fun _=>False) wr (.slice (some ⟨W.heap.size,0,none⟩) m m) m (fun i=>if i<k then (newTs kids)[i]? else none) cs→wr.grownBy w1 none→w1.grownBy w2 none→DGeo h (Fr w1 w2) w2 (.agg #[c0,c1]) (newT t) →
      RowS (DGeo h) 57 W.heap.size (fun _=>False) ((w2.setCell ⟨W.heap.size,k*2,none⟩ c0).setCell ⟨W.heap.size,k*2+1,none⟩ c1) (.slice (some ⟨W.heap.size,0,none⟩) m m) m (fun i=>if i<k+1 then (newTs kids)[i]? else none) ((cs.set (k*2) c0).set (k*2+1) c1)):=fun wr w1 w2 k cs t c0 c1 hk ht h g1 g2 hd=>by
    have hlt:W.heap.size<wr.heap.size:=(h.1.lt _ rfl).2
    have s1:=g1.size
    refine (RowS.put K (h.kept K (gt_trans g1 g2 (.inl rfl))) k hk (K.weak (fun b hb=>?_) hd)).sel (fun i t' hi=>?_)
    · exact ⟨.inr ⟨by have:=hb.1;omega,hb.2⟩,fun e=>by have:=hb.1;omega⟩
    · show (if i=k then some (newT t) else if i<k then _ else none)=some t'
      have hi':(if i<k+1 then (newTs kids)[i]? else none)=some t':=hi
      by_cases hik:i=k
      · subst hik
        rw [if_pos (by omega),news_get,ht] at hi'
        rw [if_pos rfl];exact hi'
      · rw [if_neg hik]
        by_cases hl:i<k
        · rw [if_pos (by omega)] at hi';rw [if_pos hl];exact hi'
        · rw [if_neg (by omega)] at hi';cases hi'
  have hcell:Hid (∀ (w:World) k cs (s:Nat→Option Raw),k<m→RowS (DGeo h) 57 W.heap.size (fun _=>False) w (.slice (some ⟨W.heap.size,0,none⟩) m m) m s cs→(∃ v,w.cell? ⟨W.heap.size,k*2,none⟩=some v)∧(∃ v,w.cell? ⟨W.heap.size,k*2+1,none⟩=some v)∧∀ j,w.frozen? ⟨W.heap.size,j,none⟩=false):=fun w k cs s hk h=>by
    have hl:cs.length=m*2:=h.1.1
    have key:∀ o,o<2→∃ v,w.cell? ⟨W.heap.size,k*2+o,none⟩=some v:=fun o h6=>by
      rw [h.1.cellAt _ (by omega)]
      exact ⟨_,List.getElem?_eq_getElem (by omega)⟩
    exact ⟨key 0 (by omega),key 1 (by omega),fun j=>h.1.frozenAt j⟩
  have hfin:Hid (∀ (w:World) cs,W.grownBy w none→RowS (DGeo h) 57 W.heap.size (fun _=>False) w (.slice (some ⟨W.heap.size,0,none⟩) m m) m (fun i=>if i<m then (newTs kids)[i]? else none) cs→RowD (DGeo h) (Fr W w) w (some ⟨W.heap.size,0,none⟩) (newTs kids)):=fun w cs g hrw=>by
    have h1:RowS (DGeo h) 57 W.heap.size (fun _=>False) w (.slice (some ⟨W.heap.size,0,none⟩) m m) (newTs kids).length (fun i=>(newTs kids)[i]?) cs:=by
      rw [news_len,hm]
      exact hrw.sel fun i t hi=>by
        have:=(List.getElem?_eq_some_iff.1 hi).1
        rw [news_len,hm] at this
        show (if i<m then _ else none)=_
        rw [if_pos this];exact hi
    exact h1.row K (by rw [news_len,hm]) (fun b hb=>hb.elim) (fun b h1 h2=>⟨h1,h2⟩)
  have hgs:∀ (w:World) (b jj:Nat) (y:Value),W.heap.size≤b→W.grownBy w none→W.grownBy (w.setCell ⟨b,jj,none⟩ y) none:=fun w b jj y hb g=>gt_set_r g _ _ hb
  have HGs:=Lib.hid hgs
  clear hk ih hzz hgs hq hwk
  go_enter Tryz.func118,Tryz.ntmps118
  go_wp2_with (first
    | (at_make;refine wpList_make_full _ rfl _ _ _ rfl W.heap.size 57 i0 (.agg #[.int .i64 0,.nilIface]) 2 Tryz.underlying110 hi HI.out.1 HI.out.2.1 .i64 .i64 _ _ m rfl rfl rfl rfl (by rw [HI.out.2.2];omega) (by unfold maxLen;omega) (by simp) ?_;intro w1 hown hg1))
  obtain ⟨xs0,hxs0⟩ : ∃ xs0,xs0=(madeCells (Value.cells (.agg #[.int .i64 0,.nilIface])) (m*2)).toList:=⟨_,rfl⟩
  rw [←hxs0] at hown
  clear hxs0
  go_loopw [11] (fun i wr=>∃ (k:Nat) (cs:List Value),k≤m∧i=.int .i64 k∧W.grownBy wr none∧RowS (DGeo h) 57 W.heap.size (fun _=>False) wr (.slice (some ⟨W.heap.size,0,none⟩) m m) m (fun i=>if i<k then (newTs kids)[i]? else none) cs) (fun i _=>m - (intOf i).toNat)
  case atStart=>exact ⟨0,xs0,by omega,rfl,hg1,hown,fun i t h=>absurd h (by simp)⟩
  case round =>
    clear hown
    obtain ⟨k,cs,hk,rfl,Gr,hrow⟩:=hrel
    rename World=>wr
    by_cases hkL:k<m
    · obtain ⟨t,a,c0,c1,c2,c3,hti,rfl,kk,hwt,q0,q1,q2,q3⟩:=HKid.out wr Gr k hkL
      have HMk:=Lib.hid (fun w (g:wr.grownBy w none)=>HB1.out w c0 c1 c2 c3 t (kk.mono g) hwt)
      have HP1:=Lib.hid (fun w1 w2 c0 c1=>hput.out wr w1 w2 k cs t c0 c1 hkL hti hrow)
      have HK1:Hid (∀ w,wr.grownBy w none→(∃ v,w.cell? ⟨W.heap.size,k*2,none⟩=some v)∧(∃ v,w.cell? ⟨W.heap.size,k*2+1,none⟩=some v)∧∀ j,w.frozen? ⟨W.heap.size,j,none⟩=false):=fun w g=>hcell.out w k cs _ hkL (hrow.kept K g)
      obtain ⟨e1,d1,n1,f1,kids1,p1,cap1,q1',cq1,rfl,rfl,rfl,rfl,rfl⟩:=kk.form4
      have HG5:=Lib.hid (World.grownBy_alloc wr (.cells #[.int .i64 e1,.int .i64 d1,.slice p1 n1 cap1,.slice q1' kids1.length cq1] 33) none)
      generalize newT (.mk e1 d1 n1 f1 kids1)=tn at HMk HP1
      clear hti kk hrow hwt
      generalize kids1.length=m1 at q3 HMk HG5
      go_wp2_with (first
        | (go_at_call 29;refine (HMk.out _ HG5.out).mono ?_;rintro e w2 ⟨v2,rfl,hd2,hg2⟩;obtain ⟨ek2,ety2,eb2,rfl⟩:=DGeo.form hd2;have HD2:=Lib.hid (HP1.out _ w2 _ _ HG5.out hg2 hd2);clear hd2;have G2:=gt_trans HG5.out hg2 (.inl rfl);obtain ⟨⟨v0,x0⟩,⟨v1,x1⟩,xf⟩:=HK1.out _ G2;have f0:=xf (k*2);have f1:=xf (k*2+1)))
      refine ⟨⟨k+1,_,by omega,by go_num,?_,HD2.out⟩,by simp [intOf];omega⟩
      exact HGs.out _ _ _ _ (Nat.le_refl _) (HGs.out _ _ _ _ (Nat.le_refl _) (gt_trans Gr G2 (.inl rfl)))
    · obtain rfl:k=m:=by omega
      go_wp2_with fail
      go_wp2_with fail
      go_ret
      exact ⟨W.heap.size,rfl,hfin.out _ _ Gr hrow,Gr⟩
theorem collection_of (h:Nat) (ih:GBC h) (B:Nat→Prop) (W:World) (k d:Int) (p:Option Addr) (n cap:Nat) (q:Option Addr) (m c2:Nat) (f:Nat→Nat) (kids:List Raw) (hm:kids.length=m)
    (hk:KD B (h+1) W (.agg #[.int .i64 k,.int .i64 d,.slice p n cap,.slice q m c2]) (.mk k d n f kids)) (hwk:wts kids≤2513169434843) (hk1:k<1∨6<k) :
    Calls Tryz.prog 60 #[.agg #[.int .i64 k,.int .i64 d,.slice p n cap,.slice q m c2]] W (MPost (DNode 0 (DGeo h)) W (newT (.mk k d n f kids))):=by
  obtain ⟨p',cap',q',c2',e0,hf,h1,h2,h3,hm1,hm2,hm3,hm4,_⟩:=hk
  obtain ⟨rfl,rfl,rfl,rfl⟩ : p=p'∧cap=cap'∧q=q'∧c2=c2':=by simp [hm] at e0;exact ⟨e0.1.1,e0.1.2,e0.2.1,e0.2.2⟩
  obtain ⟨r,hr⟩ : ∃ r:Nat,d % 4=r:=⟨(d % 4).toNat,by omega⟩
  have hrt:(d % 4).toNat=r:=by rw [hr];rfl
  have hr4:r<4:=by omega
  have hkn:kindN k=0:=by unfold kindN;split <;> omega
  have hml:m≤2513169434843:=by have:=wts_len kids;omega
  have en:newT (.mk k d n f kids)=nodeT 0 r f (newTs kids):=by
    rw [newT_node _ _ _ _ _ (by rw [hkn];decide) (by rw [hkn];decide),hrt,hkn]
    unfold Acc
    rw [List.take_length,keep0]
  rw [en]
  have HGs:=Lib.hid (fun w (g:W.grownBy w none)=>geometries_of h ih B w q m c2 kids hm hwk (fun hq=>by have:=hm3 hq;omega) (fun a ha i t hi=>by
    obtain ⟨c0,c1,c2,c3,k0,k1,k2,k3,k4⟩:=hm4 a ha i t hi
    exact ⟨c0,c1,c2,c3,k0.mono g,g.cell k1 (by simp),g.cell k2 (by simp),g.cell k3 (by simp),g.cell k4 (by simp)⟩))
  have hoks:okTs (newTs kids):=okTs_of _ fun t ht=>(news_okU kids hwk t ht).1.ok
  have K:=DGeo.dk h
  have HNW:=Lib.hid (fun (B:Nat→Prop) w p (hrow:RowD (DGeo h) B w p (newTs kids)) (hm0:0<m) (hB:∀ b,B b→b<w.heap.size)=>GcNew_of K DGeo.form DGeo.d4 (GeoFC h) (GeoCC h) B w p m m (newTs kids) f hrow (by rw [news_len,hm]) hm0 hml hoks hB)
  have HF0:=Lib.hid (fun w=>GcForce_of K DGeo.form (GeoFC h) (fun _=>False) w _ (.mk 0 ((0:Nat):Int) 0 f []) r ⟨0,f,[],none,0,rfl,by omega,rfl,Nat.le_refl _,by decide,fun h=>by simp at h,fun a ha=>by cases ha⟩ (by unfold okT okTs;exact ⟨by omega,by simp,trivial⟩) hr4 (fun b hb=>hb.elim))
  have HO:=Lib.hid (fun w=>dimOf_r d r hr w)
  have HG:=Lib.hid (gt_alloc_r (World.grownBy_alloc W (.cells #[.int .i64 k,.int .i64 d,.slice p n cap,.slice q m c2] 33) none) (.cells #[.slice none 0 0,.int .u8 0] 112))
  obtain ⟨W0,hW0⟩ : ∃ W0,W0=(W.alloc (.cells #[.int .i64 k,.int .i64 d,.slice p n cap,.slice q m c2] 33)).alloc (.cells #[.slice none 0 0,.int .u8 0] 112):=⟨_,rfl⟩
  have HW0:=Lib.hid hW0
  have HC:Hid (∀ w,W0.grownBy w none→w.cell? ⟨W.heap.size+1,0,none⟩=some (.slice none 0 0)∧w.cell? ⟨W.heap.size+1,1,none⟩=some (.int .u8 0)∧w.frozen? ⟨W.heap.size+1,0,none⟩=false∧w.frozen? ⟨W.heap.size+1,1,none⟩=false):=fun w g=>by
    rw [hW0] at g
    have hb:=g.block (W.heap.size+1) (by simp) (by simp)
    refine ⟨g.cell (by simp) (by simp),g.cell (by simp) (by simp),?_,?_⟩ <;> (rw [World.frozen?_of_block hb];simp)
  have hs0:W0.heap.size=W.heap.size+2:=by rw [hW0];simp
  rw [←hW0] at HG
  have hfin:Hid (∀ (w2:World) (B1:Nat→Prop) (v':Value) (f1:Nat→Nat) kk (r1:Nat),W0.grownBy w2 none→(∀ b,B1 b→W.heap.size+2≤b∧b<w2.heap.size)→DNode 0 (DGeo h) B1 w2 v' (.mk 0 (r1:Nat) 0 f1 kk)→(∃ f2,nodeT 0 r f (newTs kids)=.mk 0 (r1:Nat) 0 f2 kk)→∃ px nx cx rx,v'=.agg #[.slice px nx cx,.int .u8 rx]∧MPost (DNode 0 (DGeo h)) W (nodeT 0 r f (newTs kids)) (.returned (.agg #[.slice px nx cx,.int .u8 rx])) ((w2.setCell ⟨W.heap.size+1,0,none⟩ (.slice px nx cx)).setCell ⟨W.heap.size+1,1,none⟩ (.int .u8 rx))):=fun w2 B1 v' f1 kk r1 g nB hd ⟨f2,e2⟩=>by
    obtain ⟨px,nx,cx,rx,rfl⟩:=hd.form
    refine ⟨px,nx,cx,rx,rfl,_,rfl,?_,gt_set_r (gt_set_r (gt_trans HG.out g (.inl rfl)) _ _ (by show W.heap.size≤W.heap.size+1;omega)) _ _ (by show W.heap.size≤W.heap.size+1;omega)⟩
    have h1:=(DNode.dk K).keep (.set (q:=⟨W.heap.size+1,1,none⟩) (fun hb=>by have:=(nB _ hb).1;simp at this) (.int .u8 rx)) ((DNode.dk K).keep (.set (q:=⟨W.heap.size+1,0,none⟩) (fun hb=>by have:=(nB _ hb).1;simp at this) (.slice px nx cx)) hd)
    have h2:=(DNode.dk K).weak (B':=Fr W ((w2.setCell ⟨W.heap.size+1,0,none⟩ (.slice px nx cx)).setCell ⟨W.heap.size+1,1,none⟩ (.int .u8 rx))) (fun b hb=>⟨by have:=(nB _ hb).1;omega,by have:=(nB _ hb).2;simpa [World.setCell] using this⟩) h1
    rw [e2]
    exact h2.anyf
  clear hm4 hm3 hf e0 hwk hrt hoks hkn hW0
  by_cases hm0:m=0
  · have hnil:newTs kids=[]:=List.eq_nil_of_length_eq_zero (by rw [news_len];omega)
    have HF1:Hid (∀ w2 v',W0.grownBy w2 none→DNode 0 (DGeo h) (fun b=>False∨Fr W0 w2 b) w2 v' (forceT r (.mk 0 ((0:Nat):Int) 0 f []))→∃ px nx cx rx,v'=.agg #[.slice px nx cx,.int .u8 rx]∧MPost (DNode 0 (DGeo h)) W (nodeT 0 r f (newTs kids)) (.returned (.agg #[.slice px nx cx,.int .u8 rx])) ((w2.setCell ⟨W.heap.size+1,0,none⟩ (.slice px nx cx)).setCell ⟨W.heap.size+1,1,none⟩ (.int .u8 rx))):=fun w2 v' g hd=>by
      rw [force_node] at hd
      exact hfin.out w2 _ v' _ _ _ g (fun b hb=>by rcases hb with hb | hb;exact hb.elim;exact ⟨by rw [←hs0];exact hb.1,hb.2⟩) hd ⟨f,by unfold nodeT;rw [if_pos hnil];rfl⟩
    have hb:((m:Int)==0)=true:=by rw [hm0];rfl
    clear hfin HNW HGs hm hm1 hnil en hm0
    go_enter Tryz.func60,Tryz.ntmps60
    go_wp2_with (first
      | (go_at_call 104;refine (HO.out _).mono ?_;rintro e w3 ⟨rfl,rfl⟩)
      | (go_at_call 116;rw [←HW0.out];refine (HF0.out _).mono ?_;rintro e w2 ⟨v',rfl,hd,hg2⟩;obtain ⟨px,nx,cx,rx,rfl,hmp⟩:=HF1.out _ _ hg2 hd;have HMP:=Lib.hid hmp;clear hmp hd;obtain ⟨x0,x1,f0,f1⟩:=HC.out _ hg2))
    refine bodyPost_ret (by simp [results,Tryz.results60,go_sem,x0,x1];try rfl) rfl ?_
    exact HMP.out
  · have hne:newTs kids≠[]:=fun e=>by have:=news_len kids;rw [e] at this;simp at this;omega
    have HF1:Hid (∀ w1 w2 v',W0.grownBy w1 none→w1.grownBy w2 none→DNode 0 (DGeo h) (fun b=>Fr W0 w1 b∨Fr w1 w2 b) w2 v' (nodeT 0 0 f (newTs kids))→∃ px nx cx rx,v'=.agg #[.slice px nx cx,.int .u8 rx]∧MPost (DNode 0 (DGeo h)) W (nodeT 0 r f (newTs kids)) (.returned (.agg #[.slice px nx cx,.int .u8 rx])) ((w2.setCell ⟨W.heap.size+1,0,none⟩ (.slice px nx cx)).setCell ⟨W.heap.size+1,1,none⟩ (.int .u8 rx))):=fun w1 w2 v' g1 g2 hd=>by
      obtain ⟨f1,e1⟩:=node_one 0 0 f (newTs kids)
      obtain ⟨f2,e2⟩:=node_one 0 r f (newTs kids)
      rw [if_neg hne,if_neg hne] at e1 e2
      rw [e1] at hd
      have s1:=g1.size
      have s2:=g2.size
      exact hfin.out w2 _ v' _ _ _ (gt_trans g1 g2 (.inl rfl)) (fun b hb=>by
        rcases hb with hb | hb
        · exact ⟨by rw [←hs0];exact hb.1,Nat.lt_of_lt_of_le hb.2 s2⟩
        · exact ⟨by rw [←hs0];exact Nat.le_trans s1 hb.1,hb.2⟩) hd ⟨f2,e2⟩
    have hb:((m:Int)==0)=false:=by rw [beq_eq_false_iff_ne];omega
    have hm0':0<m:=by omega
    clear hfin HF0 hm hm1 hne en hm0
    go_enter Tryz.func60,Tryz.ntmps60
    go_wp2_with (first
      | (go_at_call 118;rw [←HW0.out];refine (HGs.out _ HG.out).mono ?_;rintro e w1 ⟨g,rfl,hrow,hg1⟩;have HRow:=Lib.hid hrow;clear hrow)
      | (go_at_call 117;refine (HNW.out _ _ _ HRow.out hm0' (fun b hb=>hb.2)).mono ?_;rintro e w2 ⟨v',rfl,hd,hg2⟩;obtain ⟨px,nx,cx,rx,rfl,hmp⟩:=HF1.out _ _ _ hg1 hg2 hd;have HMP:=Lib.hid hmp;clear hmp hd;obtain ⟨x0,x1,f0,f1⟩:=HC.out _ (gt_trans hg1 hg2 (.inl rfl))))
    refine bodyPost_ret (by simp [results,Tryz.results60,go_sem,x0,x1];try rfl) rfl ?_
    exact HMP.out
theorem GeoBC:∀ h:Nat,GBC h
  | 0=>fun B W v t hk=>hk.elim
  | h+1=>fun B W v t hk hw=>by
    have ih:=GeoBC h
    obtain ⟨k,d,n,f,kids,p,cap,q,c2,rfl,rfl⟩:=hk.form
    by_cases h1:k=1
    · exact (GeoBuildPoint DPoint.dk DPoint.form6 PointBC (h+1) B W k d p n cap q kids.length c2 f kids rfl hk hw h1).mono fun e w' ⟨v',he,hd',hg⟩=>⟨v',he,(.inl hd'),hg⟩
    by_cases h2:k=2
    · exact (GeoBuildLineString DLine.dk.toDK0 DLine.form2 LineBC (h+1) B W k d p n cap q kids.length c2 f kids rfl hk hw h2).mono fun e w' ⟨v',he,hd',hg⟩=>⟨v',he,(.inr (.inl hd')),hg⟩
    by_cases h3:k=3
    · exact (GeoBuildPolygon DPg.dk.toDK0 DNode.form PgBC (h+1) B W k d p n cap q kids.length c2 f kids rfl hk hw h3).mono fun e w' ⟨v',he,hd',hg⟩=>⟨v',he,(.inr (.inr (.inl hd'))),hg⟩
    by_cases h4:k=4
    · exact (GeoBuildMultiPoint DMpt.dk.toDK0 DMpt.form MptBC (h+1) B W k d p n cap q kids.length c2 f kids rfl hk hw h4).mono fun e w' ⟨v',he,hd',hg⟩=>⟨v',he,(.inr (.inr (.inr (.inl hd')))),hg⟩
    by_cases h5:k=5
    · exact (GeoBuildMultiLineString DMl.dk.toDK0 DNode.form MlBC (h+1) B W k d p n cap q kids.length c2 f kids rfl hk hw h5).mono fun e w' ⟨v',he,hd',hg⟩=>⟨v',he,(.inr (.inr (.inr (.inr (.inl hd'))))),hg⟩
    by_cases h6:k=6
    · exact (GeoBuildMultiPolygon DMp.dk.toDK0 DNode.form MpBC (h+1) B W k d p n cap q kids.length c2 f kids rfl hk hw h6).mono fun e w' ⟨v',he,hd',hg⟩=>⟨v',he,(.inr (.inr (.inr (.inr (.inr (.inl hd')))))),hg⟩
    exact (GeoBuildGeometryCollection (DNode.dk (DGeo.dk h)).toDK0 DNode.form (h+1) B (collection_of h ih B) W k d p n cap q kids.length c2 f kids rfl hk (by unfold wt at hw;omega) (by omega)).mono fun e w' ⟨v',he,hd',hg⟩=>⟨v',he,(.inr (.inr (.inr (.inr (.inr (.inr hd')))))),hg⟩
end
section
open Go.RowKit
mutual
def emT:Raw→Prop
  | .mk k _ n _ kids=>n=0∧(k=3→kids=[])∧emTs kids∧kids.length≤9223372036854775807
def emTs:List Raw→Prop
  | []=>True
  | t::ts=>emT t∧emTs ts
end
theorem emTs_mem:∀ {ts:List Raw} {i:Nat} {t:Raw},emTs ts→ts[i]?=some t→emT t
  | [],_,_,_,h=>by simp at h
  | s::ts,0,t,h,hi=>by simp at hi;subst hi;unfold emTs at h;exact h.1
  | s::ts,i+1,t,h,hi=>by unfold emTs at h;exact emTs_mem h.2 (by simpa using hi)
def EC (D:(Nat→Prop)→World→Value→Raw→Prop) (fE:Nat):Prop:=∀ (B:Nat→Prop) (W:World) (v:Value) (t:Raw),D B W v t→emT t→Calls Tryz.prog fE #[v] W (EPost W true)
theorem PgEC (D:(Nat→Prop)→World→Value→Raw→Prop):EC (DNode 3 D) 97:=by
  intro B W v t ⟨r,f,kids,p,c,ht,hr,hv,hc,hcm,hrow⟩ hem
  subst ht hv
  unfold emT at hem
  obtain rfl:=hem.2.1 rfl
  clear hrow hc hcm hem
  go_enter Tryz.func97,Tryz.ntmps97
  go_wp2_with fail
  go_ret
  exact ⟨rfl,World.grownBy_alloc _ _ _⟩
theorem MlEC {D:(Nat→Prop)→World→Value→Raw→Prop} (K:DK D) (hfm:∀ {B:Nat→Prop} {W:World} {v:Value} {t:Raw},D B W v t→∃ (er:Nat) (ep:Option Addr) (en ec:Nat),v=.agg #[.int .u8 er,.slice ep en ec]) (HE:EC D 96):EC (DNode 5 D) 99:=by
  intro B W v t ⟨r,f,kids,p,c,ht,hr,hv,hc,hcm,hrow⟩ hem
  subst ht hv
  unfold emT at hem
  have hkE:=hem.2.2.1
  have hM9:kids.length≤9223372036854775807:=by unfold maxLen at hcm;omega
  have HKd:Hid (∀ w,W.grownBy w none→∀ j,j<kids.length→∃ (a:Addr) (er:Nat) (ep:Option Addr) (en ec:Nat),p=some a∧w.cell? (a.add (j*2))=some (.int .u8 er)∧w.cell? ⟨(a.add (j*2)).block,(a.add (j*2)).off+1,none⟩=some (.slice ep en ec)∧∀ w',w.grownBy w' none→Calls Tryz.prog 96 #[.agg #[.int .u8 er,.slice ep en ec]] w' (EPost w' true)):=fun w g j hj=>by
    obtain ⟨a,ha⟩:=hrow.1 (by omega)
    have hi:kids[j]?=some (kids[j]'hj):=List.getElem?_eq_getElem hj
    obtain ⟨c0,c1,h0,h1,hd⟩:=(hrow.2 a ha).2 j _ hi
    obtain ⟨er,ep,en,ec,hx⟩:=hfm hd
    simp only [Value.agg.injEq,Array.mk.injEq,List.cons.injEq,and_true] at hx
    obtain ⟨rfl,rfl⟩:=hx
    exact ⟨a,er,ep,en,ec,ha,g.cell h0 (by simp),g.cell h1 (by simp),fun w' g'=>HE B w' _ _ (K.toDK0.mono (gt_trans g g' (.inl rfl)) hd) (emTs_mem hkE hi)⟩
  have HG:=Lib.hid (World.grownBy_alloc W (.cells #[.slice p kids.length c,.int .u8 r] 104) none)
  generalize hM:kids.length=M at HKd HG hM9 ⊢
  clear hrow hc hcm hem hkE hM
  go_enter Tryz.func99,Tryz.ntmps99
  go_wp2_with fail
  go_loopw [8] (fun i w2=>∃ l:Nat,l≤M∧i=.int .i64 l∧(W.alloc (.cells #[.slice p M c,.int .u8 r] 104)).grownBy w2 none) (fun i _=>M - (intOf i).toNat)
  case atStart=>exact ⟨0,by omega,rfl,gt_refl _ _⟩
  case round =>
    obtain ⟨l,hl,rfl,Gr⟩:=hrel
    rename World=>w2
    have Gw:=gt_trans HG.out Gr (.inl rfl)
    have hz:W.heap.size<w2.heap.size:=by have:=Gr.size;simp at this;omega
    by_cases hlM:l<M
    · obtain ⟨a,er,ep,en,ec,rfl,q0,q1,hf⟩:=HKd.out w2 Gw l hlM
      have HF:=Lib.hid hf
      clear hf
      go_wp2_with (first
        | (go_at_call 96;(with_reducible refine (HF.out _ ?_).mono ?_);exact World.grownBy_alloc _ _ _;rintro e w3 ⟨rfl,hg3⟩))
      exact ⟨⟨l+1,by omega,by go_num,gt_trans (gt_trans Gr (World.grownBy_alloc _ _ _) (.inl rfl)) hg3 (.inl rfl)⟩,by simp [intOf];omega⟩
    · obtain rfl:l=M:=by omega
      go_wp2_with fail
      go_wp2_with fail
      go_ret
      exact ⟨rfl,Gw⟩
theorem MpEC {D:(Nat→Prop)→World→Value→Raw→Prop} (K:DK D) (hfm:∀ {B:Nat→Prop} {W:World} {v:Value} {t:Raw},D B W v t→∃ (ep:Option Addr) (en ec er:Nat),v=.agg #[.slice ep en ec,.int .u8 er]) (HE:EC D 97):EC (DNode 6 D) 100:=by
  intro B W v t ⟨r,f,kids,p,c,ht,hr,hv,hc,hcm,hrow⟩ hem
  subst ht hv
  unfold emT at hem
  have hkE:=hem.2.2.1
  have hM9:kids.length≤9223372036854775807:=by unfold maxLen at hcm;omega
  have HKd:Hid (∀ w,W.grownBy w none→∀ j,j<kids.length→∃ (a:Addr) (ep:Option Addr) (en ec er:Nat),p=some a∧w.cell? (a.add (j*2))=some (.slice ep en ec)∧w.cell? ⟨(a.add (j*2)).block,(a.add (j*2)).off+1,none⟩=some (.int .u8 er)∧∀ w',w.grownBy w' none→Calls Tryz.prog 97 #[.agg #[.slice ep en ec,.int .u8 er]] w' (EPost w' true)):=fun w g j hj=>by
    obtain ⟨a,ha⟩:=hrow.1 (by omega)
    have hi:kids[j]?=some (kids[j]'hj):=List.getElem?_eq_getElem hj
    obtain ⟨c0,c1,h0,h1,hd⟩:=(hrow.2 a ha).2 j _ hi
    obtain ⟨ep,en,ec,er,hx⟩:=hfm hd
    simp only [Value.agg.injEq,Array.mk.injEq,List.cons.injEq,and_true] at hx
    obtain ⟨rfl,rfl⟩:=hx
    exact ⟨a,ep,en,ec,er,ha,g.cell h0 (by simp),g.cell h1 (by simp),fun w' g'=>HE B w' _ _ (K.toDK0.mono (gt_trans g g' (.inl rfl)) hd) (emTs_mem hkE hi)⟩
  have HG:=Lib.hid (World.grownBy_alloc W (.cells #[.slice p kids.length c,.int .u8 r] 108) none)
  generalize hM:kids.length=M at HKd HG hM9 ⊢
  clear hrow hc hcm hem hkE hM
  go_enter Tryz.func100,Tryz.ntmps100
  go_wp2_with fail
  go_loopw [8] (fun i w2=>∃ l:Nat,l≤M∧i=.int .i64 l∧(W.alloc (.cells #[.slice p M c,.int .u8 r] 108)).grownBy w2 none) (fun i _=>M - (intOf i).toNat)
  case atStart=>exact ⟨0,by omega,rfl,gt_refl _ _⟩
  case round =>
    obtain ⟨l,hl,rfl,Gr⟩:=hrel
    rename World=>w2
    have Gw:=gt_trans HG.out Gr (.inl rfl)
    have hz:W.heap.size<w2.heap.size:=by have:=Gr.size;simp at this;omega
    by_cases hlM:l<M
    · obtain ⟨a,ep,en,ec,er,rfl,q0,q1,hf⟩:=HKd.out w2 Gw l hlM
      have HF:=Lib.hid hf
      clear hf
      go_wp2_with (first
        | (go_at_call 97;(with_reducible refine (HF.out _ ?_).mono ?_);exact World.grownBy_alloc _ _ _;rintro e w3 ⟨rfl,hg3⟩))
      exact ⟨⟨l+1,by omega,by go_num,gt_trans (gt_trans Gr (World.grownBy_alloc _ _ _) (.inl rfl)) hg3 (.inl rfl)⟩,by simp [intOf];omega⟩
    · obtain rfl:l=M:=by omega
      go_wp2_with fail
      go_wp2_with fail
      go_ret
      exact ⟨rfl,Gw⟩
theorem GcEC {D:(Nat→Prop)→World→Value→Raw→Prop} (K:DK D) (hfm:∀ {B:Nat→Prop} {W:World} {v:Value} {t:Raw},D B W v t→∃ (ek:Int) (ty eb:Nat),v=.agg #[.int .i64 ek,.iface ty (.pointer (some ⟨eb,0,none⟩))]) (HE:EC D 47):EC (DNode 0 D) 94:=by
  intro B W v t ⟨r,f,kids,p,c,ht,hr,hv,hc,hcm,hrow⟩ hem
  subst ht hv
  unfold emT at hem
  have hkE:=hem.2.2.1
  have hM9:kids.length≤9223372036854775807:=by unfold maxLen at hcm;omega
  have HKd:Hid (∀ w,W.grownBy w none→∀ j,j<kids.length→∃ (a:Addr) (ek:Int) (ty eb:Nat),p=some a∧w.cell? (a.add (j*2))=some (.int .i64 ek)∧w.cell? ⟨(a.add (j*2)).block,(a.add (j*2)).off+1,none⟩=some (.iface ty (.pointer (some ⟨eb,0,none⟩)))∧∀ w',w.grownBy w' none→Calls Tryz.prog 47 #[.agg #[.int .i64 ek,.iface ty (.pointer (some ⟨eb,0,none⟩))]] w' (EPost w' true)):=fun w g j hj=>by
    obtain ⟨a,ha⟩:=hrow.1 (by omega)
    have hi:kids[j]?=some (kids[j]'hj):=List.getElem?_eq_getElem hj
    obtain ⟨c0,c1,h0,h1,hd⟩:=(hrow.2 a ha).2 j _ hi
    obtain ⟨ek,ty,eb,hx⟩:=hfm hd
    simp only [Value.agg.injEq,Array.mk.injEq,List.cons.injEq,and_true] at hx
    obtain ⟨rfl,rfl⟩:=hx
    exact ⟨a,ek,ty,eb,ha,g.cell h0 (by simp),g.cell h1 (by simp),fun w' g'=>HE B w' _ _ (K.toDK0.mono (gt_trans g g' (.inl rfl)) hd) (emTs_mem hkE hi)⟩
  have HG:=Lib.hid (World.grownBy_alloc W (.cells #[.slice p kids.length c,.int .u8 r] 112) none)
  generalize hM:kids.length=M at HKd HG hM9 ⊢
  clear hrow hc hcm hem hkE hM
  go_enter Tryz.func94,Tryz.ntmps94
  go_wp2_with fail
  go_loopw [8] (fun i w2=>∃ l:Nat,l≤M∧i=.int .i64 l∧(W.alloc (.cells #[.slice p M c,.int .u8 r] 112)).grownBy w2 none) (fun i _=>M - (intOf i).toNat)
  case atStart=>exact ⟨0,by omega,rfl,gt_refl _ _⟩
  case round =>
    obtain ⟨l,hl,rfl,Gr⟩:=hrel
    rename World=>w2
    have Gw:=gt_trans HG.out Gr (.inl rfl)
    have hz:W.heap.size<w2.heap.size:=by have:=Gr.size;simp at this;omega
    by_cases hlM:l<M
    · obtain ⟨a,ek,ty,eb,rfl,q0,q1,hf⟩:=HKd.out w2 Gw l hlM
      have HF:=Lib.hid hf
      clear hf
      go_wp2_with (first
        | (go_at_call 47;(with_reducible refine (HF.out _ ?_).mono ?_);exact World.grownBy_alloc _ _ _;rintro e w3 ⟨rfl,hg3⟩))
      exact ⟨⟨l+1,by omega,by go_num,gt_trans (gt_trans Gr (World.grownBy_alloc _ _ _) (.inl rfl)) hg3 (.inl rfl)⟩,by simp [intOf];omega⟩
    · obtain rfl:l=M:=by omega
      go_wp2_with fail
      go_wp2_with fail
      go_ret
      exact ⟨rfl,Gw⟩
end
section
open Go.RowKit
theorem GeoEPoint {D:(Nat→Prop)→World→Value→Raw→Prop} (K:DK0 D) (hfm:∀ {B:Nat→Prop} {W:World} {x:Value} {t:Raw},D B W x t→∃ (fx fy fz fm er:Nat) (eb:Bool),x=.agg #[.float .f64 fx,.float .f64 fy,.float .f64 fz,.float .f64 fm,.int .u8 er,.bool eb]) (HC:EC D 95):EC (GeoK 1 165 D) 47:=by
  intro B W v t ⟨b,x,hkd,hv,hB,hx,hd⟩ hem
  subst hv
  obtain ⟨fx,fy,fz,fm,er,eb,rfl⟩:=hfm hd
  have h0:=hx 0 (.float .f64 fx) rfl
  have h1:=hx 1 (.float .f64 fy) rfl
  have h2:=hx 2 (.float .f64 fz) rfl
  have h3:=hx 3 (.float .f64 fm) rfl
  have h4:=hx 4 (.int .u8 er) rfl
  have h5:=hx 5 (.bool eb) rfl
  have hb:b<W.heap.size:=World.block_lt_of_cell? W _ h0
  have HM:=Lib.hid (fun w (g:W.grownBy w none)=>MustAsPoint _ _ _ _ _ _ b w (g.cell h0 (by simp)) (g.cell h1 (by simp)) (g.cell h2 (by simp)) (g.cell h3 (by simp)) (g.cell h4 (by simp)) (g.cell h5 (by simp)) (Nat.lt_of_lt_of_le hb g.size))
  have HT:=Lib.hid (fun w (g:W.grownBy w none)=>HC B w _ t (K.mono g hd) hem)
  have HG:=Lib.hid (World.grownBy_alloc W (.cells #[.int .i64 1,.iface 165 (.pointer (some ⟨b,0,none⟩))] 57) none)
  clear hx hd HC hfm hem
  go_enter Tryz.func47,Tryz.ntmps47
  go_wp2_with (first
    | (go_at_call 75;refine (HM.out _ HG.out).mono ?_;rintro e w2 ⟨rfl,hg2⟩;have G2:=gt_trans HG.out hg2 (.inl rfl))
    | (go_at_call 95;refine (HT.out _ G2).mono ?_;rintro e w3 ⟨rfl,hg3⟩))
  go_ret
  exact ⟨rfl,gt_trans G2 hg3 (.inl rfl)⟩
theorem GeoELineString {D:(Nat→Prop)→World→Value→Raw→Prop} (K:DK0 D) (hfm:∀ {B:Nat→Prop} {W:World} {x:Value} {t:Raw},D B W x t→∃ (er:Nat) (ep:Option Addr) (en ec:Nat),x=.agg #[.int .u8 er,.slice ep en ec]) (HC:EC D 96):EC (GeoK 2 167 D) 47:=by
  intro B W v t ⟨b,x,hkd,hv,hB,hx,hd⟩ hem
  subst hv
  obtain ⟨er,ep,en,ec,rfl⟩:=hfm hd
  have h0:=hx 0 (.int .u8 er) rfl
  have h1:=hx 1 (.slice ep en ec) rfl
  have hb:b<W.heap.size:=World.block_lt_of_cell? W _ h0
  have HM:=Lib.hid (fun w (g:W.grownBy w none)=>MustAsLineString _ _ _ _ b w (g.cell h0 (by simp)) (g.cell h1 (by simp)) (Nat.lt_of_lt_of_le hb g.size))
  have HT:=Lib.hid (fun w (g:W.grownBy w none)=>HC B w _ t (K.mono g hd) hem)
  have HG:=Lib.hid (World.grownBy_alloc W (.cells #[.int .i64 2,.iface 167 (.pointer (some ⟨b,0,none⟩))] 57) none)
  clear hx hd HC hfm hem
  go_enter Tryz.func47,Tryz.ntmps47
  go_wp2_with (first
    | (go_at_call 64;refine (HM.out _ HG.out).mono ?_;rintro e w2 ⟨rfl,hg2⟩;have G2:=gt_trans HG.out hg2 (.inl rfl))
    | (go_at_call 96;refine (HT.out _ G2).mono ?_;rintro e w3 ⟨rfl,hg3⟩))
  go_ret
  exact ⟨rfl,gt_trans G2 hg3 (.inl rfl)⟩
theorem GeoEPolygon {D:(Nat→Prop)→World→Value→Raw→Prop} (K:DK0 D) (hfm:∀ {B:Nat→Prop} {W:World} {x:Value} {t:Raw},D B W x t→∃ (ep:Option Addr) (en ec er:Nat),x=.agg #[.slice ep en ec,.int .u8 er]) (HC:EC D 97):EC (GeoK 3 170 D) 47:=by
  intro B W v t ⟨b,x,hkd,hv,hB,hx,hd⟩ hem
  subst hv
  obtain ⟨ep,en,ec,er,rfl⟩:=hfm hd
  have h0:=hx 0 (.slice ep en ec) rfl
  have h1:=hx 1 (.int .u8 er) rfl
  have hb:b<W.heap.size:=World.block_lt_of_cell? W _ h0
  have HM:=Lib.hid (fun w (g:W.grownBy w none)=>MustAsPolygon _ _ _ _ b w (g.cell h0 (by simp)) (g.cell h1 (by simp)) (Nat.lt_of_lt_of_le hb g.size))
  have HT:=Lib.hid (fun w (g:W.grownBy w none)=>HC B w _ t (K.mono g hd) hem)
  have HG:=Lib.hid (World.grownBy_alloc W (.cells #[.int .i64 3,.iface 170 (.pointer (some ⟨b,0,none⟩))] 57) none)
  clear hx hd HC hfm hem
  go_enter Tryz.func47,Tryz.ntmps47
  go_wp2_with (first
    | (go_at_call 66;refine (HM.out _ HG.out).mono ?_;rintro e w2 ⟨rfl,hg2⟩;have G2:=gt_trans HG.out hg2 (.inl rfl))
    | (go_at_call 97;refine (HT.out _ G2).mono ?_;rintro e w3 ⟨rfl,hg3⟩))
  go_ret
  exact ⟨rfl,gt_trans G2 hg3 (.inl rfl)⟩
theorem GeoEMultiPoint {D:(Nat→Prop)→World→Value→Raw→Prop} (K:DK0 D) (hfm:∀ {B:Nat→Prop} {W:World} {x:Value} {t:Raw},D B W x t→∃ (ep:Option Addr) (en ec er:Nat),x=.agg #[.slice ep en ec,.int .u8 er]) (HC:EC D 98):EC (GeoK 4 173 D) 47:=by
  intro B W v t ⟨b,x,hkd,hv,hB,hx,hd⟩ hem
  subst hv
  obtain ⟨ep,en,ec,er,rfl⟩:=hfm hd
  have h0:=hx 0 (.slice ep en ec) rfl
  have h1:=hx 1 (.int .u8 er) rfl
  have hb:b<W.heap.size:=World.block_lt_of_cell? W _ h0
  have HM:=Lib.hid (fun w (g:W.grownBy w none)=>MustAsMultiPoint _ _ _ _ b w (g.cell h0 (by simp)) (g.cell h1 (by simp)) (Nat.lt_of_lt_of_le hb g.size))
  have HT:=Lib.hid (fun w (g:W.grownBy w none)=>HC B w _ t (K.mono g hd) hem)
  have HG:=Lib.hid (World.grownBy_alloc W (.cells #[.int .i64 4,.iface 173 (.pointer (some ⟨b,0,none⟩))] 57) none)
  clear hx hd HC hfm hem
  go_enter Tryz.func47,Tryz.ntmps47
  go_wp2_with (first
    | (go_at_call 79;refine (HM.out _ HG.out).mono ?_;rintro e w2 ⟨rfl,hg2⟩;have G2:=gt_trans HG.out hg2 (.inl rfl))
    | (go_at_call 98;refine (HT.out _ G2).mono ?_;rintro e w3 ⟨rfl,hg3⟩))
  go_ret
  exact ⟨rfl,gt_trans G2 hg3 (.inl rfl)⟩
theorem GeoEMultiLineString {D:(Nat→Prop)→World→Value→Raw→Prop} (K:DK0 D) (hfm:∀ {B:Nat→Prop} {W:World} {x:Value} {t:Raw},D B W x t→∃ (ep:Option Addr) (en ec er:Nat),x=.agg #[.slice ep en ec,.int .u8 er]) (HC:EC D 99):EC (GeoK 5 176 D) 47:=by
  intro B W v t ⟨b,x,hkd,hv,hB,hx,hd⟩ hem
  subst hv
  obtain ⟨ep,en,ec,er,rfl⟩:=hfm hd
  have h0:=hx 0 (.slice ep en ec) rfl
  have h1:=hx 1 (.int .u8 er) rfl
  have hb:b<W.heap.size:=World.block_lt_of_cell? W _ h0
  have HM:=Lib.hid (fun w (g:W.grownBy w none)=>MustAsMultiLineString _ _ _ _ b w (g.cell h0 (by simp)) (g.cell h1 (by simp)) (Nat.lt_of_lt_of_le hb g.size))
  have HT:=Lib.hid (fun w (g:W.grownBy w none)=>HC B w _ t (K.mono g hd) hem)
  have HG:=Lib.hid (World.grownBy_alloc W (.cells #[.int .i64 5,.iface 176 (.pointer (some ⟨b,0,none⟩))] 57) none)
  clear hx hd HC hfm hem
  go_enter Tryz.func47,Tryz.ntmps47
  go_wp2_with (first
    | (go_at_call 68;refine (HM.out _ HG.out).mono ?_;rintro e w2 ⟨rfl,hg2⟩;have G2:=gt_trans HG.out hg2 (.inl rfl))
    | (go_at_call 99;refine (HT.out _ G2).mono ?_;rintro e w3 ⟨rfl,hg3⟩))
  go_ret
  exact ⟨rfl,gt_trans G2 hg3 (.inl rfl)⟩
theorem GeoEMultiPolygon {D:(Nat→Prop)→World→Value→Raw→Prop} (K:DK0 D) (hfm:∀ {B:Nat→Prop} {W:World} {x:Value} {t:Raw},D B W x t→∃ (ep:Option Addr) (en ec er:Nat),x=.agg #[.slice ep en ec,.int .u8 er]) (HC:EC D 100):EC (GeoK 6 179 D) 47:=by
  intro B W v t ⟨b,x,hkd,hv,hB,hx,hd⟩ hem
  subst hv
  obtain ⟨ep,en,ec,er,rfl⟩:=hfm hd
  have h0:=hx 0 (.slice ep en ec) rfl
  have h1:=hx 1 (.int .u8 er) rfl
  have hb:b<W.heap.size:=World.block_lt_of_cell? W _ h0
  have HM:=Lib.hid (fun w (g:W.grownBy w none)=>MustAsMultiPolygon _ _ _ _ b w (g.cell h0 (by simp)) (g.cell h1 (by simp)) (Nat.lt_of_lt_of_le hb g.size))
  have HT:=Lib.hid (fun w (g:W.grownBy w none)=>HC B w _ t (K.mono g hd) hem)
  have HG:=Lib.hid (World.grownBy_alloc W (.cells #[.int .i64 6,.iface 179 (.pointer (some ⟨b,0,none⟩))] 57) none)
  clear hx hd HC hfm hem
  go_enter Tryz.func47,Tryz.ntmps47
  go_wp2_with (first
    | (go_at_call 70;refine (HM.out _ HG.out).mono ?_;rintro e w2 ⟨rfl,hg2⟩;have G2:=gt_trans HG.out hg2 (.inl rfl))
    | (go_at_call 100;refine (HT.out _ G2).mono ?_;rintro e w3 ⟨rfl,hg3⟩))
  go_ret
  exact ⟨rfl,gt_trans G2 hg3 (.inl rfl)⟩
theorem GeoEGeometryCollection {D:(Nat→Prop)→World→Value→Raw→Prop} (K:DK0 D) (hfm:∀ {B:Nat→Prop} {W:World} {x:Value} {t:Raw},D B W x t→∃ (ep:Option Addr) (en ec er:Nat),x=.agg #[.slice ep en ec,.int .u8 er]) (HC:EC D 94):EC (GeoK 0 183 D) 47:=by
  intro B W v t ⟨b,x,hkd,hv,hB,hx,hd⟩ hem
  subst hv
  obtain ⟨ep,en,ec,er,rfl⟩:=hfm hd
  have h0:=hx 0 (.slice ep en ec) rfl
  have h1:=hx 1 (.int .u8 er) rfl
  have hb:b<W.heap.size:=World.block_lt_of_cell? W _ h0
  have HM:=Lib.hid (fun w (g:W.grownBy w none)=>MustAsGeometryCollection _ _ _ _ b w (g.cell h0 (by simp)) (g.cell h1 (by simp)) (Nat.lt_of_lt_of_le hb g.size))
  have HT:=Lib.hid (fun w (g:W.grownBy w none)=>HC B w _ t (K.mono g hd) hem)
  have HG:=Lib.hid (World.grownBy_alloc W (.cells #[.int .i64 0,.iface 183 (.pointer (some ⟨b,0,none⟩))] 57) none)
  clear hx hd HC hfm hem
  go_enter Tryz.func47,Tryz.ntmps47
  go_wp2_with (first
    | (go_at_call 62;refine (HM.out _ HG.out).mono ?_;rintro e w2 ⟨rfl,hg2⟩;have G2:=gt_trans HG.out hg2 (.inl rfl))
    | (go_at_call 94;refine (HT.out _ G2).mono ?_;rintro e w3 ⟨rfl,hg3⟩))
  go_ret
  exact ⟨rfl,gt_trans G2 hg3 (.inl rfl)⟩
theorem ptOf_none (r:Nat) (f:Nat→Nat):∃ rr:Nat,ptOf r 0 f=⟨0,0,0,0,rr,false⟩:=by
  unfold ptOf
  rw [if_pos (Nat.zero_div _)]
  exact ⟨_,rfl⟩
theorem PtT.none {s:Raw} (h:PtT s) (he:emT s):∃ rr:Nat,ptR s=⟨0,0,0,0,rr,false⟩:=by
  obtain ⟨r,n,f,rfl,hr,_,_⟩:=h
  unfold emT at he
  obtain rfl:=he.1
  rw [ptR_of hr]
  exact ptOf_none r f
theorem PointEmpty_any (x y z m rr:Nat) (W:World):Calls Tryz.prog 95 #[.agg #[.float .f64 x,.float .f64 y,.float .f64 z,.float .f64 m,.int .u8 rr,.bool false]] W (EPost W true):=by
  go_enter Tryz.func95,Tryz.ntmps95
  go_wp2_with fail
  go_ret
  exact ⟨rfl,World.grownBy_alloc _ _ _⟩
theorem PointEC:EC DPoint 95:=by
  intro B W v t ⟨hp,hv⟩ hem
  obtain ⟨rr,e⟩:=hp.none hem
  subst hv
  rw [e]
  exact PointEmpty_any 0 0 0 0 rr W
theorem LineEC:EC DLine 96:=by
  intro B W v t ⟨r,n,f,p,ht,hr,_,hv,_,_⟩ hem
  subst ht hv
  unfold emT at hem
  obtain rfl:=hem.1
  refine (LineIsEmpty_any r 0 hr p (by omega) W).mono fun e w' ⟨he,hg⟩=>⟨?_,hg⟩
  rw [he,Nat.zero_div];rfl
theorem MptEC:EC DMpt 98:=by
  intro B W v t ⟨r,f,kids,p,c,ht,hr,hs,hv,hp,hb⟩ hem
  subst ht hv
  unfold emT at hem
  have hkE:=hem.2.2.1
  have hM9:=hem.2.2.2
  have HKd:Hid (∀ w,W.grownBy w none→∀ j,j<kids.length→∃ (a:Addr) (rr:Nat),p=some a∧w.cell? (a.add (j*6))=some (.float .f64 0)∧w.cell? ⟨(a.add (j*6)).block,(a.add (j*6)).off+1,none⟩=some (.float .f64 0)∧w.cell? ⟨(a.add (j*6)).block,(a.add (j*6)).off+2,none⟩=some (.float .f64 0)∧w.cell? ⟨(a.add (j*6)).block,(a.add (j*6)).off+3,none⟩=some (.float .f64 0)∧w.cell? ⟨(a.add (j*6)).block,(a.add (j*6)).off+4,none⟩=some (.int .u8 rr)∧w.cell? ⟨(a.add (j*6)).block,(a.add (j*6)).off+5,none⟩=some (.bool false)):=fun w g j hj=>by
    obtain ⟨a,ha⟩:=hp.some_ (by rw [List.length_map];omega)
    have hi:kids[j]?=some (kids[j]'hj):=List.getElem?_eq_getElem hj
    obtain ⟨rr,e⟩:=(hs _ (List.mem_of_getElem? hi)).none (emTs_mem hkE hi)
    have hi2:(kids.map ptR)[j]?=some ⟨0,0,0,0,rr,false⟩:=by rw [List.getElem?_map,hi,←e];rfl
    obtain ⟨h0,h1,h2,h3,h4,h5⟩:=(hp.mono g).at_ a ha j _ hi2
    exact ⟨a,rr,ha,h0,h1,h2,h3,h4,h5⟩
  have HG:=Lib.hid (World.grownBy_alloc W (.cells #[.slice p kids.length c,.int .u8 r] 101) none)
  generalize hM:kids.length=M at HKd HG hM9 ⊢
  clear hp hb hs hem hkE hM
  go_enter Tryz.func98,Tryz.ntmps98
  go_wp2_with fail
  go_loopw [8] (fun i w2=>∃ l:Nat,l≤M∧i=.int .i64 l∧(W.alloc (.cells #[.slice p M c,.int .u8 r] 101)).grownBy w2 none) (fun i _=>M - (intOf i).toNat)
  case atStart=>exact ⟨0,by omega,rfl,gt_refl _ _⟩
  case round =>
    obtain ⟨l,hl,rfl,Gr⟩:=hrel
    rename World=>w2
    have Gw:=gt_trans HG.out Gr (.inl rfl)
    have hz:W.heap.size<w2.heap.size:=by have:=Gr.size;simp at this;omega
    by_cases hlM:l<M
    · obtain ⟨a,rr,rfl,q0,q1,q2,q3,q4,q5⟩:=HKd.out w2 Gw l hlM
      have hsf:=run_store_flt Tryz.prog
      go_wp2_with (first
        | (go_at_call 95;(with_reducible refine (PointEmpty_any _ _ _ _ _ _).mono ?_);rintro e w3 ⟨rfl,hg3⟩))
      exact ⟨⟨l+1,by omega,by go_num,gt_trans (gt_trans Gr (World.grownBy_alloc _ _ _) (.inl rfl)) hg3 (.inl rfl)⟩,by simp [intOf];omega⟩
    · obtain rfl:l=M:=by omega
      go_wp2_with fail
      go_wp2_with fail
      go_ret
      exact ⟨rfl,Gw⟩
theorem GeoEC:∀ h:Nat,EC (DGeo h) 47
  | 0=>fun B W v t hd=>hd.elim
  | h+1=>fun B W v t hd hem=>by
    rcases hd with hd | hd | hd | hd | hd | hd | hd
    · exact GeoEPoint DPoint.dk DPoint.form6 PointEC B W v t hd hem
    · exact GeoELineString DLine.dk.toDK0 DLine.form2 LineEC B W v t hd hem
    · exact GeoEPolygon DPg.dk.toDK0 DNode.form (PgEC DLine) B W v t hd hem
    · exact GeoEMultiPoint DMpt.dk.toDK0 DMpt.form MptEC B W v t hd hem
    · exact GeoEMultiLineString DMl.dk.toDK0 DNode.form (MlEC DLine.dk DLine.form2 LineEC) B W v t hd hem
    · exact GeoEMultiPolygon DMp.dk.toDK0 DNode.form (MpEC DPg.dk DNode.form (PgEC DLine)) B W v t hd hem
    · exact GeoEGeometryCollection (DNode.dk (DGeo.dk h)).toDK0 DNode.form (GcEC (DGeo.dk h) DGeo.form (GeoEC h)) B W v t hd hem
end
end Go.Proofs.YtlpaecafpbbbkaaGreatDoor
