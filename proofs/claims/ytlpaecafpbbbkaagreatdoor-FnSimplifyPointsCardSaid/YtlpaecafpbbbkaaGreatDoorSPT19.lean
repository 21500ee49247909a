/- Geometries of the package at any depth: brought to a type of coordinates, made of plain data. What the package's values of points and several points are, is what the shapes are. Points as plain data: plainPoint. Several points as plain data: plainMultiPoint. Simplify of a geometry that is a point or several points: it comes back as it is. -/
import Derived.RegionTactic
import Derived.ChangeAlike
import Derived.Deep.RegionLaw
import Derived.Test.YtlpaecafpbbbkaaGreatDoorSPT18
namespace Go.Proofs.YtlpaecafpbbbkaaGreatDoor
open Go.RowKit

theorem DPoint.dk : DK0 DPoint := ⟨fun _ h => h, fun _ h => h⟩
theorem DPoint.form6 {B : Nat → Prop} {W : World} {x : Value} {t : Raw} : DPoint B W x t → ∃ (fx fy fz fm er : Nat) (eb : Bool), x = .agg #[.float .f64 fx, .float .f64 fy, .float .f64 fz, .float .f64 fm, .int .u8 er, .bool eb] := fun ⟨_, hv⟩ => ⟨_, _, _, _, _, _, hv⟩
theorem DLine.form2 {B : Nat → Prop} {W : World} {x : Value} {t : Raw} : DLine B W x t → ∃ (er : Nat) (ep : Option Addr) (en ec : Nat), x = .agg #[.int .u8 er, .slice ep en ec] := fun ⟨r, n, f, p, _, _, _, ev, _⟩ => ⟨r, p, n, n, ev⟩
theorem GeoK.form {k : Int} {ty : Nat} {D : (Nat → Prop) → World → Value → Raw → Prop} {B : Nat → Prop} {W : World} {v : Value} {t : Raw} : GeoK k ty D B W v t → ∃ (k : Int) (ty b : Nat), v = .agg #[.int .i64 k, .iface ty (.pointer (some ⟨b, 0, none⟩))] := fun ⟨b, _, _, hv, _⟩ => ⟨k, ty, b, hv⟩
/-- A geometry of the package, to the depth h. -/
def DGeo : Nat → (Nat → Prop) → World → Value → Raw → Prop
  | 0, _, _, _, _ => False
  | h + 1, B, W, v, t => GeoK 1 165 DPoint B W v t ∨ GeoK 2 167 DLine B W v t ∨ GeoK 3 170 DPg B W v t ∨ GeoK 4 173 DMpt B W v t ∨ GeoK 5 176 DMl B W v t ∨ GeoK 6 179 DMp B W v t ∨ GeoK 0 183 (DNode 0 (DGeo h)) B W v t
theorem DGeo.dk : ∀ h : Nat, DK (DGeo h)
  | 0 => ⟨⟨fun _ h => h.elim, fun _ h => h.elim⟩, fun h => h.elim⟩
  | h + 1 => by
    have ih := DGeo.dk h
    refine ⟨⟨fun g hd => ?_, fun hl hd => ?_⟩, fun hd => ?_⟩
    · rcases hd with hd | hd | hd | hd | hd | hd | hd
      · exact (.inl ((GeoK.dk DPoint.dk).keep g hd))
      · exact (.inr (.inl ((GeoK.dk DLine.dk.toDK0).keep g hd)))
      · exact (.inr (.inr (.inl ((GeoK.dk DPg.dk.toDK0).keep g hd))))
      · exact (.inr (.inr (.inr (.inl ((GeoK.dk DMpt.dk.toDK0).keep g hd)))))
      · exact (.inr (.inr (.inr (.inr (.inl ((GeoK.dk DMl.dk.toDK0).keep g hd))))))
      · exact (.inr (.inr (.inr (.inr (.inr (.inl ((GeoK.dk DMp.dk.toDK0).keep g hd)))))))
      · exact (.inr (.inr (.inr (.inr (.inr (.inr ((GeoK.dk (DNode.dk ih).toDK0).keep g hd)))))))
    · rcases hd with hd | hd | hd | hd | hd | hd | hd
      · exact (.inl ((GeoK.dk DPoint.dk).weak hl hd))
      · exact (.inr (.inl ((GeoK.dk DLine.dk.toDK0).weak hl hd)))
      · exact (.inr (.inr (.inl ((GeoK.dk DPg.dk.toDK0).weak hl hd))))
      · exact (.inr (.inr (.inr (.inl ((GeoK.dk DMpt.dk.toDK0).weak hl hd)))))
      · exact (.inr (.inr (.inr (.inr (.inl ((GeoK.dk DMl.dk.toDK0).weak hl hd))))))
      · exact (.inr (.inr (.inr (.inr (.inr (.inl ((GeoK.dk DMp.dk.toDK0).weak hl hd)))))))
      · exact (.inr (.inr (.inr (.inr (.inr (.inr ((GeoK.dk (DNode.dk ih).toDK0).weak hl hd)))))))
    · rcases hd with hd | hd | hd | hd | hd | hd | hd
      · exact (GeoK.dk DPoint.dk).one hd
      · exact (GeoK.dk DLine.dk.toDK0).one hd
      · exact (GeoK.dk DPg.dk.toDK0).one hd
      · exact (GeoK.dk DMpt.dk.toDK0).one hd
      · exact (GeoK.dk DMl.dk.toDK0).one hd
      · exact (GeoK.dk DMp.dk.toDK0).one hd
      · exact (GeoK.dk (DNode.dk ih).toDK0).one hd
theorem DGeo.form {h : Nat} {B : Nat → Prop} {W : World} {v : Value} {t : Raw} (hd : DGeo h B W v t) : ∃ (k : Int) (ty b : Nat), v = .agg #[.int .i64 k, .iface ty (.pointer (some ⟨b, 0, none⟩))] := by
  cases h with
  | zero => exact hd.elim
  | succ h =>
  rcases hd with hd | hd | hd | hd | hd | hd | hd
  · exact hd.form
  · exact hd.form
  · exact hd.form
  · exact hd.form
  · exact hd.form
  · exact hd.form
  · exact hd.form
theorem GeoK.dim {k : Int} {ty : Nat} {D : (Nat → Prop) → World → Value → Raw → Prop} (h4 : ∀ {B : Nat → Prop} {W : World} {v : Value} {t : Raw}, D B W v t → dimR t < 4) {B : Nat → Prop} {W : World} {v : Value} {t : Raw} : GeoK k ty D B W v t → dimR t < 4 := fun ⟨_, _, _, _, _, _, hd⟩ => h4 hd
theorem DGeo.d4 {h : Nat} {B : Nat → Prop} {W : World} {v : Value} {t : Raw} (hd : DGeo h B W v t) : dimR t < 4 := by
  cases h with
  | zero => exact hd.elim
  | succ h =>
  rcases hd with hd | hd | hd | hd | hd | hd | hd
  · exact GeoK.dim (fun h => h.1.dim.1) hd
  · exact GeoK.dim DLine.d4 hd
  · exact GeoK.dim DNode.d4 hd
  · exact GeoK.dim DMpt.d4 hd
  · exact GeoK.dim DNode.d4 hd
  · exact GeoK.dim DNode.d4 hd
  · exact GeoK.dim DNode.d4 hd

set_option maxRecDepth 100000 in
set_option maxHeartbeats 400000 in
theorem MlCT (D : (Nat → Prop) → World → Value → Raw → Prop) : CC (DNode 5 D) 150 := by
  intro B W v t ⟨r, f, kids, p, c, ht, hr, hv, _⟩
  subst ht hv
  generalize kids.length = n
  go_enter Tryz.func150, Tryz.ntmps150
  go_wp2_with fail
  go_ret
  exact ⟨rfl, World.grownBy_alloc _ _ _⟩

set_option maxRecDepth 100000 in
set_option maxHeartbeats 400000 in
theorem MpCT (D : (Nat → Prop) → World → Value → Raw → Prop) : CC (DNode 6 D) 151 := by
  intro B W v t ⟨r, f, kids, p, c, ht, hr, hv, _⟩
  subst ht hv
  generalize kids.length = n
  go_enter Tryz.func151, Tryz.ntmps151
  go_wp2_with fail
  go_ret
  exact ⟨rfl, World.grownBy_alloc _ _ _⟩

set_option maxRecDepth 100000 in
set_option maxHeartbeats 400000 in
theorem GcCT (D : (Nat → Prop) → World → Value → Raw → Prop) : CC (DNode 0 D) 152 := by
  intro B W v t ⟨r, f, kids, p, c, ht, hr, hv, _⟩
  subst ht hv
  generalize kids.length = n
  go_enter Tryz.func152, Tryz.ntmps152
  go_wp2_with fail
  go_ret
  exact ⟨rfl, World.grownBy_alloc _ _ _⟩
theorem GeoCC : ∀ h : Nat, CC (DGeo h) 171
  | 0 => fun B W v t hd => hd.elim
  | h + 1 => fun B W v t hd => by
    rcases hd with hd | hd | hd | hd | hd | hd | hd
    · exact GeoCTPoint DPoint.dk DPoint.form6 PointCC B W v t hd
    · exact GeoCTLineString DLine.dk.toDK0 DLine.form2 LineCC B W v t hd
    · exact GeoCTPolygon DPg.dk.toDK0 DNode.form (PgCT DLine) B W v t hd
    · exact GeoCTMultiPoint DMpt.dk.toDK0 DMpt.form MptCC B W v t hd
    · exact GeoCTMultiLineString DMl.dk.toDK0 DNode.form (MlCT DLine) B W v t hd
    · exact GeoCTMultiPolygon DMp.dk.toDK0 DNode.form (MpCT DPg) B W v t hd
    · exact GeoCTGeometryCollection (DNode.dk (DGeo.dk h)).toDK0 DNode.form (GcCT (DGeo h)) B W v t hd
theorem GeoFC : ∀ h : Nat, FC (DGeo h) 170
  | 0 => fun B W v t r' hd => hd.elim
  | h + 1 => fun B W v t r' hd hok hr' hB => by
    rcases hd with hd | hd | hd | hd | hd | hd | hd
    · exact (GeoForcePoint DPoint.dk DPoint.form6 PointFC B W v t r' hd hok hr' hB).mono fun e w' ⟨v', he, hd', hg⟩ => ⟨v', he, (.inl hd'), hg⟩
    · exact (GeoForceLineString DLine.dk.toDK0 DLine.form2 LineFC B W v t r' hd hok hr' hB).mono fun e w' ⟨v', he, hd', hg⟩ => ⟨v', he, (.inr (.inl hd')), hg⟩
    · exact (GeoForcePolygon DPg.dk.toDK0 DNode.form PgFC B W v t r' hd hok hr' hB).mono fun e w' ⟨v', he, hd', hg⟩ => ⟨v', he, (.inr (.inr (.inl hd'))), hg⟩
    · exact (GeoForceMultiPoint DMpt.dk.toDK0 DMpt.form MptFC B W v t r' hd hok hr' hB).mono fun e w' ⟨v', he, hd', hg⟩ => ⟨v', he, (.inr (.inr (.inr (.inl hd')))), hg⟩
    · exact (GeoForceMultiLineString DMl.dk.toDK0 DNode.form MlFC B W v t r' hd hok hr' hB).mono fun e w' ⟨v', he, hd', hg⟩ => ⟨v', he, (.inr (.inr (.inr (.inr (.inl hd'))))), hg⟩
    · exact (GeoForceMultiPolygon DMp.dk.toDK0 DNode.form MpFC B W v t r' hd hok hr' hB).mono fun e w' ⟨v', he, hd', hg⟩ => ⟨v', he, (.inr (.inr (.inr (.inr (.inr (.inl hd')))))), hg⟩
    · exact (GeoForceGeometryCollection (DNode.dk (DGeo.dk h)).toDK0 DNode.form (GcForce_of (DGeo.dk h) DGeo.form (GeoFC h)) B W v t r' hd hok hr' hB).mono fun e w' ⟨v', he, hd', hg⟩ => ⟨v', he, (.inr (.inr (.inr (.inr (.inr (.inr hd')))))), hg⟩
/-- What the making of a geometry does, to the depth h. -/
def GBC (h : Nat) : Prop := ∀ (B : Nat → Prop) (W : World) (v : Value) (t : Raw), KD B h W v t → wt t ≤ 2000 → Calls Tryz.prog 29 #[v] W (MPost (DGeo h) W (newT t))
theorem news_get : ∀ (ts : List Raw) (i : Nat), (newTs ts)[i]? = ts[i]?.map newT
  | [], i => by simp [newTs]
  | t :: ts, 0 => by simp [newTs]
  | t :: ts, i + 1 => by simp only [newTs, List.getElem?_cons_succ]; exact news_get ts i
theorem news_len : ∀ (ts : List Raw), (newTs ts).length = ts.length
  | [] => rfl
  | t :: ts => by simp only [newTs, List.length_cons, news_len ts]
theorem keep0 (ts : List Raw) : ts.filter (keepT 0) = ts := List.filter_eq_self.2 fun t _ => by unfold keepT; simp [kidOf]
theorem infoGe : (Tryz.prog.info? 57).map (fun i => (i.zero, i.size, i.bytes)) = some (some (.agg #[.int .i64 0, .nilIface]), 2, 24) := by kernel_rfl

set_option maxRecDepth 100000 in
set_option maxHeartbeats 4000000 in
theorem geometries_of (h : Nat) (ih : GBC h) (B : Nat → Prop) (W : World) (q : Option Addr) (m c2 : Nat) (kids : List Raw) (hm : kids.length = m) (hwk : wts kids ≤ 2000) (hq : q = none → m = 0)
    (hk : ∀ a, q = some a → ∀ i t, kids[i]? = some t → ∃ c0 c1 c2 c3, KD B h W (.agg #[c0, c1, c2, c3]) t ∧ W.cell? (a.add (i * 4)) = some c0 ∧ W.cell? ⟨(a.add (i * 4)).block, (a.add (i * 4)).off + 1, none⟩ = some c1 ∧ W.cell? ⟨(a.add (i * 4)).block, (a.add (i * 4)).off + 2, none⟩ = some c2 ∧ W.cell? ⟨(a.add (i * 4)).block, (a.add (i * 4)).off + 3, none⟩ = some c3) :
    Calls Tryz.prog 118 #[.slice q m c2] W fun e w' => ∃ g, e = .returned (.slice (some ⟨g, 0, none⟩) m m) ∧ RowD (DGeo h) (Fr W w') w' (some ⟨g, 0, none⟩) (newTs kids) ∧ W.grownBy w' none := by
  have hml : m ≤ 2000 := by have := wts_len kids; omega
  obtain ⟨i0, hi, hzz⟩ := Option.map_eq_some_iff.1 infoGe
  simp only [Prod.mk.injEq] at hzz
  have HI := Lib.hid hzz
  have HKid : Hid (∀ w, W.grownBy w none → ∀ j, j < m → ∃ t a c0 c1 c2 c3, kids[j]? = some t ∧ q = some a ∧ KD B h w (.agg #[c0, c1, c2, c3]) t ∧ wt t ≤ 2000 ∧ w.cell? (a.add (j * 4)) = some c0 ∧ w.cell? ⟨(a.add (j * 4)).block, (a.add (j * 4)).off + 1, none⟩ = some c1 ∧ w.cell? ⟨(a.add (j * 4)).block, (a.add (j * 4)).off + 2, none⟩ = some c2 ∧ w.cell? ⟨(a.add (j * 4)).block, (a.add (j * 4)).off + 3, none⟩ = some c3) := fun w g j hj => by
    obtain ⟨a, rfl⟩ : ∃ a, q = some a := by
      cases q with
      | none => have := hq rfl; omega
      | some a => exact ⟨a, rfl⟩
    have hj' : kids[j]? = some (kids[j]'(by omega)) := List.getElem?_eq_getElem (by omega)
    obtain ⟨c0, c1, c2, c3, k0, k1, k2, k3, k4⟩ := hk a rfl j _ hj'
    exact ⟨_, a, c0, c1, c2, c3, hj', rfl, k0.mono g, by have := wts_mem kids j _ hj'; omega, g.cell k1 (by simp), g.cell k2 (by simp), g.cell k3 (by simp), g.cell k4 (by simp)⟩
  have HB1 : Hid (∀ w c0 c1 c2 c3 t, KD B h w (.agg #[c0, c1, c2, c3]) t → wt t ≤ 2000 → Calls Tryz.prog 29 #[.agg #[c0, c1, c2, c3]] w (MPost (DGeo h) w (newT t))) := fun w c0 c1 c2 c3 t h1 h2 => ih B w _ t h1 h2
  have K := DGeo.dk h
  have hput : Hid (∀ (wr w1 w2 : World) k cs t c0 c1, k < m → kids[k]? = some t → RowS (DGeo h) 57 W.heap.size (fun _ => False) wr (.slice (some ⟨W.heap.size, 0, none⟩) m m) m (fun i => if i < k then (newTs kids)[i]? else none) cs → wr.grownBy w1 none → w1.grownBy w2 none → DGeo h (Fr w1 w2) w2 (.agg #[c0, c1]) (newT t) →
      RowS (DGeo h) 57 W.heap.size (fun _ => False) ((w2.setCell ⟨W.heap.size, k * 2, none⟩ c0).setCell ⟨W.heap.size, k * 2 + 1, none⟩ c1) (.slice (some ⟨W.heap.size, 0, none⟩) m m) m (fun i => if i < k + 1 then (newTs kids)[i]? else none) ((cs.set (k * 2) c0).set (k * 2 + 1) c1)) := fun wr w1 w2 k cs t c0 c1 hk ht h g1 g2 hd => by
    have hlt : W.heap.size < wr.heap.size := (h.1.lt _ rfl).2
    have s1 := g1.size
    refine (RowS.put K (h.kept K (gt_trans g1 g2 (.inl rfl))) k hk (K.weak (fun b hb => ?_) hd)).sel (fun i t' hi => ?_)
    · exact ⟨.inr ⟨by have := hb.1; omega, hb.2⟩, fun e => by have := hb.1; omega⟩
    · show (if i = k then some (newT t) else if i < k then _ else none) = some t'
      have hi' : (if i < k + 1 then (newTs kids)[i]? else none) = some t' := hi
      by_cases hik : i = k
      · subst hik
        rw [if_pos (by omega), news_get, ht] at hi'
        rw [if_pos rfl]; exact hi'
      · rw [if_neg hik]
        by_cases hl : i < k
        · rw [if_pos (by omega)] at hi'; rw [if_pos hl]; exact hi'
        · rw [if_neg (by omega)] at hi'; cases hi'
  have hcell : Hid (∀ (w : World) k cs (s : Nat → Option Raw), k < m → RowS (DGeo h) 57 W.heap.size (fun _ => False) w (.slice (some ⟨W.heap.size, 0, none⟩) m m) m s cs → (∃ v, w.cell? ⟨W.heap.size, k * 2, none⟩ = some v) ∧ (∃ v, w.cell? ⟨W.heap.size, k * 2 + 1, none⟩ = some v) ∧ ∀ j, w.frozen? ⟨W.heap.size, j, none⟩ = false) := fun w k cs s hk h => by
    have hl : cs.length = m * 2 := h.1.1
    have key : ∀ o, o < 2 → ∃ v, w.cell? ⟨W.heap.size, k * 2 + o, none⟩ = some v := fun o h6 => by
      rw [h.1.cellAt _ (by omega)]
      exact ⟨_, List.getElem?_eq_getElem (by omega)⟩
    exact ⟨key 0 (by omega), key 1 (by omega), fun j => h.1.frozenAt j⟩
  have hfin : Hid (∀ (w : World) cs, W.grownBy w none → RowS (DGeo h) 57 W.heap.size (fun _ => False) w (.slice (some ⟨W.heap.size, 0, none⟩) m m) m (fun i => if i < m then (newTs kids)[i]? else none) cs → RowD (DGeo h) (Fr W w) w (some ⟨W.heap.size, 0, none⟩) (newTs kids)) := fun w cs g hrw => by
    have h1 : RowS (DGeo h) 57 W.heap.size (fun _ => False) w (.slice (some ⟨W.heap.size, 0, none⟩) m m) (newTs kids).length (fun i => (newTs kids)[i]?) cs := by
      rw [news_len, hm]
      exact hrw.sel fun i t hi => by
        have := (List.getElem?_eq_some_iff.1 hi).1
        rw [news_len, hm] at this
        show (if i < m then _ else none) = _
        rw [if_pos this]; exact hi
    exact h1.row K (by rw [news_len, hm]) (fun b hb => hb.elim) (fun b h1 h2 => ⟨h1, h2⟩)
  have hgs : ∀ (w : World) (b jj : Nat) (y : Value), W.heap.size ≤ b → W.grownBy w none → W.grownBy (w.setCell ⟨b, jj, none⟩ y) none := fun w b jj y hb g => gt_set_r g _ _ hb
  have HGs := Lib.hid hgs
  clear hk ih hzz hgs hq hwk
  go_enter Tryz.func118, Tryz.ntmps118
  go_wp2_with (first
    | (at_make; refine wpList_make_full _ rfl _ _ _ rfl W.heap.size 57 i0 (.agg #[.int .i64 0, .nilIface]) 2 Tryz.underlying110 hi HI.out.1 HI.out.2.1 .i64 .i64 _ _ m rfl rfl rfl rfl (by rw [HI.out.2.2]; omega) (by unfold maxLen; omega) (by simp) ?_; intro w1 hown hg1))
  obtain ⟨xs0, hxs0⟩ : ∃ xs0, xs0 = (madeCells (Value.cells (.agg #[.int .i64 0, .nilIface])) (m * 2)).toList := ⟨_, rfl⟩
  rw [← hxs0] at hown
  clear hxs0
  go_loopw [11] (fun i wr => ∃ (k : Nat) (cs : List Value), k ≤ m ∧ i = .int .i64 k ∧ W.grownBy wr none ∧ RowS (DGeo h) 57 W.heap.size (fun _ => False) wr (.slice (some ⟨W.heap.size, 0, none⟩) m m) m (fun i => if i < k then (newTs kids)[i]? else none) cs) (fun i _ => m - (intOf i).toNat)
  case atStart => exact ⟨0, xs0, by omega, rfl, hg1, hown, fun i t h => absurd h (by simp)⟩
  case round =>
    clear hown
    obtain ⟨k, cs, hk, rfl, Gr, hrow⟩ := hrel
    rename World => wr
    by_cases hkL : k < m
    · obtain ⟨t, a, c0, c1, c2, c3, hti, rfl, kk, hwt, q0, q1, q2, q3⟩ := HKid.out wr Gr k hkL
      have HMk := Lib.hid (fun w (g : wr.grownBy w none) => HB1.out w c0 c1 c2 c3 t (kk.mono g) hwt)
      have HP1 := Lib.hid (fun w1 w2 c0 c1 => hput.out wr w1 w2 k cs t c0 c1 hkL hti hrow)
      have HK1 : Hid (∀ w, wr.grownBy w none → (∃ v, w.cell? ⟨W.heap.size, k * 2, none⟩ = some v) ∧ (∃ v, w.cell? ⟨W.heap.size, k * 2 + 1, none⟩ = some v) ∧ ∀ j, w.frozen? ⟨W.heap.size, j, none⟩ = false) := fun w g => hcell.out w k cs _ hkL (hrow.kept K g)
      obtain ⟨e1, d1, n1, f1, kids1, p1, cap1, q1', cq1, rfl, rfl, rfl, rfl, rfl⟩ := kk.form4
      have HG5 := Lib.hid (World.grownBy_alloc wr (.cells #[.int .i64 e1, .int .i64 d1, .slice p1 n1 cap1, .slice q1' kids1.length cq1] 33) none)
      generalize newT (.mk e1 d1 n1 f1 kids1) = tn at HMk HP1
      clear hti kk hrow hwt
      generalize kids1.length = m1 at q3 HMk HG5
      go_wp2_with (first
        | (go_at_call 29; refine (HMk.out _ HG5.out).mono ?_; rintro e w2 ⟨v2, rfl, hd2, hg2⟩; obtain ⟨ek2, ety2, eb2, rfl⟩ := DGeo.form hd2; have HD2 := Lib.hid (HP1.out _ w2 _ _ HG5.out hg2 hd2); clear hd2; have G2 := gt_trans HG5.out hg2 (.inl rfl); obtain ⟨⟨v0, x0⟩, ⟨v1, x1⟩, xf⟩ := HK1.out _ G2; have f0 := xf (k * 2); have f1 := xf (k * 2 + 1)))
      refine ⟨⟨k + 1, _, by omega, by go_num, ?_, HD2.out⟩, by simp [intOf]; omega⟩
      exact HGs.out _ _ _ _ (Nat.le_refl _) (HGs.out _ _ _ _ (Nat.le_refl _) (gt_trans Gr G2 (.inl rfl)))
    · obtain rfl : k = m := by omega
      go_wp2_with fail
      go_wp2_with fail
      go_ret
      exact ⟨W.heap.size, rfl, hfin.out _ _ Gr hrow, Gr⟩

set_option maxRecDepth 100000 in
set_option maxHeartbeats 4000000 in
theorem collection_of (h : Nat) (ih : GBC h) (B : Nat → Prop) (W : World) (k d : Int) (p : Option Addr) (n cap : Nat) (q : Option Addr) (m c2 : Nat) (f : Nat → Nat) (kids : List Raw) (hm : kids.length = m)
    (hk : KD B (h + 1) W (.agg #[.int .i64 k, .int .i64 d, .slice p n cap, .slice q m c2]) (.mk k d n f kids)) (hwk : wts kids ≤ 2000) (hk1 : k < 1 ∨ 6 < k) :
    Calls Tryz.prog 60 #[.agg #[.int .i64 k, .int .i64 d, .slice p n cap, .slice q m c2]] W (MPost (DNode 0 (DGeo h)) W (newT (.mk k d n f kids))) := by
  obtain ⟨p', cap', q', c2', e0, hf, h1, h2, h3, hm1, hm2, hm3, hm4, _⟩ := hk
  obtain ⟨rfl, rfl, rfl, rfl⟩ : p = p' ∧ cap = cap' ∧ q = q' ∧ c2 = c2' := by simp [hm] at e0; exact ⟨e0.1.1, e0.1.2, e0.2.1, e0.2.2⟩
  obtain ⟨r, hr⟩ : ∃ r : Nat, d % 4 = r := ⟨(d % 4).toNat, by omega⟩
  have hrt : (d % 4).toNat = r := by rw [hr]; rfl
  have hr4 : r < 4 := by omega
  have hkn : kindN k = 0 := by unfold kindN; split <;> omega
  have hml : m ≤ 2000 := by have := wts_len kids; omega
  have en : newT (.mk k d n f kids) = nodeT 0 r f (newTs kids) := by
    rw [newT_node _ _ _ _ _ (by rw [hkn]; decide) (by rw [hkn]; decide), hrt, hkn]
    unfold Acc
    rw [List.take_length, keep0]
  rw [en]
  have HGs := Lib.hid (fun w (g : W.grownBy w none) => geometries_of h ih B w q m c2 kids hm hwk (fun hq => by have := hm3 hq; omega) (fun a ha i t hi => by
    obtain ⟨c0, c1, c2, c3, k0, k1, k2, k3, k4⟩ := hm4 a ha i t hi
    exact ⟨c0, c1, c2, c3, k0.mono g, g.cell k1 (by simp), g.cell k2 (by simp), g.cell k3 (by simp), g.cell k4 (by simp)⟩))
  have hoks : okTs (newTs kids) := okTs_of _ fun t ht => (news_okU kids hwk t ht).1.ok
  have K := DGeo.dk h
  have HNW := Lib.hid (fun (B : Nat → Prop) w p (hrow : RowD (DGeo h) B w p (newTs kids)) (hm0 : 0 < m) (hB : ∀ b, B b → b < w.heap.size) => GcNew_of K DGeo.form DGeo.d4 (GeoFC h) (GeoCC h) B w p m m (newTs kids) f hrow (by rw [news_len, hm]) hm0 hml hoks hB)
  have HF0 := Lib.hid (fun w => GcForce_of K DGeo.form (GeoFC h) (fun _ => False) w _ (.mk 0 ((0 : Nat) : Int) 0 f []) r ⟨0, f, [], none, 0, rfl, by omega, rfl, Nat.le_refl _, by decide, fun h => by simp at h, fun a ha => by cases ha⟩ (by unfold okT okTs; exact ⟨by omega, by simp, trivial⟩) hr4 (fun b hb => hb.elim))
  have HO := Lib.hid (fun w => dimOf_r d r hr w)
  have HG := Lib.hid (gt_alloc_r (World.grownBy_alloc W (.cells #[.int .i64 k, .int .i64 d, .slice p n cap, .slice q m c2] 33) none) (.cells #[.slice none 0 0, .int .u8 0] 112))
  obtain ⟨W0, hW0⟩ : ∃ W0, W0 = (W.alloc (.cells #[.int .i64 k, .int .i64 d, .slice p n cap, .slice q m c2] 33)).alloc (.cells #[.slice none 0 0, .int .u8 0] 112) := ⟨_, rfl⟩
  have HW0 := Lib.hid hW0
  have HC : Hid (∀ w, W0.grownBy w none → w.cell? ⟨W.heap.size + 1, 0, none⟩ = some (.slice none 0 0) ∧ w.cell? ⟨W.heap.size + 1, 1, none⟩ = some (.int .u8 0) ∧ w.frozen? ⟨W.heap.size + 1, 0, none⟩ = false ∧ w.frozen? ⟨W.heap.size + 1, 1, none⟩ = false) := fun w g => by
    rw [hW0] at g
    have hb := g.block (W.heap.size + 1) (by simp) (by simp)
    refine ⟨g.cell (by simp) (by simp), g.cell (by simp) (by simp), ?_, ?_⟩ <;> (rw [World.frozen?_of_block hb]; simp)
  have hs0 : W0.heap.size = W.heap.size + 2 := by rw [hW0]; simp
  rw [← hW0] at HG
  have hfin : Hid (∀ (w2 : World) (B1 : Nat → Prop) (v' : Value) (f1 : Nat → Nat) kk (r1 : Nat), W0.grownBy w2 none → (∀ b, B1 b → W.heap.size + 2 ≤ b ∧ b < w2.heap.size) → DNode 0 (DGeo h) B1 w2 v' (.mk 0 (r1 : Nat) 0 f1 kk) → (∃ f2, nodeT 0 r f (newTs kids) = .mk 0 (r1 : Nat) 0 f2 kk) → ∃ px nx cx rx, v' = .agg #[.slice px nx cx, .int .u8 rx] ∧ MPost (DNode 0 (DGeo h)) W (nodeT 0 r f (newTs kids)) (.returned (.agg #[.slice px nx cx, .int .u8 rx])) ((w2.setCell ⟨W.heap.size + 1, 0, none⟩ (.slice px nx cx)).setCell ⟨W.heap.size + 1, 1, none⟩ (.int .u8 rx))) := fun w2 B1 v' f1 kk r1 g nB hd ⟨f2, e2⟩ => by
    obtain ⟨px, nx, cx, rx, rfl⟩ := hd.form
    refine ⟨px, nx, cx, rx, rfl, _, rfl, ?_, gt_set_r (gt_set_r (gt_trans HG.out g (.inl rfl)) _ _ (by show W.heap.size ≤ W.heap.size + 1; omega)) _ _ (by show W.heap.size ≤ W.heap.size + 1; omega)⟩
    have h1 := (DNode.dk K).keep (.set (q := ⟨W.heap.size + 1, 1, none⟩) (fun hb => by have := (nB _ hb).1; simp at this) (.int .u8 rx)) ((DNode.dk K).keep (.set (q := ⟨W.heap.size + 1, 0, none⟩) (fun hb => by have := (nB _ hb).1; simp at this) (.slice px nx cx)) hd)
    have h2 := (DNode.dk K).weak (B' := Fr W ((w2.setCell ⟨W.heap.size + 1, 0, none⟩ (.slice px nx cx)).setCell ⟨W.heap.size + 1, 1, none⟩ (.int .u8 rx))) (fun b hb => ⟨by have := (nB _ hb).1; omega, by have := (nB _ hb).2; simpa [World.setCell] using this⟩) h1
    rw [e2]
    exact h2.anyf
  clear hm4 hm3 hf e0 hwk hrt hoks hkn hW0
  by_cases hm0 : m = 0
  · have hnil : newTs kids = [] := List.eq_nil_of_length_eq_zero (by rw [news_len]; omega)
    have HF1 : Hid (∀ w2 v', W0.grownBy w2 none → DNode 0 (DGeo h) (fun b => False ∨ Fr W0 w2 b) w2 v' (forceT r (.mk 0 ((0 : Nat) : Int) 0 f [])) → ∃ px nx cx rx, v' = .agg #[.slice px nx cx, .int .u8 rx] ∧ MPost (DNode 0 (DGeo h)) W (nodeT 0 r f (newTs kids)) (.returned (.agg #[.slice px nx cx, .int .u8 rx])) ((w2.setCell ⟨W.heap.size + 1, 0, none⟩ (.slice px nx cx)).setCell ⟨W.heap.size + 1, 1, none⟩ (.int .u8 rx))) := fun w2 v' g hd => by
      rw [force_node] at hd
      exact hfin.out w2 _ v' _ _ _ g (fun b hb => by rcases hb with hb | hb; exact hb.elim; exact ⟨by rw [← hs0]; exact hb.1, hb.2⟩) hd ⟨f, by unfold nodeT; rw [if_pos hnil]; rfl⟩
    have hb : ((m : Int) == 0) = true := by rw [hm0]; rfl
    clear hfin HNW HGs hm hm1 hnil en hm0
    go_enter Tryz.func60, Tryz.ntmps60
    go_wp2_with (first
      | (go_at_call 104; refine (HO.out _).mono ?_; rintro e w3 ⟨rfl, rfl⟩)
      | (go_at_call 116; rw [← HW0.out]; refine (HF0.out _).mono ?_; rintro e w2 ⟨v', rfl, hd, hg2⟩; obtain ⟨px, nx, cx, rx, rfl, hmp⟩ := HF1.out _ _ hg2 hd; have HMP := Lib.hid hmp; clear hmp hd; obtain ⟨x0, x1, f0, f1⟩ := HC.out _ hg2))
    refine bodyPost_ret (by simp [results, Tryz.results60, go_sem, x0, x1]; try rfl) rfl ?_
    exact HMP.out
  · have hne : newTs kids ≠ [] := fun e => by have := news_len kids; rw [e] at this; simp at this; omega
    have HF1 : Hid (∀ w1 w2 v', W0.grownBy w1 none → w1.grownBy w2 none → DNode 0 (DGeo h) (fun b => Fr W0 w1 b ∨ Fr w1 w2 b) w2 v' (nodeT 0 0 f (newTs kids)) → ∃ px nx cx rx, v' = .agg #[.slice px nx cx, .int .u8 rx] ∧ MPost (DNode 0 (DGeo h)) W (nodeT 0 r f (newTs kids)) (.returned (.agg #[.slice px nx cx, .int .u8 rx])) ((w2.setCell ⟨W.heap.size + 1, 0, none⟩ (.slice px nx cx)).setCell ⟨W.heap.size + 1, 1, none⟩ (.int .u8 rx))) := fun w1 w2 v' g1 g2 hd => by
      obtain ⟨f1, e1⟩ := node_one 0 0 f (newTs kids)
      obtain ⟨f2, e2⟩ := node_one 0 r f (newTs kids)
      rw [if_neg hne, if_neg hne] at e1 e2
      rw [e1] at hd
      have s1 := g1.size
      have s2 := g2.size
      exact hfin.out w2 _ v' _ _ _ (gt_trans g1 g2 (.inl rfl)) (fun b hb => by
        rcases hb with hb | hb
        · exact ⟨by rw [← hs0]; exact hb.1, Nat.lt_of_lt_of_le hb.2 s2⟩
        · exact ⟨by rw [← hs0]; exact Nat.le_trans s1 hb.1, hb.2⟩) hd ⟨f2, e2⟩
    have hb : ((m : Int) == 0) = false := by rw [beq_eq_false_iff_ne]; omega
    have hm0' : 0 < m := by omega
    clear hfin HF0 hm hm1 hne en hm0
    go_enter Tryz.func60, Tryz.ntmps60
    go_wp2_with (first
      | (go_at_call 118; rw [← HW0.out]; refine (HGs.out _ HG.out).mono ?_; rintro e w1 ⟨g, rfl, hrow, hg1⟩; have HRow := Lib.hid hrow; clear hrow)
      | (go_at_call 117; refine (HNW.out _ _ _ HRow.out hm0' (fun b hb => hb.2)).mono ?_; rintro e w2 ⟨v', rfl, hd, hg2⟩; obtain ⟨px, nx, cx, rx, rfl, hmp⟩ := HF1.out _ _ _ hg1 hg2 hd; have HMP := Lib.hid hmp; clear hmp hd; obtain ⟨x0, x1, f0, f1⟩ := HC.out _ (gt_trans hg1 hg2 (.inl rfl))))
    refine bodyPost_ret (by simp [results, Tryz.results60, go_sem, x0, x1]; try rfl) rfl ?_
    exact HMP.out
theorem GeoBC : ∀ h : Nat, GBC h
  | 0 => fun B W v t hk => hk.elim
  | h + 1 => fun B W v t hk hw => by
    have ih := GeoBC h
    obtain ⟨k, d, n, f, kids, p, cap, q, c2, rfl, rfl⟩ := hk.form
    by_cases h1 : k = 1
    · exact (GeoBuildPoint DPoint.dk DPoint.form6 PointBC (h + 1) B W k d p n cap q kids.length c2 f kids rfl hk hw h1).mono fun e w' ⟨v', he, hd', hg⟩ => ⟨v', he, (.inl hd'), hg⟩
    by_cases h2 : k = 2
    · exact (GeoBuildLineString DLine.dk.toDK0 DLine.form2 LineBC (h + 1) B W k d p n cap q kids.length c2 f kids rfl hk hw h2).mono fun e w' ⟨v', he, hd', hg⟩ => ⟨v', he, (.inr (.inl hd')), hg⟩
    by_cases h3 : k = 3
    · exact (GeoBuildPolygon DPg.dk.toDK0 DNode.form PgBC (h + 1) B W k d p n cap q kids.length c2 f kids rfl hk hw h3).mono fun e w' ⟨v', he, hd', hg⟩ => ⟨v', he, (.inr (.inr (.inl hd'))), hg⟩
    by_cases h4 : k = 4
    · exact (GeoBuildMultiPoint DMpt.dk.toDK0 DMpt.form MptBC (h + 1) B W k d p n cap q kids.length c2 f kids rfl hk hw h4).mono fun e w' ⟨v', he, hd', hg⟩ => ⟨v', he, (.inr (.inr (.inr (.inl hd')))), hg⟩
    by_cases h5 : k = 5
    · exact (GeoBuildMultiLineString DMl.dk.toDK0 DNode.form MlBC (h + 1) B W k d p n cap q kids.length c2 f kids rfl hk hw h5).mono fun e w' ⟨v', he, hd', hg⟩ => ⟨v', he, (.inr (.inr (.inr (.inr (.inl hd'))))), hg⟩
    by_cases h6 : k = 6
    · exact (GeoBuildMultiPolygon DMp.dk.toDK0 DNode.form MpBC (h + 1) B W k d p n cap q kids.length c2 f kids rfl hk hw h6).mono fun e w' ⟨v', he, hd', hg⟩ => ⟨v', he, (.inr (.inr (.inr (.inr (.inr (.inl hd')))))), hg⟩
    exact (GeoBuildGeometryCollection (DNode.dk (DGeo.dk h)).toDK0 DNode.form (h + 1) B (collection_of h ih B) W k d p n cap q kids.length c2 f kids rfl hk (by unfold wt at hw; omega) (by omega)).mono fun e w' ⟨v', he, hd', hg⟩ => ⟨v', he, (.inr (.inr (.inr (.inr (.inr (.inr hd')))))), hg⟩
/-- A collection whose parts are small together. -/
theorem GeoBC_coll (h : Nat) (B : Nat → Prop) (W : World) (k d : Int) (p : Option Addr) (n cap : Nat) (q : Option Addr) (m c2 : Nat) (f : Nat → Nat) (kids : List Raw) (hm : kids.length = m) (hk : KD B (h + 1) W (.agg #[.int .i64 k, .int .i64 d, .slice p n cap, .slice q m c2]) (.mk k d n f kids)) (hw : wts kids ≤ 2000) (hk1 : k < 1 ∨ 6 < k) :
    Calls Tryz.prog 29 #[.agg #[.int .i64 k, .int .i64 d, .slice p n cap, .slice q m c2]] W (MPost (DGeo (h + 1)) W (newT (.mk k d n f kids))) :=
  (GeoBuildGeometryCollection (DNode.dk (DGeo.dk h)).toDK0 DNode.form (h + 1) B (collection_of h (GeoBC h) B) W k d p n cap q m c2 f kids hm hk hw hk1).mono fun e w' ⟨v', he, hd', hg⟩ => ⟨v', he, (.inr (.inr (.inr (.inr (.inr (.inr hd')))))), hg⟩
theorem coll_ok (k d : Int) (n : Nat) (f : Nat → Nat) (kids : List Raw) (hw : wts kids ≤ 2000) (hk1 : k < 1 ∨ 6 < k) : okT (newT (.mk k d n f kids)) ∧ pl (newT (.mk k d n f kids)) ≤ 2001 := by
  have hkn : kindN k = 0 := by unfold kindN; split <;> omega
  have e : newT (.mk k d n f kids) = nodeT 0 (d % 4).toNat f (newTs kids) := by
    rw [newT_node _ _ _ _ _ (by rw [hkn]; decide) (by rw [hkn]; decide), hkn]
    unfold Acc
    rw [List.take_length, keep0]
  rw [e]
  have hp := pl_node 0 (d % 4).toNat f (newTs kids)
  have hp2 := pls_new kids
  refine ⟨?_, by omega⟩
  obtain ⟨f', e2⟩ := node_one 0 (d % 4).toNat f (newTs kids)
  rw [e2]
  have hn := news_okU kids hw
  have hl := wts_len kids
  by_cases hks : newTs kids = []
  · rw [if_pos hks, if_pos hks]
    unfold okT
    exact ⟨by omega, by simp, trivial⟩
  · rw [if_neg hks, if_neg hks]
    unfold okT
    exact ⟨by omega, by rw [forceTs_len, news_len]; omega, (okUs_of (D := dimsOf (newTs kids)) _ fun m hm => ⟨(hn m hm).1, widN_dims _ m hm (hn m hm).2⟩).ok⟩
end Go.Proofs.YtlpaecafpbbbkaaGreatDoor
namespace Go.Proofs.YtlpaecafpbbbkaaGreatDoor
open Go.RowKit

theorem new_pt (t : Shp) (h : pt1 t) : ∃ n f, rawS t = .mk 1 0 n f [] ∧ (n = 0 ∨ n = 2) ∧ newT (rawS t) = .mk 1 0 n f [] ∧ ∀ i, f i < 18446744073709551616 := by
  obtain ⟨k, pts, kids⟩ := t
  obtain ⟨rfl, hp, rfl⟩ := h
  refine ⟨2 * pts.length, ptF pts, by unfold rawS; simp [rawSs], by omega, ?_, ptF_lt pts⟩
  unfold rawS newT
  have e : kindN 1 = 1 := by decide
  have e2 : widN ((0 : Int) % 4).toNat = 2 := by decide
  rw [if_pos e, e2]
  have e3 : min (2 * pts.length / 2) 1 * 2 = 2 * pts.length := by omega
  rw [e3]
  rfl
theorem SameT.refl_pt (n : Nat) (f : Nat → Nat) : SameT (.mk 1 0 n f []) (.mk 1 0 n f []) := .mk (fun _ _ => rfl) rfl (fun i t t' h => by simp at h)

theorem force_pt (t : Shp) (h : pt1 t) : forceT 0 (rawS t) = rawS t := by
  obtain ⟨n, f, e, hn, _, _⟩ := new_pt t h
  rw [e]
  have e2 : n / widN 0 * widN 0 = n := by have : widN 0 = 2 := rfl; rw [this]; omega
  unfold forceT
  have e3 : fF (0 : Int).toNat 0 f = f := funext fun i => fF_same 0 (by omega) f i
  simp only [Int.toNat_zero] at e3 ⊢
  rw [e2, e3]
  simp [forceTs]
theorem forces_pt : ∀ kids : List Shp, (∀ s ∈ kids, pt1 s) → forceTs 0 (rawSs kids) = rawSs kids
  | [], _ => by simp [rawSs, forceTs]
  | t :: ts, h => by
    unfold rawSs forceTs
    rw [force_pt t (h t List.mem_cons_self), forces_pt ts fun s hs => h s (List.mem_cons_of_mem _ hs)]
theorem news_pt : ∀ kids : List Shp, (∀ s ∈ kids, pt1 s) → newTs (rawSs kids) = rawSs kids
  | [], _ => by simp [rawSs, newTs]
  | t :: ts, h => by
    obtain ⟨n, f, e, _, e2, _⟩ := new_pt t (h t List.mem_cons_self)
    unfold rawSs newTs
    rw [news_pt ts fun s hs => h s (List.mem_cons_of_mem _ hs), e2, e]
theorem keep_pt : ∀ kids : List Shp, (∀ s ∈ kids, pt1 s) → (rawSs kids).filter (keepT 4) = rawSs kids := fun kids h => by
  refine List.filter_eq_self.2 fun r hr => ?_
  have key : ∀ ks : List Shp, (∀ s ∈ ks, pt1 s) → ∀ r ∈ rawSs ks, kindOf r = 1 := by
    intro ks
    induction ks with
    | nil => intro _ r hr; simp [rawSs] at hr
    | cons t ts ih =>
      intro hk r hr
      unfold rawSs at hr
      rcases List.mem_cons.1 hr with rfl | hr
      · obtain ⟨n, f, e, _⟩ := new_pt t (hk t List.mem_cons_self)
        rw [e]; rfl
      · exact ih (fun s hs => hk s (List.mem_cons_of_mem _ hs)) r hr
  have h1 := key kids h r hr
  unfold keepT
  have e : kidOf 4 = 1 := by decide
  rw [e, h1]
  decide

theorem dims_pt : ∀ kids : List Shp, (∀ s ∈ kids, pt1 s) → kids ≠ [] → dimsOf (rawSs kids) = 0
  | [], _, h => absurd rfl h
  | t :: ts, h, _ => by
    obtain ⟨n, f, e, _⟩ := new_pt t (h t List.mem_cons_self)
    unfold rawSs dimsOf
    rw [e]
    show (0 : Nat) &&& _ = 0
    exact Nat.zero_and _
theorem new_mp (kids : List Shp) (h : ∀ s ∈ kids, pt1 s) : ∃ f', newT (rawS (.mk 4 [] kids)) = .mk 4 0 0 f' (rawSs kids) := by
  unfold rawS newT
  have e : kindN 4 = 4 := by decide
  have e2 : ((0 : Int) % 4).toNat = 0 := by decide
  rw [if_neg (by rw [e]; decide), if_neg (by rw [e]; decide), e, news_pt kids h, keep_pt kids h, e2]
  obtain ⟨f', hn⟩ := node_one 4 0 (ptF []) (rawSs kids)
  refine ⟨f', ?_⟩
  rw [hn]
  cases kids with
  | nil => simp [rawSs]
  | cons t ts =>
    have hne : ¬ rawSs (t :: ts) = [] := by simp [rawSs]
    rw [if_neg hne, if_neg hne, dims_pt _ h (by simp), forces_pt _ h]
    rfl
end Go.Proofs.YtlpaecafpbbbkaaGreatDoor
namespace Go.Proofs.YtlpaecafpbbbkaaGreatDoor
open Go.RowKit

set_option maxRecDepth 100000 in
set_option maxHeartbeats 1000000 in
theorem PtCo_any (x y z m r : Nat) (b : Bool) (W : World) : Calls Tryz.prog 141 #[.agg #[.float .f64 x, .float .f64 y, .float .f64 z, .float .f64 m, .int .u8 r, .bool b]] W fun e w' => e = .returned (.tuple #[.agg #[.float .f64 x, .float .f64 y, .float .f64 z, .float .f64 m, .int .u8 r], .bool b]) ∧ W.grownBy w' none := by
  have hsf := run_store_flt Tryz.prog
  go_enter Tryz.func141, Tryz.ntmps141
  go_wp2_with fail
  go_region
  all_goals
    go_wp2_with fail
    go_returns
    exact ⟨rfl, gt_below (by go_grown) none⟩
theorem infoFlt : (Tryz.prog.info? 26).map (fun i => (i.zero, i.size, i.bytes)) = some (some (.float .f64 0), 1, 8) := by kernel_rfl
theorem NumB.new {W w1 : World} (g : W.grownBy w1 none) (k d : Int) : NumB W (w1.alloc (.cells #[.int .i64 k, .int .i64 d, .slice none 0 0, .slice none 0 0] 33)) (w1.heap.size + 1) w1.heap.size (w1.alloc (.cells #[.int .i64 k, .int .i64 d, .slice none 0 0, .slice none 0 0] 33)) k d (.slice none 0 0) 0 [] := by
  refine ⟨⟨gt_alloc_r g _, g.size, by omega, by simp, fun _ _ _ _ h => h, fun _ _ _ _ => rfl, fun j => by simp⟩, by simp, by simp, by simp, by simp, World.ownsRow_nil _ _ _ _⟩

set_option maxRecDepth 100000 in
set_option maxHeartbeats 4000000 in
theorem plPt0 (f : Nat → Nat) (hf : ∀ i, f i < 18446744073709551616) (W : World) : Calls Tryz.prog 74 #[.agg #[.float .f64 (f 0), .float .f64 (f 1), .float .f64 0, .float .f64 0, .int .u8 0, .bool true]] W fun e w' => ∃ v', e = .returned v' ∧ KD (Fr W w') 1 w' v' (.mk 1 (0 : Nat) 2 f []) ∧ W.grownBy w' none := by
  have HG := Lib.hid (gt_alloc_r (World.grownBy_alloc W (.cells #[.float .f64 (f 0), .float .f64 (f 1), .float .f64 0, .float .f64 0, .int .u8 0, .bool true] 87) none) (.cells #[.int .i64 0, .int .i64 0, .slice none 0 0, .slice none 0 0] 33))
  have HC : Hid (∀ w, ((W.alloc (.cells #[.float .f64 (f 0), .float .f64 (f 1), .float .f64 0, .float .f64 0, .int .u8 0, .bool true] 87)).alloc (.cells #[.int .i64 0, .int .i64 0, .slice none 0 0, .slice none 0 0] 33)).grownBy w none → (w.cell? ⟨W.heap.size, 0, none⟩ = some (.float .f64 (f 0)) ∧ w.cell? ⟨W.heap.size, 1, none⟩ = some (.float .f64 (f 1)) ∧ w.cell? ⟨W.heap.size, 2, none⟩ = some (.float .f64 0) ∧ w.cell? ⟨W.heap.size, 3, none⟩ = some (.float .f64 0) ∧ w.cell? ⟨W.heap.size, 4, none⟩ = some (.int .u8 0) ∧ w.cell? ⟨W.heap.size, 5, none⟩ = some (.bool true)) ∧ (w.cell? ⟨W.heap.size + 1, 0, none⟩ = some (.int .i64 0) ∧ w.cell? ⟨W.heap.size + 1, 1, none⟩ = some (.int .i64 0) ∧ w.cell? ⟨W.heap.size + 1, 2, none⟩ = some (.slice none 0 0) ∧ w.cell? ⟨W.heap.size + 1, 3, none⟩ = some (.slice none 0 0)) ∧ ∀ j, w.frozen? ⟨W.heap.size + 1, j, none⟩ = false) := fun w g => by
    have hb := g.block (W.heap.size + 1) (by simp) (by simp)
    refine ⟨⟨g.cell (by simp) (by simp), g.cell (by simp) (by simp), g.cell (by simp) (by simp), g.cell (by simp) (by simp), g.cell (by simp) (by simp), g.cell (by simp) (by simp)⟩, ⟨g.cell (by simp) (by simp), g.cell (by simp) (by simp), g.cell (by simp) (by simp), g.cell (by simp) (by simp)⟩, fun j => ?_⟩
    rw [World.frozen?_of_block hb]; simp
  have hsf := run_store_flt Tryz.prog
  go_enter Tryz.func74, Tryz.ntmps74
  go_wp2_with (first
    | (go_at_call 140; refine (PtCT_any _ _ _ _ _ _ _).mono ?_; rintro e w1 ⟨rfl, hg1⟩; obtain ⟨⟨k0, k1, k2, k3, k4, k5⟩, _, _⟩ := HC.out _ hg1; have hz1 : W.heap.size < w1.heap.size := by { have := hg1.size; simp at this; omega }; have hz2 : W.heap.size + 1 < w1.heap.size := by { have := hg1.size; simp at this; omega })
    | (go_at_call 141; refine (PtCo_any _ _ _ _ _ _ _).mono ?_; rintro e w2 ⟨rfl, hg2⟩; have I := (NumB.new (gt_trans HG.out hg1 (.inl rfl)) 1 0).kept hg2; have HI := Lib.hid I; have o2 := I.o2; have hz3 : w1.heap.size < w2.heap.size := by { have := hg2.size; simp at this; omega }; have G2 := gt_trans (gt_trans hg1 (World.grownBy_alloc _ _ _) (.inl rfl)) hg2 (.inl rfl); clear I)
    | (at_builtin; refine app_cells2 (size := 1) (n := 0) (xs := []) (base := w1.heap.size + 1) rfl _ _ _ rfl Tryz.underlying30 (.float .f64 0) 8 infoFlt rfl (Nat.succ_pos 0) rfl rfl (by simp) _ (HI.out.kept (gt_alloc_r (World.grownBy_alloc _ _ _) _)).own rfl (by simp [Value.oneCell']) (Nat.succ_pos 1) (by simp; omega) (by omega) (by omega) ?_; intro gg cap7 w7 hown7 hg7 hat7; replace hg7 : World.grownBy _ w7 none := hg7; have G6 := gt_alloc_r (World.grownBy_alloc w2 (.cells #[.float .f64 (f 0), .float .f64 (f 1), .float .f64 0, .float .f64 0, .int .u8 0] 85) none) (.cells #[.float .f64 (f 0), .float .f64 (f 1)] 26); have G7 := gt_trans G2 (gt_trans G6 hg7 (.inl rfl)) (.inl rfl); have I7 := HI.out.kept (gt_trans G6 hg7 (.inl rfl)); have p0 := I7.o0; have p1 := I7.o1; have p2 := I7.o2; have p3 := I7.o3; have pf := I7.u.of_ 2; have c2 : w7.cell? ⟨w2.heap.size, 2, none⟩ = some (.float .f64 0) := hg7.cell (by simp) (by simp); have c3 : w7.cell? ⟨w2.heap.size, 3, none⟩ = some (.float .f64 0) := hg7.cell (by simp) (by simp); have c4 : w7.cell? ⟨w2.heap.size, 4, none⟩ = some (.int .u8 0) := hg7.cell (by simp) (by simp); obtain ⟨_, ⟨r0, r1, r2, r3⟩, rf⟩ := HC.out _ G7; have rf0 := rf 0; have rf1 := rf 1; have rf2 := rf 2; have rf3 := rf 3; have HFin := Lib.hid (HI.out.app G6 hg7 hown7); clear hown7 hat7 I7)
    | (go_at_call 142; refine (Is3D_lit 0 false (by simp) _).mono ?_; rintro e wx ⟨rfl, rfl⟩)
    | (go_at_call 143; refine (IsMeasured_lit 0 false (by simp) _).mono ?_; rintro e wx ⟨rfl, rfl⟩))
  obtain ⟨pn, cn, hx, I2⟩ := KidB.of_num (f := f) (n := 2) HFin.out 0 hf
  injection hx with hx1 hx2 hx3
  subst hx1 hx3
  have HE := Lib.hid (I2.end_ (W.heap.size + 1) (by omega) (by omega))
  clear I2
  refine bodyPost_ret (by simp [results, Tryz.results74, go_sem, r0, r1, r2, r3]; try rfl) rfl ?_
  exact ⟨_, rfl, HE.out.1, HE.out.2⟩

set_option maxRecDepth 100000 in
set_option maxHeartbeats 4000000 in
theorem plPtE (r : Nat) (hr : r < 4) (f : Nat → Nat) (hf : ∀ i, f i < 18446744073709551616) (W : World) : Calls Tryz.prog 74 #[.agg #[.float .f64 0, .float .f64 0, .float .f64 0, .float .f64 0, .int .u8 r, .bool false]] W fun e w' => ∃ v', e = .returned v' ∧ KD (Fr W w') 1 w' v' (.mk 1 (r : Nat) 0 f []) ∧ W.grownBy w' none := by
  have HG := Lib.hid (gt_alloc_r (World.grownBy_alloc W (.cells #[.float .f64 0, .float .f64 0, .float .f64 0, .float .f64 0, .int .u8 r, .bool false] 87) none) (.cells #[.int .i64 0, .int .i64 0, .slice none 0 0, .slice none 0 0] 33))
  have HC : Hid (∀ w, ((W.alloc (.cells #[.float .f64 0, .float .f64 0, .float .f64 0, .float .f64 0, .int .u8 r, .bool false] 87)).alloc (.cells #[.int .i64 0, .int .i64 0, .slice none 0 0, .slice none 0 0] 33)).grownBy w none → (w.cell? ⟨W.heap.size, 0, none⟩ = some (.float .f64 0) ∧ w.cell? ⟨W.heap.size, 1, none⟩ = some (.float .f64 0) ∧ w.cell? ⟨W.heap.size, 2, none⟩ = some (.float .f64 0) ∧ w.cell? ⟨W.heap.size, 3, none⟩ = some (.float .f64 0) ∧ w.cell? ⟨W.heap.size, 4, none⟩ = some (.int .u8 r) ∧ w.cell? ⟨W.heap.size, 5, none⟩ = some (.bool false)) ∧ (w.cell? ⟨W.heap.size + 1, 0, none⟩ = some (.int .i64 0) ∧ w.cell? ⟨W.heap.size + 1, 1, none⟩ = some (.int .i64 0) ∧ w.cell? ⟨W.heap.size + 1, 2, none⟩ = some (.slice none 0 0) ∧ w.cell? ⟨W.heap.size + 1, 3, none⟩ = some (.slice none 0 0)) ∧ ∀ j, w.frozen? ⟨W.heap.size + 1, j, none⟩ = false) := fun w g => by
    have hb := g.block (W.heap.size + 1) (by simp) (by simp)
    refine ⟨⟨g.cell (by simp) (by simp), g.cell (by simp) (by simp), g.cell (by simp) (by simp), g.cell (by simp) (by simp), g.cell (by simp) (by simp), g.cell (by simp) (by simp)⟩, ⟨g.cell (by simp) (by simp), g.cell (by simp) (by simp), g.cell (by simp) (by simp), g.cell (by simp) (by simp)⟩, fun j => ?_⟩
    rw [World.frozen?_of_block hb]; simp
  have hsf := run_store_flt Tryz.prog
  go_enter Tryz.func74, Tryz.ntmps74
  go_wp2_with (first
    | (go_at_call 140; refine (PtCT_any _ _ _ _ _ _ _).mono ?_; rintro e w1 ⟨rfl, hg1⟩; obtain ⟨⟨k0, k1, k2, k3, k4, k5⟩, _, _⟩ := HC.out _ hg1; have hz1 : W.heap.size < w1.heap.size := by { have := hg1.size; simp at this; omega }; have hz2 : W.heap.size + 1 < w1.heap.size := by { have := hg1.size; simp at this; omega })
    | (go_at_call 141; refine (PtCo_any _ _ _ _ _ _ _).mono ?_; rintro e w2 ⟨rfl, hg2⟩; have I := ((NumB.new (gt_trans HG.out hg1 (.inl rfl)) 1 r).kept hg2).kept (World.grownBy_alloc _ (.cells #[.float .f64 0, .float .f64 0, .float .f64 0, .float .f64 0, .int .u8 r] 85) none); have I0 := (NumB.new (gt_trans HG.out hg1 (.inl rfl)) 1 r).kept hg2; have HI := Lib.hid I0; have p0 := I0.o0; have p1 := I0.o1; have p2 := I0.o2; have p3 := I0.o3; have hz3 : w1.heap.size < w2.heap.size := by { have := hg2.size; simp at this; omega }; have hz4 : W.heap.size + 1 < w2.heap.size := (by omega); have G2 := gt_trans (gt_trans hg1 (World.grownBy_alloc _ _ _) (.inl rfl)) hg2 (.inl rfl); obtain ⟨_, ⟨r0, r1, r2, r3⟩, rf⟩ := HC.out _ G2; have rf0 := rf 0; have rf1 := rf 1; have rf2 := rf 2; have rf3 := rf 3; clear I I0))
  obtain ⟨pn, cn, hx, I2⟩ := KidB.of_num (f := f) (n := 0) HI.out 0 hf
  injection hx with hx1 hx2 hx3
  subst hx1 hx3
  have HE := Lib.hid (I2.end_ (W.heap.size + 1) (by omega) (by omega))
  clear I2
  have hz6 : W.heap.size + 1 < ((((w2.setCell ⟨W.heap.size + 1, 0, none⟩ (.int .i64 1)).setCell ⟨W.heap.size + 1, 1, none⟩ (.int .i64 r)).setCell ⟨W.heap.size + 1, 2, none⟩ (.slice none 0 0)).setCell ⟨W.heap.size + 1, 3, none⟩ (.slice none 0 0)).heap.size := by simp [World.setCell]; omega
  refine bodyPost_ret (by simp [results, Tryz.results74, go_sem, r0, r1, r2, r3, hz6, hz4]; try rfl) rfl ?_
  exact ⟨_, rfl, (HE.out.1.mono (World.grownBy_alloc _ _ _)).weak (fun b hb => ⟨hb.1, Nat.lt_of_lt_of_le hb.2 (World.grownBy_alloc _ _ none).size⟩), gt_alloc_r HE.out.2 _⟩
end Go.Proofs.YtlpaecafpbbbkaaGreatDoor
namespace Go.Proofs.YtlpaecafpbbbkaaGreatDoor
open Go.RowKit

set_option maxRecDepth 100000 in
set_option maxHeartbeats 400000 in
theorem MptNum_any (p : Option Addr) (n c r : Nat) (W : World) : Calls Tryz.prog 148 #[.agg #[.slice p n c, .int .u8 r]] W fun e w' => e = .returned (.int .i64 n) ∧ W.grownBy w' none := by
  go_enter Tryz.func148, Tryz.ntmps148
  go_wp2_with fail
  go_ret
  exact ⟨rfl, World.grownBy_alloc _ _ _⟩
set_option maxRecDepth 100000 in
set_option maxHeartbeats 2000000 in
theorem MptAt_any (a : Addr) (n c r k : Nat) (x y z m pr : Nat) (pb : Bool) (hk : k < n) (hn : n ≤ 2000) (W : World) (h0 : W.cell? (a.add (k * 6)) = some (.float .f64 x)) (h1 : W.cell? ⟨(a.add (k * 6)).block, (a.add (k * 6)).off + 1, none⟩ = some (.float .f64 y))
    (h2 : W.cell? ⟨(a.add (k * 6)).block, (a.add (k * 6)).off + 2, none⟩ = some (.float .f64 z)) (h3 : W.cell? ⟨(a.add (k * 6)).block, (a.add (k * 6)).off + 3, none⟩ = some (.float .f64 m)) (h4 : W.cell? ⟨(a.add (k * 6)).block, (a.add (k * 6)).off + 4, none⟩ = some (.int .u8 pr)) (h5 : W.cell? ⟨(a.add (k * 6)).block, (a.add (k * 6)).off + 5, none⟩ = some (.bool pb)) :
    Calls Tryz.prog 149 #[.agg #[.slice (some a) n c, .int .u8 r], .int .i64 k] W fun e w' => e = .returned (.agg #[.float .f64 x, .float .f64 y, .float .f64 z, .float .f64 m, .int .u8 pr, .bool pb]) ∧ W.grownBy w' none := by
  have hb0 : a.block < W.heap.size := by have := World.block_lt_of_cell? W _ h0; rw [add_block] at this; exact this
  have hb1 : a.block < W.heap.size + 1 := by omega
  have hb2 : a.block < W.heap.size + 1 + 1 := by omega
  have hb3 : (a.add (k * 6)).block < W.heap.size := by rw [add_block]; omega
  have hb4 : (a.add (k * 6)).block < W.heap.size + 1 := by rw [add_block]; omega
  have hb5 : (a.add (k * 6)).block < W.heap.size + 1 + 1 := by rw [add_block]; omega
  have hki : (k : Int) < (n : Int) := by omega
  have hk0 : (0 : Int) ≤ (k : Int) := by omega
  have hsf := run_store_flt Tryz.prog
  go_enter Tryz.func149, Tryz.ntmps149
  go_wp2_with fail
  go_returns
  exact ⟨rfl, gt_alloc_r (World.grownBy_alloc _ _ _) _⟩

set_option maxRecDepth 100000 in
set_option maxHeartbeats 8000000 in
theorem plMpt_any (r n c : Nat) (hr : r < 4) (hn2 : n ≤ 2000) (p : Option Addr) (kids : List Raw) (hn : kids.length = n) (W : World) (hpr : PR W p (kids.map ptR))
    (HP : ∀ s ∈ kids, ∀ w, Calls Tryz.prog 74 #[(ptR s).v] w fun e w' => ∃ v', e = .returned v' ∧ KD (Fr w w') 1 w' v' s ∧ w.grownBy w' none) :
    Calls Tryz.prog 78 #[.agg #[.slice p n c, .int .u8 r]] W fun e w' => ∃ v', e = .returned v' ∧ KD (Fr W w') 2 w' v' (.mk 4 (r : Nat) 0 (fun _ => 0) kids) ∧ W.grownBy w' none := by
  have HG := Lib.hid (gt_alloc_r (World.grownBy_alloc W (.cells #[.slice p n c, .int .u8 r] 101) none) (.cells #[.int .i64 0, .int .i64 0, .slice none 0 0, .slice none 0 0] 33))
  have HC : Hid (∀ w, ((W.alloc (.cells #[.slice p n c, .int .u8 r] 101)).alloc (.cells #[.int .i64 0, .int .i64 0, .slice none 0 0, .slice none 0 0] 33)).grownBy w none → (w.cell? ⟨W.heap.size, 0, none⟩ = some (.slice p n c) ∧ w.cell? ⟨W.heap.size, 1, none⟩ = some (.int .u8 r)) ∧ (w.cell? ⟨W.heap.size + 1, 0, none⟩ = some (.int .i64 0) ∧ w.cell? ⟨W.heap.size + 1, 1, none⟩ = some (.int .i64 0) ∧ w.cell? ⟨W.heap.size + 1, 2, none⟩ = some (.slice none 0 0) ∧ w.cell? ⟨W.heap.size + 1, 3, none⟩ = some (.slice none 0 0)) ∧ ∀ j, w.frozen? ⟨W.heap.size + 1, j, none⟩ = false) := fun w g => by
    have hb := g.block (W.heap.size + 1) (by simp) (by simp)
    refine ⟨⟨g.cell (by simp) (by simp), g.cell (by simp) (by simp)⟩, ⟨g.cell (by simp) (by simp), g.cell (by simp) (by simp), g.cell (by simp) (by simp), g.cell (by simp) (by simp)⟩, fun j => ?_⟩
    rw [World.frozen?_of_block hb]; simp
  have HK : Hid (∀ w, W.grownBy w none → ∀ k, k < n → ∃ (a : Addr) (t : Raw) (x y z m er : Nat) (eb : Bool), p = some a ∧ kids[k]? = some t ∧ w.cell? (a.add (k * 6)) = some (.float .f64 x) ∧ w.cell? ⟨(a.add (k * 6)).block, (a.add (k * 6)).off + 1, none⟩ = some (.float .f64 y) ∧ w.cell? ⟨(a.add (k * 6)).block, (a.add (k * 6)).off + 2, none⟩ = some (.float .f64 z) ∧ w.cell? ⟨(a.add (k * 6)).block, (a.add (k * 6)).off + 3, none⟩ = some (.float .f64 m) ∧ w.cell? ⟨(a.add (k * 6)).block, (a.add (k * 6)).off + 4, none⟩ = some (.int .u8 er) ∧ w.cell? ⟨(a.add (k * 6)).block, (a.add (k * 6)).off + 5, none⟩ = some (.bool eb) ∧
      ∀ w', Calls Tryz.prog 74 #[.agg #[.float .f64 x, .float .f64 y, .float .f64 z, .float .f64 m, .int .u8 er, .bool eb]] w' fun e w2 => ∃ k6 d6 p6 n6 cap6 q6 m6 cq6, e = .returned (.agg #[.int .i64 k6, .int .i64 d6, .slice p6 n6 cap6, .slice q6 m6 cq6]) ∧ KD (Fr w' w2) 1 w2 (.agg #[.int .i64 k6, .int .i64 d6, .slice p6 n6 cap6, .slice q6 m6 cq6]) t ∧ w'.grownBy w2 none) := fun w g k hk => by
    have hpr2 := hpr.mono g
    have hi : kids[k]? = some (kids[k]'(by omega)) := List.getElem?_eq_getElem (by omega)
    obtain ⟨a, ha⟩ := hpr2.some_ (by rw [List.length_map]; omega)
    obtain ⟨q0, q1, q2, q3, q4, q5⟩ := hpr2.at_ a ha k (ptR (kids[k]'(by omega))) (by rw [List.getElem?_map, hi]; rfl)
    exact ⟨a, _, _, _, _, _, _, _, ha, hi, q0, q1, q2, q3, q4, q5, fun w' => (HP _ (List.mem_of_getElem? hi) w').mono fun e w2 ⟨v', he, hk, hg⟩ => by
      obtain ⟨k6, d6, n6, f6, kids6, p6, cap6, q6, cq6, _, hv⟩ := hk.form
      exact ⟨k6, d6, p6, n6, cap6, q6, _, cq6, by rw [he, hv], by rw [← hv]; exact hk, hg⟩⟩
  have HRl : Hid (∀ j, j ≤ n → (kids.take j).length = j) := fun j hj => by rw [List.length_take]; omega
  have HRt : Hid (∀ j t, kids[j]? = some t → kids.take (j + 1) = kids.take j ++ [t]) := fun j t h => by
    obtain ⟨hlt, rfl⟩ := List.getElem?_eq_some_iff.1 h
    rw [List.take_succ_eq_append_getElem hlt]
  have HRe : Hid (kids.take n = kids) := by show kids.take n = kids; rw [← hn, List.take_length]
  have HNm := Lib.hid (fun w => MptNum_any p n c r w)
  clear hpr HP hn
  have hsf := run_store_flt Tryz.prog
  go_enter Tryz.func78, Tryz.ntmps78
  go_wp2_with (first
    | (go_at_call 147; refine (MPCT_any r n c p _).mono ?_; rintro e w1 ⟨rfl, hg1⟩; obtain ⟨⟨k0, k1⟩, _, _⟩ := HC.out _ hg1; have hz1 : W.heap.size < w1.heap.size := (by have := hg1.size; simp at this; omega); have hz2 : W.heap.size + 1 < w1.heap.size := (by have := hg1.size; simp at this; omega)))
  obtain ⟨pn, cn, hx, I0⟩ := KidB.of_num (f := fun _ => 0) (n := 0) (NumB.new (gt_trans HG.out hg1 (.inl rfl)) 4 r) 1 (fun _ => Nat.zero_lt_succ _)
  injection hx with hx1 hx2 hx3
  subst hx1 hx3
  have HI0 := Lib.hid I0
  clear I0
  have HBx : Hid (∀ wr, Und W (w1.alloc (.cells #[.int .i64 4, .int .i64 r, .slice none 0 0, .slice none 0 0] 33)) (w1.heap.size + 1) w1.heap.size wr → (wr.cell? ⟨W.heap.size, 0, none⟩ = some (.slice p n c) ∧ wr.cell? ⟨W.heap.size, 1, none⟩ = some (.int .u8 r)) ∧ (wr.cell? ⟨W.heap.size + 1, 0, none⟩ = some (.int .i64 0) ∧ wr.cell? ⟨W.heap.size + 1, 1, none⟩ = some (.int .i64 0) ∧ wr.cell? ⟨W.heap.size + 1, 2, none⟩ = some (.slice none 0 0) ∧ wr.cell? ⟨W.heap.size + 1, 3, none⟩ = some (.slice none 0 0)) ∧ ∀ j, wr.frozen? ⟨W.heap.size + 1, j, none⟩ = false) := fun wr u => by
    obtain ⟨⟨e0, e1⟩, ⟨f0, f1, f2, f3⟩, fz⟩ := HC.out (w1.alloc (.cells #[.int .i64 4, .int .i64 r, .slice none 0 0, .slice none 0 0] 33)) (gt_alloc_r hg1 _)
    have kp : ∀ b j x, b < w1.heap.size → (w1.alloc (.cells #[.int .i64 4, .int .i64 r, .slice none 0 0, .slice none 0 0] 33)).cell? ⟨b, j, none⟩ = some x → wr.cell? ⟨b, j, none⟩ = some x := fun b j x hb h => u.keep _ _ (by show b < _; omega) (by show b ≠ _; omega) h
    exact ⟨⟨kp _ _ _ hz1 e0, kp _ _ _ hz1 e1⟩, ⟨kp _ _ _ hz2 f0, kp _ _ _ hz2 f1, kp _ _ _ hz2 f2, kp _ _ _ hz2 f3⟩, fun j => by rw [u.kf _ j (by omega) (by omega)]; exact fz j⟩
  clear HC k0 k1
  go_loopw [4] (fun i wr => ∃ (k : Nat) (y : Value) (cs : List Value), k ≤ n ∧ i = .int .i64 k ∧ KidB W (w1.alloc (.cells #[.int .i64 4, .int .i64 r, .slice none 0 0, .slice none 0 0] 33)) (w1.heap.size + 1) w1.heap.size wr 1 4 r none 0 0 (fun _ => 0) y (kids.take k) cs) (fun i _ => n - (intOf i).toNat)
  case atStart => exact ⟨0, _, _, by omega, rfl, by rw [List.take_zero]; exact HI0.out⟩
  case round =>
    clear HI0
    obtain ⟨k, y, cs, hk, rfl, I⟩ := hrel
    rename World => wr
    obtain ⟨⟨k0, k1⟩, ⟨r0, r1, r2, r3⟩, rf⟩ := HBx.out _ I.u
    have hll := HRl.out k hk
    obtain ⟨py, cy, rfl, _⟩ := own_form I.kr.1
    rw [hll] at I
    have hbig := I.u.big
    have hzA : W.heap.size < wr.heap.size := by omega
    have hzB : W.heap.size + 1 < wr.heap.size := by omega
    have hzC : w1.heap.size < wr.heap.size := by omega
    by_cases hkn : k < n
    · obtain ⟨a, t, x, yy, z, m, er, eb, rfl, hti, q0, q1, q2, q3, q4, q5, hpp⟩ := HK.out wr I.u.g k hkn
      have HPp := Lib.hid hpp
      have HRj := Lib.hid (HRt.out k t hti)
      have HI := Lib.hid I
      have HAt := Lib.hid (fun w (g : wr.grownBy w none) => MptAt_any a n c r k x yy z m er eb hkn hn2 w (g.cell q0 (by simp)) (g.cell q1 (by simp)) (g.cell q2 (by simp)) (g.cell q3 (by simp)) (g.cell q4 (by simp)) (g.cell q5 (by simp)))
      have HOw : Hid (∀ w, wr.grownBy w none → w.ownsRow (w1.heap.size + 1) 33 4 (.slice py k cy) k cs) := fun w g => by
        have hh := (HI.out.kept g).kr.1
        rw [hll] at hh
        exact hh
      have HS : Hid (∀ w, wr.grownBy w none → w.cell? ⟨W.heap.size, 0, none⟩ = some (.slice (some a) n c) ∧ w.cell? ⟨W.heap.size, 1, none⟩ = some (.int .u8 r) ∧ w.cell? ⟨w1.heap.size, 3, none⟩ = some (.slice py k cy)) := fun w g => ⟨g.cell k0 (by simp), g.cell k1 (by simp), (HI.out.kept g).o3⟩
      have HX7 : Hid (∀ w6 w7, wr.grownBy w6 none → w6.grownBy w7 (Value.slice py k cy).ownBlock → w7.cell? ⟨w1.heap.size, 3, none⟩ = some (.slice py k cy) ∧ w7.frozen? ⟨w1.heap.size, 3, none⟩ = false) := fun w6 w7 g g' => by
        have hi := HI.out.kept g
        have hne : some w1.heap.size ≠ (Value.slice py k cy).ownBlock := fun e => by have := (hi.kr.1.lt _ e.symm).1; omega
        exact ⟨g'.cell hi.o3 hne, by rw [World.frozen?_of_block (g'.block w1.heap.size (by have := hi.u.big; omega) hne)]; exact hi.u.of_ 3⟩
      have HSn : Hid (∀ (wa wb wc wd : World) (d0 d1 d2 d3 : Value) (gg cap : Nat), wr.grownBy wa none → wa.grownBy wb none → wb.grownBy wc none → KD (Fr wa wb) 1 wb (.agg #[d0, d1, d2, d3]) t → wd.ownsRow (w1.heap.size + 1) 33 4 (.slice (some ⟨gg, 0, none⟩) (k + 1) cap) (k + 1) (cs ++ [d0, d1, d2, d3]) → wc.grownBy wd (Value.slice py k cy).ownBlock → ((Value.slice py k cy).ownBlock = some gg ∨ gg = wc.heap.size) →
          KidB W (w1.alloc (.cells #[.int .i64 4, .int .i64 r, .slice none 0 0, .slice none 0 0] 33)) (w1.heap.size + 1) w1.heap.size (wd.setCell ⟨w1.heap.size, 3, none⟩ (.slice (some ⟨gg, 0, none⟩) (k + 1) cap)) 1 4 r none 0 0 (fun _ => 0) (.slice (some ⟨gg, 0, none⟩) (k + 1) cap) (kids.take k ++ [t]) (cs ++ [d0, d1, d2, d3])) := fun wa wb wc wd d0 d1 d2 d3 gg cap g1 g2 g3 hk hown g4 hg => by
        have hh := HI.out.snoc g1 g2 g3 hk (gg := gg) (cap := cap) (by rw [hll]; exact hown) g4 hg
        rw [hll] at hh
        exact hh
      clear I hpp hti
      go_wp2_with (first
        | (go_at_call 148; refine (HNm.out _).mono ?_; rintro e w2 ⟨rfl, hg2⟩; obtain ⟨b0, b1, b3⟩ := HS.out _ hg2; have hzD : w1.heap.size < w2.heap.size := (by have := hg2.size; omega)))
      have hgd := gt_trans hg2 (gt_drew_r (gt_refl w2 none)) (.inl rfl)
      go_region_law (first
        | (rw [if_pos (by simp [Region.wanted])]; go_simp; go_at_call 149; (with_reducible refine (HAt.out _ ?_).mono ?_); exact hgd; rintro e w3 ⟨rfl, hg3⟩; have G3 := gt_trans hgd hg3 (.inl rfl); obtain ⟨c0, c1, c3⟩ := HS.out _ G3)
        | (rw [if_pos (by simp [Region.wanted])]; go_simp; go_at_call 74; (with_reducible refine (HPp.out _).mono ?_); rintro e w5 ⟨k6, d6, p6, n6, cap6, q6, m6, cq6, rfl, hk5, hg5⟩; have Hk5 := Lib.hid hk5; clear hk5; have G6 := gt_trans G3 hg5 (.inl rfl); obtain ⟨d0, d1, d3⟩ := HS.out _ G6; have hzE : w1.heap.size < w5.heap.size := (by have := G6.size; omega))
        | (refine app_cells2_step (size := 4) (n := k) (xs := cs) (base := w1.heap.size + 1) rfl _ _ _ rfl Tryz.underlying31 (.agg #[.int .i64 0, .int .i64 0, .slice none 0 0, .slice none 0 0]) 64 infoG rfl (Nat.succ_pos 3) rfl rfl rfl _ (HOw.out _ (gt_alloc_r G6 _)) rfl (one4 _ _ _ _ _ _ _ _) (Nat.succ_pos 0) (by have := G6.size; simp; omega) (by omega) (by omega) ?_; intro gg cap7 w7 hown7 hg7 hat7; obtain ⟨u3, uf⟩ := HX7.out _ _ (gt_alloc_r G6 _) hg7; have HFin := Lib.hid (HSn.out _ _ _ _ _ _ _ _ _ _ G3 hg5 (World.grownBy_alloc _ _ _) Hk5.out hown7 hg7 hat7); clear hown7 hg7 hat7))
      all_goals
        go_wp2_with fail
        exact ⟨⟨k + 1, _, _, by omega, by go_num, by rw [HRj.out]; exact HFin.out⟩, by simp [intOf]; omega⟩
    · obtain rfl : k = n := by omega
      rw [HRe.out] at I
      have HI := Lib.hid I
      clear I
      go_wp2_with (first
        | (go_at_call 148; refine (HNm.out _).mono ?_; rintro e w2 ⟨rfl, hg2⟩; have I2 := HI.out.kept hg2; have o0 := I2.o0; have o1 := I2.o1; have o2 := I2.o2; have o3 := I2.o3; obtain ⟨_, ⟨s0, s1, s2, s3⟩, sf⟩ := HBx.out _ I2.u; have sf0 := sf 0; have sf1 := sf 1; have sf2 := sf 2; have sf3 := sf 3; have HE := Lib.hid (I2.end_ (W.heap.size + 1) (by omega) (by omega)); clear I2))
      go_wp2_with fail
      refine bodyPost_ret (by simp [results, Tryz.results78, go_sem, s0, s1, s2, s3]; try rfl) rfl ?_
      exact ⟨_, rfl, HE.out.1, HE.out.2⟩
end Go.Proofs.YtlpaecafpbbbkaaGreatDoor
namespace Go.Proofs.YtlpaecafpbbbkaaGreatDoor
open Go.RowKit

set_option maxRecDepth 100000 in
set_option maxHeartbeats 2000000 in
theorem simplify_1 (ty b th : Nat) (nv : Value) (hnv : nv = .slice none 0 0) (W : World) : Calls Tryz.prog 30 #[.agg #[.int .i64 1, .iface ty (.pointer (some ⟨b, 0, none⟩))], .float .f64 th, nv] W fun e w' => e = .returned (.tuple #[.agg #[.int .i64 1, .iface ty (.pointer (some ⟨b, 0, none⟩))], .nilIface]) ∧ W.grownBy w' none := by
  subst hnv
  go_enter Tryz.func30, Tryz.ntmps30
  go_wp2_with fail
  go_returns
  exact ⟨rfl, gt_alloc_r (World.grownBy_alloc _ _ _) _⟩
set_option maxRecDepth 100000 in
set_option maxHeartbeats 2000000 in
theorem simplify_4 (ty b th : Nat) (nv : Value) (hnv : nv = .slice none 0 0) (W : World) : Calls Tryz.prog 30 #[.agg #[.int .i64 4, .iface ty (.pointer (some ⟨b, 0, none⟩))], .float .f64 th, nv] W fun e w' => e = .returned (.tuple #[.agg #[.int .i64 4, .iface ty (.pointer (some ⟨b, 0, none⟩))], .nilIface]) ∧ W.grownBy w' none := by
  subst hnv
  go_enter Tryz.func30, Tryz.ntmps30
  go_wp2_with fail
  go_returns
  exact ⟨rfl, gt_alloc_r (World.grownBy_alloc _ _ _) _⟩
set_option maxRecDepth 100000 in
theorem noCheck_true (W : World) : Calls Tryz.prog 31 #[.bool true] W fun e w' => e = .returned (.slice none 0 0) ∧ w' = W := by
  go_enter Tryz.func31, Tryz.ntmps31
  go_wp2_with fail
  go_ret
  exact ⟨rfl, rfl⟩
set_option maxRecDepth 100000 in
set_option maxHeartbeats 400000 in
theorem geoType_any (k : Int) (ty b : Nat) (W : World) : Calls Tryz.prog 72 #[.agg #[.int .i64 k, .iface ty (.pointer (some ⟨b, 0, none⟩))]] W fun e w' => e = .returned (.int .i64 k) ∧ W.grownBy w' none := by
  go_enter Tryz.func72, Tryz.ntmps72
  go_wp2_with fail
  go_ret
  exact ⟨rfl, World.grownBy_alloc _ _ _⟩
end Go.Proofs.YtlpaecafpbbbkaaGreatDoor
