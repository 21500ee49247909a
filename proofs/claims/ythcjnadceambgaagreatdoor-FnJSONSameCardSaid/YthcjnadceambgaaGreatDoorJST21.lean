/- Geometries of the package at any depth: brought to a type of coordinates, made of plain data. The package's text of lines, and what the texts of containers are made of. The package's GeoJSON of sequences, and what the texts of GeoJSON are made of. -/
import Derived.Test.YthcjnadceambgaaGreatDoorJST20
namespace Go.Proofs.YthcjnadceambgaaGreatDoor
open Go.RowKit

theorem DPoint.dk : DK0 DPoint := ⟨fun _ h => h, fun _ h => h⟩
theorem DPoint.form6 {B : Nat → Prop} {W : World} {x : Value} {t : Raw} : DPoint B W x t → ∃ (fx fy fz fm er : Nat) (eb : Bool), x = .agg #[.float .f64 fx, .float .f64 fy, .float .f64 fz, .float .f64 fm, .int .u8 er, .bool eb] := fun ⟨_, hv⟩ => ⟨_, _, _, _, _, _, hv⟩
theorem DLine.form2 {B : Nat → Prop} {W : World} {x : Value} {t : Raw} : DLine B W x t → ∃ (er : Nat) (ep : Option Addr) (en ec : Nat), x = .agg #[.int .u8 er, .slice ep en ec] := fun ⟨r, n, f, p, _, _, _, ev, _⟩ => ⟨r, p, n, n, ev⟩
theorem GeoK.form {k : Int} {ty : Nat} {D : (Nat → Prop) → World → Value → Raw → Prop} {B : Nat → Prop} {W : World} {v : Value} {t : Raw} : GeoK k ty D B W v t → ∃ (k : Int) (ty b : Nat), v = .agg #[.int .i64 k, .iface ty (.pointer (some ⟨b, 0, none⟩))] := fun ⟨b, _, _, hv, _⟩ => ⟨k, ty, b, hv⟩
/-- A geometry of the package, to the depth h. -/
def DGeo : Nat → (Nat → Prop) → World → Value → Raw → Prop
  | 0, _, _, _, _ => False
  | h + 1, B, W, v, t => GeoK 1 145 DPoint B W v t ∨ GeoK 2 146 DLine B W v t ∨ GeoK 3 147 DPg B W v t ∨ GeoK 4 148 DMpt B W v t ∨ GeoK 5 149 DMl B W v t ∨ GeoK 6 150 DMp B W v t ∨ GeoK 0 154 (DNode 0 (DGeo h)) B W v t
theorem DGeo.dk : ∀ h : Nat, DK (DGeo h)
  | 0 => ⟨⟨fun _ h => h.elim, fun _ h => h.elim⟩, fun h => h.elim⟩
  | h + 1 => by
    have ih := DGeo.dk h
    refine ⟨⟨fun g hd => ?_, fun hl hd => ?_⟩, fun hd => ?_⟩
    · rcases hd with hd | hd | hd | hd | hd | hd | hd
      · exact (.inl ((GeoK.dk DPoint.dk).keep g hd))
      · exact (.inr (.inl ((GeoK.dk DLine.dk.toDK0).keep g hd)))
      · exact (.inr (.inr (.inl ((GeoK.dk DPg.dk.toDK0).keep g hd))))
      · exact (.inr (.inr (.inr (.inl ((GeoK.dk DMpt.dk.toDK0).keep g hd)))))
      · exact (.inr (.inr (.inr (.inr (.inl ((GeoK.dk DMl.dk.toDK0).keep g hd))))))
      · exact (.inr (.inr (.inr (.inr (.inr (.inl ((GeoK.dk DMp.dk.toDK0).keep g hd)))))))
      · exact (.inr (.inr (.inr (.inr (.inr (.inr ((GeoK.dk (DNode.dk ih).toDK0).keep g hd)))))))
    · rcases hd with hd | hd | hd | hd | hd | hd | hd
      · exact (.inl ((GeoK.dk DPoint.dk).weak hl hd))
      · exact (.inr (.inl ((GeoK.dk DLine.dk.toDK0).weak hl hd)))
      · exact (.inr (.inr (.inl ((GeoK.dk DPg.dk.toDK0).weak hl hd))))
      · exact (.inr (.inr (.inr (.inl ((GeoK.dk DMpt.dk.toDK0).weak hl hd)))))
      · exact (.inr (.inr (.inr (.inr (.inl ((GeoK.dk DMl.dk.toDK0).weak hl hd))))))
      · exact (.inr (.inr (.inr (.inr (.inr (.inl ((GeoK.dk DMp.dk.toDK0).weak hl hd)))))))
      · exact (.inr (.inr (.inr (.inr (.inr (.inr ((GeoK.dk (DNode.dk ih).toDK0).weak hl hd)))))))
    · rcases hd with hd | hd | hd | hd | hd | hd | hd
      · exact (GeoK.dk DPoint.dk).one hd
      · exact (GeoK.dk DLine.dk.toDK0).one hd
      · exact (GeoK.dk DPg.dk.toDK0).one hd
      · exact (GeoK.dk DMpt.dk.toDK0).one hd
      · exact (GeoK.dk DMl.dk.toDK0).one hd
      · exact (GeoK.dk DMp.dk.toDK0).one hd
      · exact (GeoK.dk (DNode.dk ih).toDK0).one hd
theorem DGeo.form {h : Nat} {B : Nat → Prop} {W : World} {v : Value} {t : Raw} (hd : DGeo h B W v t) : ∃ (k : Int) (ty b : Nat), v = .agg #[.int .i64 k, .iface ty (.pointer (some ⟨b, 0, none⟩))] := by
  cases h with
  | zero => exact hd.elim
  | succ h =>
  rcases hd with hd | hd | hd | hd | hd | hd | hd
  · exact hd.form
  · exact hd.form
  · exact hd.form
  · exact hd.form
  · exact hd.form
  · exact hd.form
  · exact hd.form
theorem GeoK.dim {k : Int} {ty : Nat} {D : (Nat → Prop) → World → Value → Raw → Prop} (h4 : ∀ {B : Nat → Prop} {W : World} {v : Value} {t : Raw}, D B W v t → dimR t < 4) {B : Nat → Prop} {W : World} {v : Value} {t : Raw} : GeoK k ty D B W v t → dimR t < 4 := fun ⟨_, _, _, _, _, _, hd⟩ => h4 hd
theorem DGeo.d4 {h : Nat} {B : Nat → Prop} {W : World} {v : Value} {t : Raw} (hd : DGeo h B W v t) : dimR t < 4 := by
  cases h with
  | zero => exact hd.elim
  | succ h =>
  rcases hd with hd | hd | hd | hd | hd | hd | hd
  · exact GeoK.dim (fun h => h.1.dim.1) hd
  · exact GeoK.dim DLine.d4 hd
  · exact GeoK.dim DNode.d4 hd
  · exact GeoK.dim DMpt.d4 hd
  · exact GeoK.dim DNode.d4 hd
  · exact GeoK.dim DNode.d4 hd
  · exact GeoK.dim DNode.d4 hd

set_option maxRecDepth 100000 in
set_option maxHeartbeats 400000 in
theorem MlCT (D : (Nat → Prop) → World → Value → Raw → Prop) : CC (DNode 5 D) 106 := by
  intro B W v t ⟨r, f, kids, p, c, ht, hr, hv, _⟩
  subst ht hv
  generalize kids.length = n
  go_enter Tryz.func106, Tryz.ntmps106
  go_wp2_with fail
  go_ret
  exact ⟨rfl, World.grownBy_alloc _ _ _⟩

set_option maxRecDepth 100000 in
set_option maxHeartbeats 400000 in
theorem MpCT (D : (Nat → Prop) → World → Value → Raw → Prop) : CC (DNode 6 D) 108 := by
  intro B W v t ⟨r, f, kids, p, c, ht, hr, hv, _⟩
  subst ht hv
  generalize kids.length = n
  go_enter Tryz.func108, Tryz.ntmps108
  go_wp2_with fail
  go_ret
  exact ⟨rfl, World.grownBy_alloc _ _ _⟩

set_option maxRecDepth 100000 in
set_option maxHeartbeats 400000 in
theorem GcCT (D : (Nat → Prop) → World → Value → Raw → Prop) : CC (DNode 0 D) 96 := by
  intro B W v t ⟨r, f, kids, p, c, ht, hr, hv, _⟩
  subst ht hv
  generalize kids.length = n
  go_enter Tryz.func96, Tryz.ntmps96
  go_wp2_with fail
  go_ret
  exact ⟨rfl, World.grownBy_alloc _ _ _⟩
theorem GeoCC : ∀ h : Nat, CC (DGeo h) 53
  | 0 => fun B W v t hd => hd.elim
  | h + 1 => fun B W v t hd => by
    rcases hd with hd | hd | hd | hd | hd | hd | hd
    · exact GeoCTPoint DPoint.dk DPoint.form6 PointCC B W v t hd
    · exact GeoCTLineString DLine.dk.toDK0 DLine.form2 LineCC B W v t hd
    · exact GeoCTPolygon DPg.dk.toDK0 DNode.form (PgCT DLine) B W v t hd
    · exact GeoCTMultiPoint DMpt.dk.toDK0 DMpt.form MptCC B W v t hd
    · exact GeoCTMultiLineString DMl.dk.toDK0 DNode.form (MlCT DLine) B W v t hd
    · exact GeoCTMultiPolygon DMp.dk.toDK0 DNode.form (MpCT DPg) B W v t hd
    · exact GeoCTGeometryCollection (DNode.dk (DGeo.dk h)).toDK0 DNode.form (GcCT (DGeo h)) B W v t hd
theorem GeoFC : ∀ h : Nat, FC (DGeo h) 150
  | 0 => fun B W v t r' hd => hd.elim
  | h + 1 => fun B W v t r' hd hok hr' hB => by
    rcases hd with hd | hd | hd | hd | hd | hd | hd
    · exact (GeoForcePoint DPoint.dk DPoint.form6 PointFC B W v t r' hd hok hr' hB).mono fun e w' ⟨v', he, hd', hg⟩ => ⟨v', he, (.inl hd'), hg⟩
    · exact (GeoForceLineString DLine.dk.toDK0 DLine.form2 LineFC B W v t r' hd hok hr' hB).mono fun e w' ⟨v', he, hd', hg⟩ => ⟨v', he, (.inr (.inl hd')), hg⟩
    · exact (GeoForcePolygon DPg.dk.toDK0 DNode.form PgFC B W v t r' hd hok hr' hB).mono fun e w' ⟨v', he, hd', hg⟩ => ⟨v', he, (.inr (.inr (.inl hd'))), hg⟩
    · exact (GeoForceMultiPoint DMpt.dk.toDK0 DMpt.form MptFC B W v t r' hd hok hr' hB).mono fun e w' ⟨v', he, hd', hg⟩ => ⟨v', he, (.inr (.inr (.inr (.inl hd')))), hg⟩
    · exact (GeoForceMultiLineString DMl.dk.toDK0 DNode.form MlFC B W v t r' hd hok hr' hB).mono fun e w' ⟨v', he, hd', hg⟩ => ⟨v', he, (.inr (.inr (.inr (.inr (.inl hd'))))), hg⟩
    · exact (GeoForceMultiPolygon DMp.dk.toDK0 DNode.form MpFC B W v t r' hd hok hr' hB).mono fun e w' ⟨v', he, hd', hg⟩ => ⟨v', he, (.inr (.inr (.inr (.inr (.inr (.inl hd')))))), hg⟩
    · exact (GeoForceGeometryCollection (DNode.dk (DGeo.dk h)).toDK0 DNode.form (GcForce_of (DGeo.dk h) DGeo.form (GeoFC h)) B W v t r' hd hok hr' hB).mono fun e w' ⟨v', he, hd', hg⟩ => ⟨v', he, (.inr (.inr (.inr (.inr (.inr (.inr hd')))))), hg⟩
/-- What the making of a geometry does, to the depth h. -/
def GBC (h : Nat) : Prop := ∀ (B : Nat → Prop) (W : World) (v : Value) (t : Raw), KD B h W v t → wt t ≤ 2000 → Calls Tryz.prog 52 #[v] W (MPost (DGeo h) W (newT t))
theorem news_get : ∀ (ts : List Raw) (i : Nat), (newTs ts)[i]? = ts[i]?.map newT
  | [], i => by simp [newTs]
  | t :: ts, 0 => by simp [newTs]
  | t :: ts, i + 1 => by simp only [newTs, List.getElem?_cons_succ]; exact news_get ts i
theorem news_len : ∀ (ts : List Raw), (newTs ts).length = ts.length
  | [] => rfl
  | t :: ts => by simp only [newTs, List.length_cons, news_len ts]
theorem keep0 (ts : List Raw) : ts.filter (keepT 0) = ts := List.filter_eq_self.2 fun t _ => by unfold keepT; simp [kidOf]
theorem infoGe : (Tryz.prog.info? 83).map (fun i => (i.zero, i.size, i.bytes)) = some (some (.agg #[.int .i64 0, .nilIface]), 2, 24) := by kernel_rfl

set_option maxRecDepth 100000 in
set_option maxHeartbeats 4000000 in
theorem geometries_of (h : Nat) (ih : GBC h) (B : Nat → Prop) (W : World) (q : Option Addr) (m c2 : Nat) (kids : List Raw) (hm : kids.length = m) (hwk : wts kids ≤ 2000) (hq : q = none → m = 0)
    (hk : ∀ a, q = some a → ∀ i t, kids[i]? = some t → ∃ c0 c1 c2 c3, KD B h W (.agg #[c0, c1, c2, c3]) t ∧ W.cell? (a.add (i * 4)) = some c0 ∧ W.cell? ⟨(a.add (i * 4)).block, (a.add (i * 4)).off + 1, none⟩ = some c1 ∧ W.cell? ⟨(a.add (i * 4)).block, (a.add (i * 4)).off + 2, none⟩ = some c2 ∧ W.cell? ⟨(a.add (i * 4)).block, (a.add (i * 4)).off + 3, none⟩ = some c3) :
    Calls Tryz.prog 135 #[.slice q m c2] W fun e w' => ∃ g, e = .returned (.slice (some ⟨g, 0, none⟩) m m) ∧ RowD (DGeo h) (Fr W w') w' (some ⟨g, 0, none⟩) (newTs kids) ∧ W.grownBy w' none := by
  have hml : m ≤ 2000 := by have := wts_len kids; omega
  obtain ⟨i0, hi, hzz⟩ := Option.map_eq_some_iff.1 infoGe
  simp only [Prod.mk.injEq] at hzz
  have HI := Lib.hid hzz
  have HKid : Hid (∀ w, W.grownBy w none → ∀ j, j < m → ∃ t a c0 c1 c2 c3, kids[j]? = some t ∧ q = some a ∧ KD B h w (.agg #[c0, c1, c2, c3]) t ∧ wt t ≤ 2000 ∧ w.cell? (a.add (j * 4)) = some c0 ∧ w.cell? ⟨(a.add (j * 4)).block, (a.add (j * 4)).off + 1, none⟩ = some c1 ∧ w.cell? ⟨(a.add (j * 4)).block, (a.add (j * 4)).off + 2, none⟩ = some c2 ∧ w.cell? ⟨(a.add (j * 4)).block, (a.add (j * 4)).off + 3, none⟩ = some c3) := fun w g j hj => by
    obtain ⟨a, rfl⟩ : ∃ a, q = some a := by
      cases q with
      | none => have := hq rfl; omega
      | some a => exact ⟨a, rfl⟩
    have hj' : kids[j]? = some (kids[j]'(by omega)) := List.getElem?_eq_getElem (by omega)
    obtain ⟨c0, c1, c2, c3, k0, k1, k2, k3, k4⟩ := hk a rfl j _ hj'
    exact ⟨_, a, c0, c1, c2, c3, hj', rfl, k0.mono g, by have := wts_mem kids j _ hj'; omega, g.cell k1 (by simp), g.cell k2 (by simp), g.cell k3 (by simp), g.cell k4 (by simp)⟩
  have HB1 : Hid (∀ w c0 c1 c2 c3 t, KD B h w (.agg #[c0, c1, c2, c3]) t → wt t ≤ 2000 → Calls Tryz.prog 52 #[.agg #[c0, c1, c2, c3]] w (MPost (DGeo h) w (newT t))) := fun w c0 c1 c2 c3 t h1 h2 => ih B w _ t h1 h2
  have K := DGeo.dk h
  have hput : Hid (∀ (wr w1 w2 : World) k cs t c0 c1, k < m → kids[k]? = some t → RowS (DGeo h) 83 W.heap.size (fun _ => False) wr (.slice (some ⟨W.heap.size, 0, none⟩) m m) m (fun i => if i < k then (newTs kids)[i]? else none) cs → wr.grownBy w1 none → w1.grownBy w2 none → DGeo h (Fr w1 w2) w2 (.agg #[c0, c1]) (newT t) →
      RowS (DGeo h) 83 W.heap.size (fun _ => False) ((w2.setCell ⟨W.heap.size, k * 2, none⟩ c0).setCell ⟨W.heap.size, k * 2 + 1, none⟩ c1) (.slice (some ⟨W.heap.size, 0, none⟩) m m) m (fun i => if i < k + 1 then (newTs kids)[i]? else none) ((cs.set (k * 2) c0).set (k * 2 + 1) c1)) := fun wr w1 w2 k cs t c0 c1 hk ht h g1 g2 hd => by
    have hlt : W.heap.size < wr.heap.size := (h.1.lt _ rfl).2
    have s1 := g1.size
    refine (RowS.put K (h.kept K (gt_trans g1 g2 (.inl rfl))) k hk (K.weak (fun b hb => ?_) hd)).sel (fun i t' hi => ?_)
    · exact ⟨.inr ⟨by have := hb.1; omega, hb.2⟩, fun e => by have := hb.1; omega⟩
    · show (if i = k then some (newT t) else if i < k then _ else none) = some t'
      have hi' : (if i < k + 1 then (newTs kids)[i]? else none) = some t' := hi
      by_cases hik : i = k
      · subst hik
        rw [if_pos (by omega), news_get, ht] at hi'
        rw [if_pos rfl]; exact hi'
      · rw [if_neg hik]
        by_cases hl : i < k
        · rw [if_pos (by omega)] at hi'; rw [if_pos hl]; exact hi'
        · rw [if_neg (by omega)] at hi'; cases hi'
  have hcell : Hid (∀ (w : World) k cs (s : Nat → Option Raw), k < m → RowS (DGeo h) 83 W.heap.size (fun _ => False) w (.slice (some ⟨W.heap.size, 0, none⟩) m m) m s cs → (∃ v, w.cell? ⟨W.heap.size, k * 2, none⟩ = some v) ∧ (∃ v, w.cell? ⟨W.heap.size, k * 2 + 1, none⟩ = some v) ∧ ∀ j, w.frozen? ⟨W.heap.size, j, none⟩ = false) := fun w k cs s hk h => by
    have hl : cs.length = m * 2 := h.1.1
    have key : ∀ o, o < 2 → ∃ v, w.cell? ⟨W.heap.size, k * 2 + o, none⟩ = some v := fun o h6 => by
      rw [h.1.cellAt _ (by omega)]
      exact ⟨_, List.getElem?_eq_getElem (by omega)⟩
    exact ⟨key 0 (by omega), key 1 (by omega), fun j => h.1.frozenAt j⟩
  have hfin : Hid (∀ (w : World) cs, W.grownBy w none → RowS (DGeo h) 83 W.heap.size (fun _ => False) w (.slice (some ⟨W.heap.size, 0, none⟩) m m) m (fun i => if i < m then (newTs kids)[i]? else none) cs → RowD (DGeo h) (Fr W w) w (some ⟨W.heap.size, 0, none⟩) (newTs kids)) := fun w cs g hrw => by
    have h1 : RowS (DGeo h) 83 W.heap.size (fun _ => False) w (.slice (some ⟨W.heap.size, 0, none⟩) m m) (newTs kids).length (fun i => (newTs kids)[i]?) cs := by
      rw [news_len, hm]
      exact hrw.sel fun i t hi => by
        have := (List.getElem?_eq_some_iff.1 hi).1
        rw [news_len, hm] at this
        show (if i < m then _ else none) = _
        rw [if_pos this]; exact hi
    exact h1.row K (by rw [news_len, hm]) (fun b hb => hb.elim) (fun b h1 h2 => ⟨h1, h2⟩)
  have hgs : ∀ (w : World) (b jj : Nat) (y : Value), W.heap.size ≤ b → W.grownBy w none → W.grownBy (w.setCell ⟨b, jj, none⟩ y) none := fun w b jj y hb g => gt_set_r g _ _ hb
  have HGs := Lib.hid hgs
  clear hk ih hzz hgs hq hwk
  go_enter Tryz.func135, Tryz.ntmps135
  go_wp2_with (first
    | (at_make; refine wpList_make_full _ rfl _ _ _ rfl W.heap.size 83 i0 (.agg #[.int .i64 0, .nilIface]) 2 Tryz.underlying121 hi HI.out.1 HI.out.2.1 .i64 .i64 _ _ m rfl rfl rfl rfl (by rw [HI.out.2.2]; omega) (by unfold maxLen; omega) (by simp) ?_; intro w1 hown hg1))
  obtain ⟨xs0, hxs0⟩ : ∃ xs0, xs0 = (madeCells (Value.cells (.agg #[.int .i64 0, .nilIface])) (m * 2)).toList := ⟨_, rfl⟩
  rw [← hxs0] at hown
  clear hxs0
  go_loopw [11] (fun i wr => ∃ (k : Nat) (cs : List Value), k ≤ m ∧ i = .int .i64 k ∧ W.grownBy wr none ∧ RowS (DGeo h) 83 W.heap.size (fun _ => False) wr (.slice (some ⟨W.heap.size, 0, none⟩) m m) m (fun i => if i < k then (newTs kids)[i]? else none) cs) (fun i _ => m - (intOf i).toNat)
  case atStart => exact ⟨0, xs0, by omega, rfl, hg1, hown, fun i t h => absurd h (by simp)⟩
  case round =>
    clear hown
    obtain ⟨k, cs, hk, rfl, Gr, hrow⟩ := hrel
    rename World => wr
    by_cases hkL : k < m
    · obtain ⟨t, a, c0, c1, c2, c3, hti, rfl, kk, hwt, q0, q1, q2, q3⟩ := HKid.out wr Gr k hkL
      have HMk := Lib.hid (fun w (g : wr.grownBy w none) => HB1.out w c0 c1 c2 c3 t (kk.mono g) hwt)
      have HP1 := Lib.hid (fun w1 w2 c0 c1 => hput.out wr w1 w2 k cs t c0 c1 hkL hti hrow)
      have HK1 : Hid (∀ w, wr.grownBy w none → (∃ v, w.cell? ⟨W.heap.size, k * 2, none⟩ = some v) ∧ (∃ v, w.cell? ⟨W.heap.size, k * 2 + 1, none⟩ = some v) ∧ ∀ j, w.frozen? ⟨W.heap.size, j, none⟩ = false) := fun w g => hcell.out w k cs _ hkL (hrow.kept K g)
      obtain ⟨e1, d1, n1, f1, kids1, p1, cap1, q1', cq1, rfl, rfl, rfl, rfl, rfl⟩ := kk.form4
      have HG5 := Lib.hid (World.grownBy_alloc wr (.cells #[.int .i64 e1, .int .i64 d1, .slice p1 n1 cap1, .slice q1' kids1.length cq1] 25) none)
      generalize newT (.mk e1 d1 n1 f1 kids1) = tn at HMk HP1
      clear hti kk hrow hwt
      generalize kids1.length = m1 at q3 HMk HG5
      go_wp2_with (first
        | (go_at_call 52; refine (HMk.out _ HG5.out).mono ?_; rintro e w2 ⟨v2, rfl, hd2, hg2⟩; obtain ⟨ek2, ety2, eb2, rfl⟩ := DGeo.form hd2; have HD2 := Lib.hid (HP1.out _ w2 _ _ HG5.out hg2 hd2); clear hd2; have G2 := gt_trans HG5.out hg2 (.inl rfl); obtain ⟨⟨v0, x0⟩, ⟨v1, x1⟩, xf⟩ := HK1.out _ G2; have f0 := xf (k * 2); have f1 := xf (k * 2 + 1)))
      refine ⟨⟨k + 1, _, by omega, by go_num, ?_, HD2.out⟩, by simp [intOf]; omega⟩
      exact HGs.out _ _ _ _ (Nat.le_refl _) (HGs.out _ _ _ _ (Nat.le_refl _) (gt_trans Gr G2 (.inl rfl)))
    · obtain rfl : k = m := by omega
      go_wp2_with fail
      go_wp2_with fail
      go_ret
      exact ⟨W.heap.size, rfl, hfin.out _ _ Gr hrow, Gr⟩

set_option maxRecDepth 100000 in
set_option maxHeartbeats 4000000 in
theorem collection_of (h : Nat) (ih : GBC h) (B : Nat → Prop) (W : World) (k d : Int) (p : Option Addr) (n cap : Nat) (q : Option Addr) (m c2 : Nat) (f : Nat → Nat) (kids : List Raw) (hm : kids.length = m)
    (hk : KD B (h + 1) W (.agg #[.int .i64 k, .int .i64 d, .slice p n cap, .slice q m c2]) (.mk k d n f kids)) (hwk : wts kids ≤ 2000) (hk1 : k < 1 ∨ 6 < k) :
    Calls Tryz.prog 93 #[.agg #[.int .i64 k, .int .i64 d, .slice p n cap, .slice q m c2]] W (MPost (DNode 0 (DGeo h)) W (newT (.mk k d n f kids))) := by
  obtain ⟨p', cap', q', c2', e0, hf, h1, h2, h3, hm1, hm2, hm3, hm4, _⟩ := hk
  obtain ⟨rfl, rfl, rfl, rfl⟩ : p = p' ∧ cap = cap' ∧ q = q' ∧ c2 = c2' := by simp [hm] at e0; exact ⟨e0.1.1, e0.1.2, e0.2.1, e0.2.2⟩
  obtain ⟨r, hr⟩ : ∃ r : Nat, d % 4 = r := ⟨(d % 4).toNat, by omega⟩
  have hrt : (d % 4).toNat = r := by rw [hr]; rfl
  have hr4 : r < 4 := by omega
  have hkn : kindN k = 0 := by unfold kindN; split <;> omega
  have hml : m ≤ 2000 := by have := wts_len kids; omega
  have en : newT (.mk k d n f kids) = nodeT 0 r f (newTs kids) := by
    rw [newT_node _ _ _ _ _ (by rw [hkn]; decide) (by rw [hkn]; decide), hrt, hkn]
    unfold Acc
    rw [List.take_length, keep0]
  rw [en]
  have HGs := Lib.hid (fun w (g : W.grownBy w none) => geometries_of h ih B w q m c2 kids hm hwk (fun hq => by have := hm3 hq; omega) (fun a ha i t hi => by
    obtain ⟨c0, c1, c2, c3, k0, k1, k2, k3, k4⟩ := hm4 a ha i t hi
    exact ⟨c0, c1, c2, c3, k0.mono g, g.cell k1 (by simp), g.cell k2 (by simp), g.cell k3 (by simp), g.cell k4 (by simp)⟩))
  have hoks : okTs (newTs kids) := okTs_of _ fun t ht => (news_okU kids hwk t ht).1.ok
  have K := DGeo.dk h
  have HNW := Lib.hid (fun (B : Nat → Prop) w p (hrow : RowD (DGeo h) B w p (newTs kids)) (hm0 : 0 < m) (hB : ∀ b, B b → b < w.heap.size) => GcNew_of K DGeo.form DGeo.d4 (GeoFC h) (GeoCC h) B w p m m (newTs kids) f hrow (by rw [news_len, hm]) hm0 hml hoks hB)
  have HF0 := Lib.hid (fun w => GcForce_of K DGeo.form (GeoFC h) (fun _ => False) w _ (.mk 0 ((0 : Nat) : Int) 0 f []) r ⟨0, f, [], none, 0, rfl, by omega, rfl, Nat.le_refl _, by decide, fun h => by simp at h, fun a ha => by cases ha⟩ (by unfold okT okTs; exact ⟨by omega, by simp, trivial⟩) hr4 (fun b hb => hb.elim))
  have HO := Lib.hid (fun w => dimOf_r d r hr w)
  have HG := Lib.hid (gt_alloc_r (World.grownBy_alloc W (.cells #[.int .i64 k, .int .i64 d, .slice p n cap, .slice q m c2] 25) none) (.cells #[.slice none 0 0, .int .u8 0] 123))
  obtain ⟨W0, hW0⟩ : ∃ W0, W0 = (W.alloc (.cells #[.int .i64 k, .int .i64 d, .slice p n cap, .slice q m c2] 25)).alloc (.cells #[.slice none 0 0, .int .u8 0] 123) := ⟨_, rfl⟩
  have HW0 := Lib.hid hW0
  have HC : Hid (∀ w, W0.grownBy w none → w.cell? ⟨W.heap.size + 1, 0, none⟩ = some (.slice none 0 0) ∧ w.cell? ⟨W.heap.size + 1, 1, none⟩ = some (.int .u8 0) ∧ w.frozen? ⟨W.heap.size + 1, 0, none⟩ = false ∧ w.frozen? ⟨W.heap.size + 1, 1, none⟩ = false) := fun w g => by
    rw [hW0] at g
    have hb := g.block (W.heap.size + 1) (by simp) (by simp)
    refine ⟨g.cell (by simp) (by simp), g.cell (by simp) (by simp), ?_, ?_⟩ <;> (rw [World.frozen?_of_block hb]; simp)
  have hs0 : W0.heap.size = W.heap.size + 2 := by rw [hW0]; simp
  rw [← hW0] at HG
  have hfin : Hid (∀ (w2 : World) (B1 : Nat → Prop) (v' : Value) (f1 : Nat → Nat) kk (r1 : Nat), W0.grownBy w2 none → (∀ b, B1 b → W.heap.size + 2 ≤ b ∧ b < w2.heap.size) → DNode 0 (DGeo h) B1 w2 v' (.mk 0 (r1 : Nat) 0 f1 kk) → (∃ f2, nodeT 0 r f (newTs kids) = .mk 0 (r1 : Nat) 0 f2 kk) → ∃ px nx cx rx, v' = .agg #[.slice px nx cx, .int .u8 rx] ∧ MPost (DNode 0 (DGeo h)) W (nodeT 0 r f (newTs kids)) (.returned (.agg #[.slice px nx cx, .int .u8 rx])) ((w2.setCell ⟨W.heap.size + 1, 0, none⟩ (.slice px nx cx)).setCell ⟨W.heap.size + 1, 1, none⟩ (.int .u8 rx))) := fun w2 B1 v' f1 kk r1 g nB hd ⟨f2, e2⟩ => by
    obtain ⟨px, nx, cx, rx, rfl⟩ := hd.form
    refine ⟨px, nx, cx, rx, rfl, _, rfl, ?_, gt_set_r (gt_set_r (gt_trans HG.out g (.inl rfl)) _ _ (by show W.heap.size ≤ W.heap.size + 1; omega)) _ _ (by show W.heap.size ≤ W.heap.size + 1; omega)⟩
    have h1 := (DNode.dk K).keep (.set (q := ⟨W.heap.size + 1, 1, none⟩) (fun hb => by have := (nB _ hb).1; simp at this) (.int .u8 rx)) ((DNode.dk K).keep (.set (q := ⟨W.heap.size + 1, 0, none⟩) (fun hb => by have := (nB _ hb).1; simp at this) (.slice px nx cx)) hd)
    have h2 := (DNode.dk K).weak (B' := Fr W ((w2.setCell ⟨W.heap.size + 1, 0, none⟩ (.slice px nx cx)).setCell ⟨W.heap.size + 1, 1, none⟩ (.int .u8 rx))) (fun b hb => ⟨by have := (nB _ hb).1; omega, by have := (nB _ hb).2; simpa [World.setCell] using this⟩) h1
    rw [e2]
    exact h2.anyf
  clear hm4 hm3 hf e0 hwk hrt hoks hkn hW0
  by_cases hm0 : m = 0
  · have hnil : newTs kids = [] := List.eq_nil_of_length_eq_zero (by rw [news_len]; omega)
    have HF1 : Hid (∀ w2 v', W0.grownBy w2 none → DNode 0 (DGeo h) (fun b => False ∨ Fr W0 w2 b) w2 v' (forceT r (.mk 0 ((0 : Nat) : Int) 0 f [])) → ∃ px nx cx rx, v' = .agg #[.slice px nx cx, .int .u8 rx] ∧ MPost (DNode 0 (DGeo h)) W (nodeT 0 r f (newTs kids)) (.returned (.agg #[.slice px nx cx, .int .u8 rx])) ((w2.setCell ⟨W.heap.size + 1, 0, none⟩ (.slice px nx cx)).setCell ⟨W.heap.size + 1, 1, none⟩ (.int .u8 rx))) := fun w2 v' g hd => by
      rw [force_node] at hd
      exact hfin.out w2 _ v' _ _ _ g (fun b hb => by rcases hb with hb | hb; exact hb.elim; exact ⟨by rw [← hs0]; exact hb.1, hb.2⟩) hd ⟨f, by unfold nodeT; rw [if_pos hnil]; rfl⟩
    have hb : ((m : Int) == 0) = true := by rw [hm0]; rfl
    clear hfin HNW HGs hm hm1 hnil en hm0
    go_enter Tryz.func93, Tryz.ntmps93
    go_wp2_with (first
      | (go_at_call 62; refine (HO.out _).mono ?_; rintro e w3 ⟨rfl, rfl⟩)
      | (go_at_call 133; rw [← HW0.out]; refine (HF0.out _).mono ?_; rintro e w2 ⟨v', rfl, hd, hg2⟩; obtain ⟨px, nx, cx, rx, rfl, hmp⟩ := HF1.out _ _ hg2 hd; have HMP := Lib.hid hmp; clear hmp hd; obtain ⟨x0, x1, f0, f1⟩ := HC.out _ hg2))
    refine bodyPost_ret (by simp [results, Tryz.results93, go_sem, x0, x1]; try rfl) rfl ?_
    exact HMP.out
  · have hne : newTs kids ≠ [] := fun e => by have := news_len kids; rw [e] at this; simp at this; omega
    have HF1 : Hid (∀ w1 w2 v', W0.grownBy w1 none → w1.grownBy w2 none → DNode 0 (DGeo h) (fun b => Fr W0 w1 b ∨ Fr w1 w2 b) w2 v' (nodeT 0 0 f (newTs kids)) → ∃ px nx cx rx, v' = .agg #[.slice px nx cx, .int .u8 rx] ∧ MPost (DNode 0 (DGeo h)) W (nodeT 0 r f (newTs kids)) (.returned (.agg #[.slice px nx cx, .int .u8 rx])) ((w2.setCell ⟨W.heap.size + 1, 0, none⟩ (.slice px nx cx)).setCell ⟨W.heap.size + 1, 1, none⟩ (.int .u8 rx))) := fun w1 w2 v' g1 g2 hd => by
      obtain ⟨f1, e1⟩ := node_one 0 0 f (newTs kids)
      obtain ⟨f2, e2⟩ := node_one 0 r f (newTs kids)
      rw [if_neg hne, if_neg hne] at e1 e2
      rw [e1] at hd
      have s1 := g1.size
      have s2 := g2.size
      exact hfin.out w2 _ v' _ _ _ (gt_trans g1 g2 (.inl rfl)) (fun b hb => by
        rcases hb with hb | hb
        · exact ⟨by rw [← hs0]; exact hb.1, Nat.lt_of_lt_of_le hb.2 s2⟩
        · exact ⟨by rw [← hs0]; exact Nat.le_trans s1 hb.1, hb.2⟩) hd ⟨f2, e2⟩
    have hb : ((m : Int) == 0) = false := by rw [beq_eq_false_iff_ne]; omega
    have hm0' : 0 < m := by omega
    clear hfin HF0 hm hm1 hne en hm0
    go_enter Tryz.func93, Tryz.ntmps93
    go_wp2_with (first
      | (go_at_call 135; rw [← HW0.out]; refine (HGs.out _ HG.out).mono ?_; rintro e w1 ⟨g, rfl, hrow, hg1⟩; have HRow := Lib.hid hrow; clear hrow)
      | (go_at_call 134; refine (HNW.out _ _ _ HRow.out hm0' (fun b hb => hb.2)).mono ?_; rintro e w2 ⟨v', rfl, hd, hg2⟩; obtain ⟨px, nx, cx, rx, rfl, hmp⟩ := HF1.out _ _ _ hg1 hg2 hd; have HMP := Lib.hid hmp; clear hmp hd; obtain ⟨x0, x1, f0, f1⟩ := HC.out _ (gt_trans hg1 hg2 (.inl rfl))))
    refine bodyPost_ret (by simp [results, Tryz.results93, go_sem, x0, x1]; try rfl) rfl ?_
    exact HMP.out
theorem GeoBC : ∀ h : Nat, GBC h
  | 0 => fun B W v t hk => hk.elim
  | h + 1 => fun B W v t hk hw => by
    have ih := GeoBC h
    obtain ⟨k, d, n, f, kids, p, cap, q, c2, rfl, rfl⟩ := hk.form
    by_cases h1 : k = 1
    · exact (GeoBuildPoint DPoint.dk DPoint.form6 PointBC (h + 1) B W k d p n cap q kids.length c2 f kids rfl hk hw h1).mono fun e w' ⟨v', he, hd', hg⟩ => ⟨v', he, (.inl hd'), hg⟩
    by_cases h2 : k = 2
    · exact (GeoBuildLineString DLine.dk.toDK0 DLine.form2 LineBC (h + 1) B W k d p n cap q kids.length c2 f kids rfl hk hw h2).mono fun e w' ⟨v', he, hd', hg⟩ => ⟨v', he, (.inr (.inl hd')), hg⟩
    by_cases h3 : k = 3
    · exact (GeoBuildPolygon DPg.dk.toDK0 DNode.form PgBC (h + 1) B W k d p n cap q kids.length c2 f kids rfl hk hw h3).mono fun e w' ⟨v', he, hd', hg⟩ => ⟨v', he, (.inr (.inr (.inl hd'))), hg⟩
    by_cases h4 : k = 4
    · exact (GeoBuildMultiPoint DMpt.dk.toDK0 DMpt.form MptBC (h + 1) B W k d p n cap q kids.length c2 f kids rfl hk hw h4).mono fun e w' ⟨v', he, hd', hg⟩ => ⟨v', he, (.inr (.inr (.inr (.inl hd')))), hg⟩
    by_cases h5 : k = 5
    · exact (GeoBuildMultiLineString DMl.dk.toDK0 DNode.form MlBC (h + 1) B W k d p n cap q kids.length c2 f kids rfl hk hw h5).mono fun e w' ⟨v', he, hd', hg⟩ => ⟨v', he, (.inr (.inr (.inr (.inr (.inl hd'))))), hg⟩
    by_cases h6 : k = 6
    · exact (GeoBuildMultiPolygon DMp.dk.toDK0 DNode.form MpBC (h + 1) B W k d p n cap q kids.length c2 f kids rfl hk hw h6).mono fun e w' ⟨v', he, hd', hg⟩ => ⟨v', he, (.inr (.inr (.inr (.inr (.inr (.inl hd')))))), hg⟩
    exact (GeoBuildGeometryCollection (DNode.dk (DGeo.dk h)).toDK0 DNode.form (h + 1) B (collection_of h ih B) W k d p n cap q kids.length c2 f kids rfl hk (by unfold wt at hw; omega) (by omega)).mono fun e w' ⟨v', he, hd', hg⟩ => ⟨v', he, (.inr (.inr (.inr (.inr (.inr (.inr hd')))))), hg⟩
/-- A collection whose parts are small together. -/
theorem GeoBC_coll (h : Nat) (B : Nat → Prop) (W : World) (k d : Int) (p : Option Addr) (n cap : Nat) (q : Option Addr) (m c2 : Nat) (f : Nat → Nat) (kids : List Raw) (hm : kids.length = m) (hk : KD B (h + 1) W (.agg #[.int .i64 k, .int .i64 d, .slice p n cap, .slice q m c2]) (.mk k d n f kids)) (hw : wts kids ≤ 2000) (hk1 : k < 1 ∨ 6 < k) :
    Calls Tryz.prog 52 #[.agg #[.int .i64 k, .int .i64 d, .slice p n cap, .slice q m c2]] W (MPost (DGeo (h + 1)) W (newT (.mk k d n f kids))) :=
  (GeoBuildGeometryCollection (DNode.dk (DGeo.dk h)).toDK0 DNode.form (h + 1) B (collection_of h (GeoBC h) B) W k d p n cap q m c2 f kids hm hk hw hk1).mono fun e w' ⟨v', he, hd', hg⟩ => ⟨v', he, (.inr (.inr (.inr (.inr (.inr (.inr hd')))))), hg⟩
theorem coll_ok (k d : Int) (n : Nat) (f : Nat → Nat) (kids : List Raw) (hw : wts kids ≤ 2000) (hk1 : k < 1 ∨ 6 < k) : okT (newT (.mk k d n f kids)) ∧ pl (newT (.mk k d n f kids)) ≤ 2001 := by
  have hkn : kindN k = 0 := by unfold kindN; split <;> omega
  have e : newT (.mk k d n f kids) = nodeT 0 (d % 4).toNat f (newTs kids) := by
    rw [newT_node _ _ _ _ _ (by rw [hkn]; decide) (by rw [hkn]; decide), hkn]
    unfold Acc
    rw [List.take_length, keep0]
  rw [e]
  have hp := pl_node 0 (d % 4).toNat f (newTs kids)
  have hp2 := pls_new kids
  refine ⟨?_, by omega⟩
  obtain ⟨f', e2⟩ := node_one 0 (d % 4).toNat f (newTs kids)
  rw [e2]
  have hn := news_okU kids hw
  have hl := wts_len kids
  by_cases hks : newTs kids = []
  · rw [if_pos hks, if_pos hks]
    unfold okT
    exact ⟨by omega, by simp, trivial⟩
  · rw [if_neg hks, if_neg hks]
    unfold okT
    exact ⟨by omega, by rw [forceTs_len, news_len]; omega, (okUs_of (D := dimsOf (newTs kids)) _ fun m hm => ⟨(hn m hm).1, widN_dims _ m hm (hn m hm).2⟩).ok⟩
end Go.Proofs.YthcjnadceambgaaGreatDoor
namespace Go.Proofs.YthcjnadceambgaaGreatDoor
open Go.RowKit

def SepC (c : UInt8) : Prop := c = 40 ∨ c = 44 ∨ c = 32
theorem wE_sep {c : UInt8} (h : SepC c) : wE c = EMPTY := if_pos h
noncomputable def itemT (T : Nat → Int) (b : Bool) (t : Raw) : List UInt8 := bif b then textT T t else bodyT T t
theorem itemT_len (T : Nat → Int) (b : Bool) (t : Raw) : (itemT T b t).length + 1 ≤ 16100 * pl t := by
  cases b
  · exact bodyT_len T t
  · exact textT_len T t
noncomputable def jS (T : Nat → Int) (b : Bool) (kids : List Raw) (k : Nat) : List UInt8 := joinC (bodyTs T b (kids.take k))
theorem jS_zero (T : Nat → Int) (b : Bool) (kids : List Raw) : jS T b kids 0 = [] := by
  unfold jS
  rw [List.take_zero]
  unfold bodyTs
  rfl
theorem jS_succ (T : Nat → Int) (b : Bool) (kids : List Raw) (k : Nat) (t : Raw) (h : kids[k]? = some t) : jS T b kids (k + 1) = jS T b kids k ++ (if 0 < k then [44] else []) ++ itemT T b t := by
  obtain ⟨hlt, rfl⟩ := List.getElem?_eq_some_iff.1 h
  unfold jS
  rw [List.take_succ_eq_append_getElem hlt, bodyTs_snoc, joinC_snoc, bodyTs_len, List.length_take, Nat.min_eq_left (by omega)]
  rfl
theorem pls_tk (kids : List Raw) (k : Nat) (t : Raw) (h : kids[k]? = some t) : pls (kids.take (k + 1)) = pls (kids.take k) + pl t := by
  have key : ∀ (a : List Raw) (t : Raw), pls (a ++ [t]) = pls a + pl t := by
    intro a t
    induction a with
    | nil => simp [pls]
    | cons s a ih => simp only [List.cons_append, pls, ih]; omega
  obtain ⟨hlt, rfl⟩ := List.getElem?_eq_some_iff.1 h
  rw [List.take_succ_eq_append_getElem hlt, key]
theorem pls_tk_le : ∀ (kids : List Raw) (k : Nat), pls (kids.take k) ≤ pls kids
  | [], k => by simp [pls]
  | t :: ts, 0 => by simp [pls]
  | t :: ts, k + 1 => by have := pls_tk_le ts k; simp only [List.take_succ_cons, pls]; omega
theorem jS_len (T : Nat → Int) (b : Bool) (kids : List Raw) (k : Nat) : (jS T b kids k).length ≤ 16100 * pls (kids.take k) := Nat.le_trans (joinC_len _) (bodyTs_sum T b _)
theorem pl_node0 (k : Int) (r : Nat) (f : Nat → Nat) (kids : List Raw) : pl (.mk k (r : Nat) 0 f kids) = 1 + pls kids := by unfold pl; simp
theorem plTs_zero (T : Nat → Int) (r : Nat) (f : Nat → Nat) : plTs T r f (0 / widN r) = [] := by simp [plTs]
theorem node_body0 (T : Nat → Int) (k : Int) (r : Nat) (f : Nat → Nat) : bodyT T (.mk k (r : Nat) 0 f []) = EMPTY := by
  unfold bodyT
  rw [Int.toNat_natCast, plTs_zero]
  unfold bodyTs wrapP
  rfl
theorem node_body (T : Nat → Int) (k : Int) (r : Nat) (f : Nat → Nat) (kids : List Raw) (h : 0 < kids.length) : bodyT T (.mk k (r : Nat) 0 f kids) = [40] ++ jS T (decide (k = 0)) kids kids.length ++ [41] := by
  unfold bodyT
  rw [Int.toNat_natCast, plTs_zero, List.nil_append]
  unfold wrapP jS
  rw [if_neg (fun e => by have := bodyTs_len T (decide (k = 0)) kids; rw [e] at this; simp at this; omega), List.take_length]
theorem node_text0 (T : Nat → Int) (k : Int) (r : Nat) (f : Nat → Nat) : textT T (.mk k (r : Nat) 0 f []) = nameT k ++ tag r ++ (if r = 0 then 32 :: EMPTY else EMPTY) := by
  unfold textT
  rw [Int.toNat_natCast, plTs_zero, List.nil_append]
  have e : bodyTs T (decide (k = 0)) [] = [] := by unfold bodyTs; rfl
  rw [e, if_pos rfl]
  by_cases h : r = 0
  · subst h
    rw [if_pos rfl, if_pos rfl]
    simp [wrapP, tag]
  · rw [if_neg h, if_neg h]; simp [wrapP]
theorem node_text (T : Nat → Int) (k : Int) (r : Nat) (f : Nat → Nat) (kids : List Raw) (h : 0 < kids.length) : textT T (.mk k (r : Nat) 0 f kids) = nameT k ++ tag r ++ ([40] ++ jS T (decide (k = 0)) kids kids.length ++ [41]) := by
  unfold textT
  rw [Int.toNat_natCast, plTs_zero, List.nil_append]
  have hne : ¬ bodyTs T (decide (k = 0)) kids = [] := fun e => by have := bodyTs_len T (decide (k = 0)) kids; rw [e] at this; simp at this; omega
  unfold wrapP jS
  rw [if_neg hne, if_neg hne, List.take_length]
  by_cases h : r = 0
  · subst h; rw [if_pos rfl]; rfl
  · rw [if_neg h]

/-- Where the text may lie: the tables below it, and their facts. -/
structure Bsd (T : Nat → Int) (base : Nat) (W : World) : Prop where
  ht : Tabs T W
  g3 : 3 < base
  g2 : 2 < base
  le : base ≤ W.heap.size
theorem Bsd.mono {T : Nat → Int} {base : Nat} {W W' : World} {r : Option Nat} (h : Bsd T base W) (g : W.grownBy W' r) (hr : ∀ b, r = some b → base ≤ b) : Bsd T base W' :=
  ⟨h.ht.mono g (fun e => by have := hr _ e; have := h.g3; omega) (fun e => by have := hr _ e; have := h.g2; omega), h.g3, h.g2, Nat.le_trans h.le g.size⟩
/-- A function that appends the text of a value behind a text that ends in a bracket, a comma or a blank. -/
def IC (D : (Nat → Prop) → World → Value → Raw → Prop) (f : Nat) (T : Nat → Int) (item : Raw → List UInt8) : Prop := ∀ (B : Nat → Prop) (W : World) (v : Value) (t : Raw) (l' : List UInt8) (c : UInt8) (base : Nat) (vv : Value), D B W v t → okT t → SepC c → W.ownsRow base 5 1 vv (l' ++ [c]).length (Bs (l' ++ [c])) → Bsd T base W → (l' ++ [c]).length + 16100 * pl t ≤ 35000000000000 → (∀ b, B b → b < base) → Calls Tryz.prog f #[v, vv] W (AppEnd 5 base W vv (l' ++ [c] ++ item t))
/-- What stands behind a text that ends in c: the body, or EMPTY, with a blank ahead of it where c asks one. -/
noncomputable def bodyC (T : Nat → Int) (c : UInt8) : Raw → List UInt8
  | .mk k d n f kids => if plTs T d.toNat f (n / widN d.toNat) ++ bodyTs T (decide (k = 0)) kids = [] then wE c else wrapP (plTs T d.toNat f (n / widN d.toNat) ++ bodyTs T (decide (k = 0)) kids)
theorem bodyC_eq (T : Nat → Int) (c : UInt8) (k d : Int) (n : Nat) (f : Nat → Nat) (kids : List Raw) : bodyC T c (.mk k d n f kids) = if plTs T d.toNat f (n / widN d.toNat) ++ bodyTs T (decide (k = 0)) kids = [] then wE c else wrapP (plTs T d.toNat f (n / widN d.toNat) ++ bodyTs T (decide (k = 0)) kids) := rfl
theorem bodyC_sep {T : Nat → Int} {c : UInt8} (h : SepC c) (t : Raw) : bodyC T c t = bodyT T t := by
  obtain ⟨k, d, n, f, kids⟩ := t
  rw [bodyC_eq]
  unfold bodyT
  split
  · next e => rw [e, wE_sep h]; rfl
  · rfl
theorem text_bodyC (T : Nat → Int) (c0 : UInt8) (h0 : wE c0 = 32 :: EMPTY) (k : Int) (r n : Nat) (f : Nat → Nat) (kids : List Raw) : textT T (.mk k (r : Nat) n f kids) = nameT k ++ tag r ++ bodyC T (if r = 0 then c0 else 32) (.mk k (r : Nat) n f kids) := by
  rw [bodyC_eq]
  unfold textT
  rw [Int.toNat_natCast]
  generalize plTs T r f (n / widN r) ++ bodyTs T (decide (k = 0)) kids = ps
  by_cases hr : r = 0
  · subst hr
    rw [if_pos rfl, if_pos rfl]
    by_cases hp : ps = []
    · rw [if_pos hp, if_pos hp, h0, hp]; simp [wrapP, tag]
    · rw [if_neg hp, if_neg hp]; simp [tag]
  · rw [if_neg hr, if_neg hr]
    by_cases hp : ps = []
    · have h32 : wE 32 = EMPTY := by decide
      rw [if_pos hp, h32, hp]; rfl
    · rw [if_neg hp]
theorem bodyC_len (T : Nat → Int) (c : UInt8) (t : Raw) : (bodyC T c t).length ≤ 16100 * pl t := by
  have h1 := bodyT_len T t
  have h2 := wE_len c
  have h3 : 1 ≤ pl t := by omega
  obtain ⟨k, d, n, f, kids⟩ := t
  unfold bodyT at h1
  rw [bodyC_eq]
  split <;> omega
/-- A function that appends the body of a value behind any text that is not empty. -/
def JC (D : (Nat → Prop) → World → Value → Raw → Prop) (f : Nat) (T : Nat → Int) : Prop := ∀ (B : Nat → Prop) (W : World) (v : Value) (t : Raw) (l' : List UInt8) (c : UInt8) (base : Nat) (vv : Value), D B W v t → okT t → W.ownsRow base 5 1 vv (l' ++ [c]).length (Bs (l' ++ [c])) → Bsd T base W → (l' ++ [c]).length + 16100 * pl t ≤ 35000000000100 → (∀ b, B b → b < base) → Calls Tryz.prog f #[v, vv] W (AppEnd 5 base W vv (l' ++ [c] ++ bodyC T c t))
theorem JC.ic {D : (Nat → Prop) → World → Value → Raw → Prop} {f : Nat} {T : Nat → Int} (h : JC D f T) : IC D f T (itemT T false) := fun B W v t l' c base vv hd hok hc hown hb hl hB => by
  have := h B W v t l' c base vv hd hok hown hb (by omega) hB
  rw [bodyC_sep hc] at this
  exact this
/-- A function that appends the whole text of a value. -/
def AC (D : (Nat → Prop) → World → Value → Raw → Prop) (f : Nat) (T : Nat → Int) : Prop := ∀ (B : Nat → Prop) (W : World) (v : Value) (t : Raw) (l : List UInt8) (base : Nat) (vv : Value), D B W v t → okT t → W.ownsRow base 5 1 vv l.length (Bs l) → Bsd T base W → l.length + 16100 * pl t ≤ 35000000000000 → (∀ b, B b → b < base) → Calls Tryz.prog f #[v, vv] W (AppEnd 5 base W vv (l ++ textT T t))
theorem AC.ic {D : (Nat → Prop) → World → Value → Raw → Prop} {f : Nat} {T : Nat → Int} (h : AC D f T) : IC D f T (itemT T true) := fun B W v t l' c base vv hd hok _ hown hb hl hB => h B W v t (l' ++ [c]) base vv hd hok hown hb hl hB

theorem line_body (T : Nat → Int) (c : UInt8) (r n : Nat) (f : Nat → Nat) : lineB T c r n f = bodyC T c (.mk 2 (r : Nat) n f []) := by
  rw [bodyC_eq]
  unfold lineB
  rw [Int.toNat_natCast]
  generalize n / widN r = L
  have e0 : bodyTs T (decide ((2 : Int) = 0)) [] = [] := by unfold bodyTs; rfl
  rw [e0, List.append_nil]
  by_cases hL : L = 0
  · subst hL
    rw [if_pos rfl, if_pos (by simp [plTs])]
  · have hne : ¬ plTs T r f L = [] := fun h => hL (by have := plTs_len T r f L; rw [h] at this; exact this.symm)
    rw [if_neg hL, if_neg hne]
    unfold wrapP
    rw [if_neg hne]
    have ej : joinC (plTs T r f L) = wSeq T false r f L := by
      unfold joinC wSeq
      rw [plTs_len]
      refine cTo_congr fun i hi => ?_
      simp [plTs, hi, List.getD_eq_getElem?_getD, par]
    rw [ej]
set_option maxRecDepth 100000 in
set_option maxHeartbeats 1000000 in
theorem LineBody_none (r n : Nat) (p : Option Addr) (hr : r < 4) (hn : n ≤ 2000) (hL : n / widN r = 0) (l' : List UInt8) (c : UInt8)
    (base : Nat) (v : Value) (l : List UInt8) (hl' : l = l' ++ [c]) (W : World) (hown : W.ownsRow base 5 1 v l.length (Bs l)) (hbase : base ≤ W.heap.size) (hl : l.length ≤ 35000000000000) :
    Calls Tryz.prog 117 #[.agg #[.int .u8 r, .slice p n n], v] W (AppEnd 5 base W v (l ++ wE c)) := by
  have HG := Lib.hid (World.grownBy_alloc W (.cells #[.int .u8 r, .slice p n n] 45) none)
  have HO := Lib.hid hown
  have HC : Hid (∀ W', (W.alloc (.cells #[.int .u8 r, .slice p n n] 45)).grownBy W' none → W'.cell? ⟨W.heap.size, 0, none⟩ = some (.int .u8 r) ∧ W'.cell? ⟨W.heap.size, 1, none⟩ = some (.slice p n n)) := fun W' g => ⟨g.cell (by simp) (by simp), g.cell (by simp) (by simp)⟩
  have HIE := Lib.hid (fun w => LineIsEmpty_any r n hr p hn w)
  have HE := Lib.hid (fun w (h : w.ownsRow base 5 1 v l.length (Bs l)) (hb : base ≤ w.heap.size) => appendWKTEmpty_any l' c base v l hl' w h hb hl)
  have hfin : Hid (∀ s W1 W' v', W.grownBy W1 none → AppB 5 base W1 v W' v' s → AppEnd 5 base W v s (.returned v') W') := fun s W1 W' v' g h => ⟨v', rfl, AppB.later HO.out g h⟩
  have HB : Hid (∀ w, W.grownBy w none → base ≤ w.heap.size) := fun w g => Nat.le_trans hbase g.size
  have hb : (((n / widN r : Nat) : Int) == 0) = true := by rw [hL]; rfl
  rw [hb] at HIE
  clear hb hL hown
  go_enter Tryz.func117, Tryz.ntmps117
  go_wp2_with (first
    | (go_at_call 142; refine (HIE.out _).mono ?_; rintro e w' ⟨rfl, hg⟩; have G := gt_trans HG.out hg (.inl rfl); obtain ⟨k0, k1⟩ := HC.out _ hg)
    | (go_at_call 120; refine (HE.out _ (own_later HO.out G) (HB.out _ G)).mono ?_; rintro e w2 ⟨v', rfl, H⟩))
  go_ret
  exact hfin.out _ _ _ _ G H
theorem LineJC (T : Nat → Int) (hT : ∀ i, U64 (T i)) : JC DLine 117 T := by
  intro B W v t l' c base vv ⟨r, n, f, p, ht, hr, hm, hv, hf, hb⟩ hok hown hbs hl hB
  subst ht hv
  have hn : n ≤ 2000 := by unfold okT at hok; exact hok.1
  have hpl := bodyT_len T (.mk 2 (r : Nat) n f [])
  rw [← line_body T c]
  by_cases hL : n / widN r = 0
  · have e : lineB T c r n f = wE c := by unfold lineB; rw [if_pos hL]
    rw [e]
    exact LineBody_none r n p hr hn hL l' c base vv _ rfl W hown hbs.le (by omega)
  · have hn0 : 0 < n := by
      rcases Nat.eq_zero_or_pos n with h | h
      · rw [h] at hL; simp at hL
      · exact h
    obtain ⟨a, rfl⟩ := hf.some_ hn0
    exact LineBody_any T hT r n a f hr hn l' c base vv _ rfl W hf (hB _ (hb a rfl)) hown hbs.le (by omega) hbs.ht hbs.g3 hbs.g2
theorem LineIC (T : Nat → Int) (hT : ∀ i, U64 (T i)) : IC DLine 117 T (itemT T false) := (LineJC T hT).ic
end Go.Proofs.YthcjnadceambgaaGreatDoor
namespace Go.Proofs.YthcjnadceambgaaGreatDoor
open Go.RowKit

set_option maxRecDepth 100000 in
set_option maxHeartbeats 2000000 in
theorem appendGeoJSONSequence_p (T : Nat → Int) (hT : ∀ i, U64 (T i)) (r n : Nat) (p : Option Addr) (f : Nat → Nat) (hr : r < 4) (hn : n ≤ 2000)
    (base : Nat) (v : Value) (l : List UInt8) (W : World) (hf : FVal W p n f) (hab : ∀ a, p = some a → v.ownBlock ≠ some a.block) (hown : W.ownsRow base 5 1 v l.length (Bs l)) (hbase : base ≤ W.heap.size) (hl : l.length ≤ 35000000000000) (ht : Tabs T W) (hg3 : 3 < base) (hg2 : 2 < base) :
    Calls Tryz.prog 74 #[v, .agg #[.int .u8 r, .slice p n n]] W (AppEnd 5 base W v (l ++ [91] ++ seqTo T r f (n / widN r) ++ [93])) := by
  have HG := Lib.hid (World.grownBy_alloc W (.cells #[.int .u8 r, .slice p n n] 43) none)
  have HO := Lib.hid hown
  have H := AppB.start (hown.alloc (.cells #[.int .u8 r, .slice p n n] 43))
  have HT := Lib.hid (ht.mono HG.out (by simp) (by simp))
  have hlt := hown.lt
  have hn3 : v.ownBlock ≠ some 3 := fun e => by have := hlt _ e; omega
  have hn2 : v.ownBlock ≠ some 2 := fun e => by have := hlt _ e; omega
  have hnb : v.ownBlock ≠ some W.heap.size := fun e => by have := hlt _ e; omega
  have hna : ∀ a', p = some a' → v.ownBlock ≠ some a'.block := fun a' ha => hab a' ha
  have hbase0 : base ≤ (W.alloc (.cells #[.int .u8 r, .slice p n n] 43)).heap.size := by simp; omega
  have HC : Hid (∀ W' v' l', AppB 5 base (W.alloc (.cells #[.int .u8 r, .slice p n n] 43)) v W' v' l' → W'.cell? ⟨W.heap.size, 0, none⟩ = some (.int .u8 r) ∧ W'.cell? ⟨W.heap.size, 1, none⟩ = some (.slice p n n)) := by
    intro W' v' l' h
    refine ⟨?_, ?_⟩ <;> (rw [h.cell (by simp) hnb]; simp)
  have HF : Hid (∀ W' v' l', AppB 5 base (W.alloc (.cells #[.int .u8 r, .slice p n n] 43)) v W' v' l' → FVal W' p n f) := fun W' v' l' h => (hf.mono HG.out).kept h.grown hna
  have hw2 : 2 ≤ widN r ∧ widN r ≤ 4 := by unfold widN; omega
  obtain ⟨L, hL⟩ : ∃ L : Nat, L = n / widN r := ⟨_, rfl⟩
  have hLb : L ≤ 2000 := by rw [hL]; exact Nat.le_trans (Nat.div_le_self _ _) hn
  have HLen := Lib.hid (fun W' => Length_any r n hr p n hn W')
  have HGet : Hid (∀ (i : Nat) (hi : i < L) W' (h : FVal W' p n f), Calls Tryz.prog 72 #[.agg #[.int .u8 r, .slice p n n], .int .i64 i] W' fun e w' => e = .returned (.agg #[.float .f64 (plX r f i), .float .f64 (plY r f i), .float .f64 (plZ r f i), .float .f64 (plM r f i), .int .u8 r]) ∧ W'.grownBy w' none) := fun i hi W' h => by
    have h1 : (i + 1) * widN r ≤ n := by rw [hL] at hi; exact Nat.le_trans (Nat.mul_le_mul_right _ hi) (Nat.div_mul_le_self n (widN r))
    rw [Nat.succ_mul] at h1
    obtain ⟨a, rfl⟩ := h.some_ (by omega)
    exact Get_any r n i a f hr hn h1 W' h
  have HCo := Lib.hid (fun (i : Nat) => appendGeoJSONCoordinate_any T hT (plX r f i) (plY r f i) (plZ r f i) (plM r f i) r (hf.lt _) (hf.lt _) (by unfold plZ; split; exact hf.lt _; omega) (by omega) (by omega) base)
  have HSL := Lib.hid (fun k (hk : k ≤ L) => (seqTo_len T r f k))
  have HJL := Lib.hid (fun k => jsonPl_len T (plX r f k) (plY r f k) (plZ r f k) r)
  rw [← hL] at HLen ⊢
  have hfin : Hid (∀ W' v', AppB 5 base (W.alloc (.cells #[.int .u8 r, .slice p n n] 43)) v W' v' (l ++ [91] ++ seqTo T r f L ++ [93]) → AppEnd 5 base W v (l ++ [91] ++ seqTo T r f L ++ [93]) (.returned v') W') :=
    fun W' v' h => ⟨v', rfl, AppB.later HO.out HG.out h⟩
  obtain ⟨S, hS⟩ : ∃ S : Nat → List UInt8, S = seqTo T r f := ⟨_, rfl⟩
  rw [← hS] at HSL hfin ⊢
  have HSQ : Hid (∀ k, S (k + 1) = S k ++ (if 0 < k then [44] else []) ++ jsonPl T (plX r f k) (plY r f k) (plZ r f k) r) := by rw [hS]; exact fun k => rfl
  have hS0 : S 0 = [] := by rw [hS]; rfl
  clear hS hL hf hown ht hlt hnb hna hw2
  go_enter Tryz.func74, Tryz.ntmps74
  go_wp2_with (first
    | (at_builtin; refine app_byte rfl _ _ _ rfl Tryz.underlying33 infoB H rfl _ 91 rfl rfl (by first | rfl | simp) hbase0 (by (try simp only [List.length_append, List.length_cons, List.length_nil]); omega) ?_; intro v1 w1 H1; clear H; have H := H1; clear H1; obtain ⟨k0, k1⟩ := HC.out _ _ _ H)
    | (go_at_call 69; refine (HLen.out _).mono ?_; rintro e w' ⟨rfl, hgl⟩; have H1 := H.beside hgl; clear H; have H := H1; clear H1 hgl))
  go_loopw [0, 6] (fun x i wr => ∃ k : Nat, k ≤ L ∧ i = .int .i64 k ∧ AppB 5 base (W.alloc (.cells #[.int .u8 r, .slice p n n] 43)) v wr x (l ++ [91] ++ S k)) (fun _ i _ => L - (intOf i).toNat)
  case atStart => exact ⟨0, by omega, rfl, by rw [hS0, List.append_nil]; exact H⟩
  case round =>
    clear H
    obtain ⟨k, hk, rfl, H⟩ := hrel
    rename World => wr
    have hsl := HSL.out k hk
    have hsl2 : (S k).length ≤ 24022000 := by omega
    clear hsl
    obtain ⟨k0, k1⟩ := HC.out _ _ _ H
    by_cases hkL : k < L
    · by_cases hk0 : 0 < k
      · have e : S (k + 1) = S k ++ [44] ++ jsonPl T (plX r f k) (plY r f k) (plZ r f k) r := by rw [HSQ.out k, if_pos hk0]
        go_wp2_with (first
          | (at_builtin; refine app_byte rfl _ _ _ rfl Tryz.underlying33 infoB H rfl _ 44 rfl rfl (by first | rfl | simp) hbase0 (by (try simp only [List.length_append, List.length_cons, List.length_nil]); omega) ?_; intro v1 w1 H1; clear H; have H := H1; clear H1; clear k0 k1; obtain ⟨k0, k1⟩ := HC.out _ _ _ H)
          | (go_at_call 72; refine (HGet.out k hkL _ (HF.out _ _ _ H)).mono ?_; rintro e w' ⟨rfl, hgl⟩; have H1 := H.beside hgl; clear H; have H := H1; clear H1 hgl)
          | (go_at_call 73; refine (HCo.out k _ _ _ H.own (H.based hbase0) (by (try simp only [List.length_append, List.length_cons, List.length_nil]); omega) (HT.out.mono H.grown hn3 hn2) hg3 hg2).mono ?_; rintro e w' ⟨v', rfl, H'⟩; have H1 := H.trans H'; clear H H'; have H := H1; clear H1))
        exact ⟨⟨k + 1, by omega, by go_num, by rw [e]; simpa only [List.append_assoc] using H⟩, by simp [intOf]; omega⟩
      · obtain rfl : k = 0 := by omega
        have e : S 1 = S 0 ++ [] ++ jsonPl T (plX r f 0) (plY r f 0) (plZ r f 0) r := by rw [HSQ.out 0, if_neg (by omega)]
        go_wp2_with (first
          | (go_at_call 72; refine (HGet.out 0 hkL _ (HF.out _ _ _ H)).mono ?_; rintro e w' ⟨rfl, hgl⟩; have H1 := H.beside hgl; clear H; have H := H1; clear H1 hgl)
          | (go_at_call 73; refine (HCo.out 0 _ _ _ H.own (H.based hbase0) (by (try simp only [List.length_append, List.length_cons, List.length_nil]); omega) (HT.out.mono H.grown hn3 hn2) hg3 hg2).mono ?_; rintro e w' ⟨v', rfl, H'⟩; have H1 := H.trans H'; clear H H'; have H := H1; clear H1))
        exact ⟨⟨1, by omega, by go_num, by rw [e]; simpa only [List.append_assoc, List.append_nil] using H⟩, by simp [intOf]; omega⟩
    · obtain rfl : k = L := by omega
      go_wp2_with (first
        | (at_builtin; refine app_byte rfl _ _ _ rfl Tryz.underlying33 infoB H rfl _ 93 rfl rfl (by first | rfl | simp) hbase0 (by (try simp only [List.length_append, List.length_cons, List.length_nil]); omega) ?_; intro v1 w1 H1; clear H; have H := H1; clear H1))
      go_ret
      exact hfin.out w1 v1 (by simpa only [List.append_assoc] using H)


/-! The texts. -/
noncomputable def plJs (T : Nat → Int) (r : Nat) (f : Nat → Nat) (n : Nat) : List (List UInt8) := (List.range n).map fun i => jsonPl T (plX r f i) (plY r f i) (plZ r f i) r
/-- A point that has no place. -/
def noPt : Raw → Bool
  | .mk k _ n _ _ => decide (k = 1) && decide (n = 0)
mutual
/-- The coordinates in GeoJSON. -/
noncomputable def jbT (T : Nat → Int) : Raw → List UInt8
  | .mk k d n f kids => if k = 1 then (if n / widN d.toNat = 0 then [91, 93] else jsonPl T (plX d.toNat f 0) (plY d.toNat f 0) (plZ d.toNat f 0) d.toNat) else [91] ++ joinC (plJs T d.toNat f (n / widN d.toNat) ++ jbTs T kids) ++ [93]
noncomputable def jbTs (T : Nat → Int) : List Raw → List (List UInt8)
  | [] => []
  | t :: ts => bif noPt t then jbTs T ts else jbT T t :: jbTs T ts
end
theorem jbTs_append (T : Nat → Int) : ∀ (a b : List Raw), jbTs T (a ++ b) = jbTs T a ++ jbTs T b
  | [], b => by unfold jbTs; simp [jbTs]
  | t :: a, b => by
    simp only [List.cons_append, jbTs, jbTs_append T a b]
    cases noPt t <;> rfl
theorem plJs_len (T : Nat → Int) (r : Nat) (f : Nat → Nat) (n : Nat) : (plJs T r f n).length = n := by simp [plJs]
theorem plJs_sum (T : Nat → Int) (r : Nat) (f : Nat → Nat) : ∀ n, lensum (plJs T r f n) ≤ n * 12011
  | 0 => by simp [plJs, lensum]
  | n + 1 => by
    have h := plJs_sum T r f n
    have h2 := jsonPl_len T (plX r f n) (plY r f n) (plZ r f n) r
    have e : plJs T r f (n + 1) = plJs T r f n ++ [jsonPl T (plX r f n) (plY r f n) (plZ r f n) r] := by simp [plJs, List.range_succ]
    rw [e, lensum_append]
    simp only [lensum]
    omega
mutual
theorem jbT_len (T : Nat → Int) : ∀ t : Raw, (jbT T t).length + 1 ≤ 12100 * pl t
  | .mk k d n f kids => by
    have h2 := plJs_sum T d.toNat f (n / widN d.toNat)
    have h3 := jbTs_sum T kids
    have h1 := joinC_len (plJs T d.toNat f (n / widN d.toNat) ++ jbTs T kids)
    have h4 := jsonPl_len T (plX d.toNat f 0) (plY d.toNat f 0) (plZ d.toNat f 0) d.toNat
    rw [lensum_append] at h1
    unfold jbT pl
    generalize n / widN d.toNat = L at h1 h2 ⊢
    split
    · split
      · simp; omega
      · omega
    · simp only [List.length_append, List.length_cons, List.length_nil]; omega
theorem jbTs_sum (T : Nat → Int) : ∀ ts : List Raw, lensum (jbTs T ts) ≤ 12100 * pls ts
  | [] => by simp [jbTs, lensum]
  | t :: ts => by
    have h1 := jbT_len T t
    have h3 := jbTs_sum T ts
    unfold jbTs pls
    cases noPt t
    · simp only [cond_false, lensum]; omega
    · simp only [cond_true]; omega
end
/-- The texts of the first k parts, with commas between them. -/
noncomputable def jJ (T : Nat → Int) (kids : List Raw) (k : Nat) : List UInt8 := joinC (jbTs T (kids.take k))
theorem jJ_zero (T : Nat → Int) (kids : List Raw) : jJ T kids 0 = [] := by unfold jJ; rw [List.take_zero]; unfold jbTs; rfl
theorem jJ_len (T : Nat → Int) (kids : List Raw) (k : Nat) : (jJ T kids k).length ≤ 12100 * pls (kids.take k) := Nat.le_trans (joinC_len _) (jbTs_sum T _)
theorem jJ_succ (T : Nat → Int) (kids : List Raw) (k : Nat) (t : Raw) (h : kids[k]? = some t) (hn : ∀ s ∈ kids, noPt s = false) : jJ T kids (k + 1) = jJ T kids k ++ (if 0 < k then [44] else []) ++ jbT T t := by
  obtain ⟨hlt, rfl⟩ := List.getElem?_eq_some_iff.1 h
  have hl : ∀ ts : List Raw, (∀ s ∈ ts, noPt s = false) → (jbTs T ts).length = ts.length := by
    intro ts
    induction ts with
    | nil => intro _; unfold jbTs; rfl
    | cons s ts ih =>
      intro hs
      unfold jbTs
      rw [hs s List.mem_cons_self]
      simp only [cond_false, List.length_cons, ih fun u hu => hs u (List.mem_cons_of_mem _ hu)]
  have e1 : jbTs T [kids[k]] = [jbT T kids[k]] := by
    unfold jbTs jbTs
    rw [hn _ (List.getElem_mem hlt)]
    rfl
  unfold jJ
  rw [List.take_succ_eq_append_getElem hlt, jbTs_append, e1, joinC_snoc, hl _ (fun s hs => hn s (List.mem_of_mem_take hs)), List.length_take, Nat.min_eq_left (by omega)]
theorem noPt_ne {k : Int} {d : Int} {n : Nat} {f : Nat → Nat} {kids : List Raw} (h : k ≠ 1) : noPt (.mk k d n f kids) = false := by unfold noPt; simp [h]
theorem line_jb (T : Nat → Int) (r n : Nat) (f : Nat → Nat) : jbT T (.mk 2 (r : Nat) n f []) = [91] ++ seqTo T r f (n / widN r) ++ [93] := by
  unfold jbT
  rw [Int.toNat_natCast, if_neg (by decide)]
  have e : jbTs T [] = [] := by unfold jbTs; rfl
  have hc : ∀ k, seqTo T r f k = cTo (fun i => jsonPl T (plX r f i) (plY r f i) (plZ r f i) r) k := fun k => by
    induction k with
    | zero => rfl
    | succ k ih => unfold seqTo cTo; rw [ih]
  rw [e, List.append_nil, hc]
  unfold joinC
  rw [plJs_len]
  have ec : cTo (fun i => (plJs T r f (n / widN r)).getD i []) (n / widN r) = cTo (fun i => jsonPl T (plX r f i) (plY r f i) (plZ r f i) r) (n / widN r) := cTo_congr fun i hi => by simp [plJs, hi, List.getD_eq_getElem?_getD]
  rw [ec]
/-- A function that appends the coordinates of a value. -/
def QC (D : (Nat → Prop) → World → Value → Raw → Prop) (f : Nat) (T : Nat → Int) : Prop := ∀ (B : Nat → Prop) (W : World) (v : Value) (t : Raw) (l : List UInt8) (base : Nat) (vv : Value), D B W v t → okT t → W.ownsRow base 5 1 vv l.length (Bs l) → Bsd T base W → l.length + 16100 * pl t ≤ 35000000000000 → (∀ b, B b → b < W.heap.size ∧ vv.ownBlock ≠ some b) → Calls Tryz.prog f #[vv, v] W (AppEnd 5 base W vv (l ++ jbT T t))
theorem SeqQC (T : Nat → Int) (hT : ∀ i, U64 (T i)) : QC DLine 74 T := by
  intro B W v t l base vv ⟨r, n, f, p, ht, hr, hm, hv, hf, hb⟩ hok hown hbs hl hB
  subst ht hv
  rw [line_jb]
  have h := appendGeoJSONSequence_p T hT r n p f hr (by unfold okT at hok; exact hok.1) base vv l W hf (fun a ha => (hB _ (hb a ha)).2) hown hbs.le (by omega) hbs.ht hbs.g3 hbs.g2
  simpa only [List.append_assoc] using h
set_option maxRecDepth 100000 in
set_option maxHeartbeats 400000 in
theorem LineCoords_any (r n c : Nat) (p : Option Addr) (W : World) : Calls Tryz.prog 128 #[.agg #[.int .u8 r, .slice p n c]] W fun e w' => e = .returned (.agg #[.int .u8 r, .slice p n c]) ∧ W.grownBy w' none := by
  go_enter Tryz.func128, Tryz.ntmps128
  go_wp2_with fail
  go_returns
  exact ⟨rfl, gt_alloc_r (World.grownBy_alloc _ _ _) _⟩
end Go.Proofs.YthcjnadceambgaaGreatDoor
