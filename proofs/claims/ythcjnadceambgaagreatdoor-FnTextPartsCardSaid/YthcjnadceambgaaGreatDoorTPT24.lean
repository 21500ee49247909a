/- The package's texts of geometries. FnTextParts: what it asks of a list of geometries, and the plain law. -/
import Derived.Test.YthcjnadceambgaaGreatDoorTPT23
namespace Go.Proofs.YthcjnadceambgaaGreatDoor
open Go.RowKit

set_option maxRecDepth 100000 in
set_option maxHeartbeats 2000000 in
theorem GeoAppendPoint {D : (Nat → Prop) → World → Value → Raw → Prop} (K : DK0 D) (hfm : ∀ {B : Nat → Prop} {W : World} {x : Value} {t : Raw}, D B W x t → ∃ (fx fy fz fm er : Nat) (eb : Bool), x = .agg #[.float .f64 fx, .float .f64 fy, .float .f64 fz, .float .f64 fm, .int .u8 er, .bool eb]) (T : Nat → Int) (HC : AC D 139 T) : AC (GeoK 1 145 D) 151 T := by
  intro B W v t l base vv ⟨b, x, hkd, hv, hB1, hx, hd⟩ hok hown hbs hl hB
  subst hv
  obtain ⟨fx, fy, fz, fm, er, eb, rfl⟩ := hfm hd
  have h0 := hx 0 (.float .f64 fx) rfl
  have h1 := hx 1 (.float .f64 fy) rfl
  have h2 := hx 2 (.float .f64 fz) rfl
  have h3 := hx 3 (.float .f64 fm) rfl
  have h4 := hx 4 (.int .u8 er) rfl
  have h5 := hx 5 (.bool eb) rfl
  have hb : b < W.heap.size := World.block_lt_of_cell? W _ h0
  have hb1 : b < W.heap.size + 1 := by omega
  have HO := Lib.hid hown
  have HG := Lib.hid (World.grownBy_alloc W (.cells #[.int .i64 1, .iface 145 (.pointer (some ⟨b, 0, none⟩))] 83) none)
  have HA := Lib.hid (fun w (g : W.grownBy w none) => HC B w _ t l base vv (K.mono g hd) hok (own_later hown g) (hbs.mono g (fun b e => by cases e)) hl hB)
  have hta : ∀ (w : World) (v : Value), (Instr.typeAssert (.iface 145 v) 20 145 false).run Tryz.prog w = .ok v w := fun w v => by kernel_rfl
  have hfin : Hid (∀ w1 w' v', W.grownBy w1 none → AppB 5 base w1 vv w' v' (l ++ textT T t) → AppEnd 5 base W vv (l ++ textT T t) (.returned v') w') := fun w1 w' v' g H => ⟨v', rfl, AppB.later HO.out g H⟩
  generalize textT T t = tx at HA hfin ⊢
  clear hx hd HC hfm hok hown hbs hl hB
  have hsf := run_store_flt Tryz.prog
  go_enter Tryz.func151, Tryz.ntmps151
  go_wp2_with (first
    | (go_at_call 139; refine (HA.out _ HG.out).mono ?_; rintro e w2 ⟨v2, rfl, H⟩))
  go_ret
  exact hfin.out _ _ _ HG.out H

set_option maxRecDepth 100000 in
set_option maxHeartbeats 2000000 in
theorem GeoAppendLineString {D : (Nat → Prop) → World → Value → Raw → Prop} (K : DK0 D) (hfm : ∀ {B : Nat → Prop} {W : World} {x : Value} {t : Raw}, D B W x t → ∃ (er : Nat) (ep : Option Addr) (en ec : Nat), x = .agg #[.int .u8 er, .slice ep en ec]) (T : Nat → Int) (HC : AC D 57 T) : AC (GeoK 2 146 D) 151 T := by
  intro B W v t l base vv ⟨b, x, hkd, hv, hB1, hx, hd⟩ hok hown hbs hl hB
  subst hv
  obtain ⟨er, ep, en, ec, rfl⟩ := hfm hd
  have h0 := hx 0 (.int .u8 er) rfl
  have h1 := hx 1 (.slice ep en ec) rfl
  have hb : b < W.heap.size := World.block_lt_of_cell? W _ h0
  have hb1 : b < W.heap.size + 1 := by omega
  have HO := Lib.hid hown
  have HG := Lib.hid (World.grownBy_alloc W (.cells #[.int .i64 2, .iface 146 (.pointer (some ⟨b, 0, none⟩))] 83) none)
  have HA := Lib.hid (fun w (g : W.grownBy w none) => HC B w _ t l base vv (K.mono g hd) hok (own_later hown g) (hbs.mono g (fun b e => by cases e)) hl hB)
  have hta : ∀ (w : World) (v : Value), (Instr.typeAssert (.iface 146 v) 20 146 false).run Tryz.prog w = .ok v w := fun w v => by kernel_rfl
  have hfin : Hid (∀ w1 w' v', W.grownBy w1 none → AppB 5 base w1 vv w' v' (l ++ textT T t) → AppEnd 5 base W vv (l ++ textT T t) (.returned v') w') := fun w1 w' v' g H => ⟨v', rfl, AppB.later HO.out g H⟩
  generalize textT T t = tx at HA hfin ⊢
  clear hx hd HC hfm hok hown hbs hl hB
  go_enter Tryz.func151, Tryz.ntmps151
  go_wp2_with (first
    | (go_at_call 57; refine (HA.out _ HG.out).mono ?_; rintro e w2 ⟨v2, rfl, H⟩))
  go_ret
  exact hfin.out _ _ _ HG.out H

set_option maxRecDepth 100000 in
set_option maxHeartbeats 2000000 in
theorem GeoAppendPolygon {D : (Nat → Prop) → World → Value → Raw → Prop} (K : DK0 D) (hfm : ∀ {B : Nat → Prop} {W : World} {x : Value} {t : Raw}, D B W x t → ∃ (ep : Option Addr) (en ec er : Nat), x = .agg #[.slice ep en ec, .int .u8 er]) (T : Nat → Int) (HC : AC D 140 T) : AC (GeoK 3 147 D) 151 T := by
  intro B W v t l base vv ⟨b, x, hkd, hv, hB1, hx, hd⟩ hok hown hbs hl hB
  subst hv
  obtain ⟨ep, en, ec, er, rfl⟩ := hfm hd
  have h0 := hx 0 (.slice ep en ec) rfl
  have h1 := hx 1 (.int .u8 er) rfl
  have hb : b < W.heap.size := World.block_lt_of_cell? W _ h0
  have hb1 : b < W.heap.size + 1 := by omega
  have HO := Lib.hid hown
  have HG := Lib.hid (World.grownBy_alloc W (.cells #[.int .i64 3, .iface 147 (.pointer (some ⟨b, 0, none⟩))] 83) none)
  have HA := Lib.hid (fun w (g : W.grownBy w none) => HC B w _ t l base vv (K.mono g hd) hok (own_later hown g) (hbs.mono g (fun b e => by cases e)) hl hB)
  have hta : ∀ (w : World) (v : Value), (Instr.typeAssert (.iface 147 v) 20 147 false).run Tryz.prog w = .ok v w := fun w v => by kernel_rfl
  have hfin : Hid (∀ w1 w' v', W.grownBy w1 none → AppB 5 base w1 vv w' v' (l ++ textT T t) → AppEnd 5 base W vv (l ++ textT T t) (.returned v') w') := fun w1 w' v' g H => ⟨v', rfl, AppB.later HO.out g H⟩
  generalize textT T t = tx at HA hfin ⊢
  clear hx hd HC hfm hok hown hbs hl hB
  go_enter Tryz.func151, Tryz.ntmps151
  go_wp2_with (first
    | (go_at_call 140; refine (HA.out _ HG.out).mono ?_; rintro e w2 ⟨v2, rfl, H⟩))
  go_ret
  exact hfin.out _ _ _ HG.out H

set_option maxRecDepth 100000 in
set_option maxHeartbeats 2000000 in
theorem GeoAppendMultiPoint {D : (Nat → Prop) → World → Value → Raw → Prop} (K : DK0 D) (hfm : ∀ {B : Nat → Prop} {W : World} {x : Value} {t : Raw}, D B W x t → ∃ (ep : Option Addr) (en ec er : Nat), x = .agg #[.slice ep en ec, .int .u8 er]) (T : Nat → Int) (HC : AC D 64 T) : AC (GeoK 4 148 D) 151 T := by
  intro B W v t l base vv ⟨b, x, hkd, hv, hB1, hx, hd⟩ hok hown hbs hl hB
  subst hv
  obtain ⟨ep, en, ec, er, rfl⟩ := hfm hd
  have h0 := hx 0 (.slice ep en ec) rfl
  have h1 := hx 1 (.int .u8 er) rfl
  have hb : b < W.heap.size := World.block_lt_of_cell? W _ h0
  have hb1 : b < W.heap.size + 1 := by omega
  have HO := Lib.hid hown
  have HG := Lib.hid (World.grownBy_alloc W (.cells #[.int .i64 4, .iface 148 (.pointer (some ⟨b, 0, none⟩))] 83) none)
  have HA := Lib.hid (fun w (g : W.grownBy w none) => HC B w _ t l base vv (K.mono g hd) hok (own_later hown g) (hbs.mono g (fun b e => by cases e)) hl hB)
  have hta : ∀ (w : World) (v : Value), (Instr.typeAssert (.iface 148 v) 20 148 false).run Tryz.prog w = .ok v w := fun w v => by kernel_rfl
  have hfin : Hid (∀ w1 w' v', W.grownBy w1 none → AppB 5 base w1 vv w' v' (l ++ textT T t) → AppEnd 5 base W vv (l ++ textT T t) (.returned v') w') := fun w1 w' v' g H => ⟨v', rfl, AppB.later HO.out g H⟩
  generalize textT T t = tx at HA hfin ⊢
  clear hx hd HC hfm hok hown hbs hl hB
  go_enter Tryz.func151, Tryz.ntmps151
  go_wp2_with (first
    | (go_at_call 64; refine (HA.out _ HG.out).mono ?_; rintro e w2 ⟨v2, rfl, H⟩))
  go_ret
  exact hfin.out _ _ _ HG.out H

set_option maxRecDepth 100000 in
set_option maxHeartbeats 2000000 in
theorem GeoAppendMultiLineString {D : (Nat → Prop) → World → Value → Raw → Prop} (K : DK0 D) (hfm : ∀ {B : Nat → Prop} {W : World} {x : Value} {t : Raw}, D B W x t → ∃ (ep : Option Addr) (en ec er : Nat), x = .agg #[.slice ep en ec, .int .u8 er]) (T : Nat → Int) (HC : AC D 141 T) : AC (GeoK 5 149 D) 151 T := by
  intro B W v t l base vv ⟨b, x, hkd, hv, hB1, hx, hd⟩ hok hown hbs hl hB
  subst hv
  obtain ⟨ep, en, ec, er, rfl⟩ := hfm hd
  have h0 := hx 0 (.slice ep en ec) rfl
  have h1 := hx 1 (.int .u8 er) rfl
  have hb : b < W.heap.size := World.block_lt_of_cell? W _ h0
  have hb1 : b < W.heap.size + 1 := by omega
  have HO := Lib.hid hown
  have HG := Lib.hid (World.grownBy_alloc W (.cells #[.int .i64 5, .iface 149 (.pointer (some ⟨b, 0, none⟩))] 83) none)
  have HA := Lib.hid (fun w (g : W.grownBy w none) => HC B w _ t l base vv (K.mono g hd) hok (own_later hown g) (hbs.mono g (fun b e => by cases e)) hl hB)
  have hta : ∀ (w : World) (v : Value), (Instr.typeAssert (.iface 149 v) 20 149 false).run Tryz.prog w = .ok v w := fun w v => by kernel_rfl
  have hfin : Hid (∀ w1 w' v', W.grownBy w1 none → AppB 5 base w1 vv w' v' (l ++ textT T t) → AppEnd 5 base W vv (l ++ textT T t) (.returned v') w') := fun w1 w' v' g H => ⟨v', rfl, AppB.later HO.out g H⟩
  generalize textT T t = tx at HA hfin ⊢
  clear hx hd HC hfm hok hown hbs hl hB
  go_enter Tryz.func151, Tryz.ntmps151
  go_wp2_with (first
    | (go_at_call 141; refine (HA.out _ HG.out).mono ?_; rintro e w2 ⟨v2, rfl, H⟩))
  go_ret
  exact hfin.out _ _ _ HG.out H

set_option maxRecDepth 100000 in
set_option maxHeartbeats 2000000 in
theorem GeoAppendMultiPolygon {D : (Nat → Prop) → World → Value → Raw → Prop} (K : DK0 D) (hfm : ∀ {B : Nat → Prop} {W : World} {x : Value} {t : Raw}, D B W x t → ∃ (ep : Option Addr) (en ec er : Nat), x = .agg #[.slice ep en ec, .int .u8 er]) (T : Nat → Int) (HC : AC D 67 T) : AC (GeoK 6 150 D) 151 T := by
  intro B W v t l base vv ⟨b, x, hkd, hv, hB1, hx, hd⟩ hok hown hbs hl hB
  subst hv
  obtain ⟨ep, en, ec, er, rfl⟩ := hfm hd
  have h0 := hx 0 (.slice ep en ec) rfl
  have h1 := hx 1 (.int .u8 er) rfl
  have hb : b < W.heap.size := World.block_lt_of_cell? W _ h0
  have hb1 : b < W.heap.size + 1 := by omega
  have HO := Lib.hid hown
  have HG := Lib.hid (World.grownBy_alloc W (.cells #[.int .i64 6, .iface 150 (.pointer (some ⟨b, 0, none⟩))] 83) none)
  have HA := Lib.hid (fun w (g : W.grownBy w none) => HC B w _ t l base vv (K.mono g hd) hok (own_later hown g) (hbs.mono g (fun b e => by cases e)) hl hB)
  have hta : ∀ (w : World) (v : Value), (Instr.typeAssert (.iface 150 v) 20 150 false).run Tryz.prog w = .ok v w := fun w v => by kernel_rfl
  have hfin : Hid (∀ w1 w' v', W.grownBy w1 none → AppB 5 base w1 vv w' v' (l ++ textT T t) → AppEnd 5 base W vv (l ++ textT T t) (.returned v') w') := fun w1 w' v' g H => ⟨v', rfl, AppB.later HO.out g H⟩
  generalize textT T t = tx at HA hfin ⊢
  clear hx hd HC hfm hok hown hbs hl hB
  go_enter Tryz.func151, Tryz.ntmps151
  go_wp2_with (first
    | (go_at_call 67; refine (HA.out _ HG.out).mono ?_; rintro e w2 ⟨v2, rfl, H⟩))
  go_ret
  exact hfin.out _ _ _ HG.out H

set_option maxRecDepth 100000 in
set_option maxHeartbeats 2000000 in
theorem GeoAppendGeometryCollection {D : (Nat → Prop) → World → Value → Raw → Prop} (K : DK0 D) (hfm : ∀ {B : Nat → Prop} {W : World} {x : Value} {t : Raw}, D B W x t → ∃ (ep : Option Addr) (en ec er : Nat), x = .agg #[.slice ep en ec, .int .u8 er]) (T : Nat → Int) (HC : AC D 138 T) : AC (GeoK 0 154 D) 151 T := by
  intro B W v t l base vv ⟨b, x, hkd, hv, hB1, hx, hd⟩ hok hown hbs hl hB
  subst hv
  obtain ⟨ep, en, ec, er, rfl⟩ := hfm hd
  have h0 := hx 0 (.slice ep en ec) rfl
  have h1 := hx 1 (.int .u8 er) rfl
  have hb : b < W.heap.size := World.block_lt_of_cell? W _ h0
  have hb1 : b < W.heap.size + 1 := by omega
  have HO := Lib.hid hown
  have HG := Lib.hid (World.grownBy_alloc W (.cells #[.int .i64 0, .iface 154 (.pointer (some ⟨b, 0, none⟩))] 83) none)
  have HA := Lib.hid (fun w (g : W.grownBy w none) => HC B w _ t l base vv (K.mono g hd) hok (own_later hown g) (hbs.mono g (fun b e => by cases e)) hl hB)
  have hta : ∀ (w : World) (v : Value), (Instr.typeAssert (.iface 154 v) 20 154 false).run Tryz.prog w = .ok v w := fun w v => by kernel_rfl
  have hfin : Hid (∀ w1 w' v', W.grownBy w1 none → AppB 5 base w1 vv w' v' (l ++ textT T t) → AppEnd 5 base W vv (l ++ textT T t) (.returned v') w') := fun w1 w' v' g H => ⟨v', rfl, AppB.later HO.out g H⟩
  generalize textT T t = tx at HA hfin ⊢
  clear hx hd HC hfm hok hown hbs hl hB
  go_enter Tryz.func151, Tryz.ntmps151
  go_wp2_with (first
    | (go_at_call 138; refine (HA.out _ HG.out).mono ?_; rintro e w2 ⟨v2, rfl, H⟩))
  go_ret
  exact hfin.out _ _ _ HG.out H
theorem GeoAC (T : Nat → Int) (hT : ∀ i, U64 (T i)) : ∀ h : Nat, AC (DGeo h) 151 T
  | 0 => fun B W v t l base vv hd => hd.elim
  | h + 1 => fun B W v t l base vv hd hok hown hbs hl hB => by
    rcases hd with hd | hd | hd | hd | hd | hd | hd
    · exact GeoAppendPoint DPoint.dk DPoint.form6 T (PointAC T (PointJC T hT)) B W v t l base vv hd hok hown hbs hl hB
    · exact GeoAppendLineString DLine.dk.toDK0 DLine.form2 T (LineStringAC T (LineJC T hT)) B W v t l base vv hd hok hown hbs hl hB
    · exact GeoAppendPolygon DPg.dk.toDK0 DNode.form T (PolygonAC T (PgJC T hT)) B W v t l base vv hd hok hown hbs hl hB
    · exact GeoAppendMultiPoint DMpt.dk.toDK0 DMpt.form T (MultiPointAC T hT) B W v t l base vv hd hok hown hbs hl hB
    · exact GeoAppendMultiLineString DMl.dk.toDK0 DNode.form T (MlAC T hT) B W v t l base vv hd hok hown hbs hl hB
    · exact GeoAppendMultiPolygon DMp.dk.toDK0 DNode.form T (MpAC T hT) B W v t l base vv hd hok hown hbs hl hB
    · exact GeoAppendGeometryCollection (DNode.dk (DGeo.dk h)).toDK0 DNode.form T (GcAppend_of (DGeo.dk h) DGeo.form T (GeoAC T hT h).ic) B W v t l base vv hd hok hown hbs hl hB
/-- A function that returns the whole text of a value. -/
def XC (D : (Nat → Prop) → World → Value → Raw → Prop) (f : Nat) (T : Nat → Int) : Prop := ∀ (B : Nat → Prop) (W : World) (v : Value) (t : Raw), D B W v t → okT t → pl t ≤ 3000 → (∀ b, B b → b < W.heap.size) → Tabs T W → Calls Tryz.prog f #[v] W fun e w' => e = .returned (.string ⟨(textT T t).toArray⟩) ∧ W.grownBy w' none

set_option maxRecDepth 100000 in
set_option maxHeartbeats 1000000 in
theorem AsTextPoint {D : (Nat → Prop) → World → Value → Raw → Prop} (K : DK0 D) (hfm : ∀ {B : Nat → Prop} {W : World} {x : Value} {t : Raw}, D B W x t → ∃ (fx fy fz fm er : Nat) (eb : Bool), x = .agg #[.float .f64 fx, .float .f64 fy, .float .f64 fz, .float .f64 fm, .int .u8 er, .bool eb]) (T : Nat → Int) (HC : AC D 139 T) : XC D 111 T := by
  intro B W v t hd hok hpl hB ht
  obtain ⟨fx, fy, fz, fm, er, eb, rfl⟩ := hfm hd
  have HG := Lib.hid (World.grownBy_alloc W (.cells #[.float .f64 fx, .float .f64 fy, .float .f64 fz, .float .f64 fm, .int .u8 er, .bool eb] 71) none)
  have HA := Lib.hid (fun w (g : W.grownBy w none) => HC B w _ t [] w.heap.size (.slice none 0 0) (K.mono g hd) hok (World.ownsRow_nil _ _ _ _) (ht.mono g (by simp) (by simp)).bsd (by simp; omega) (fun b hb => Nat.lt_of_lt_of_le (hB b hb) g.size))
  generalize textT T t = tx at HA ⊢
  clear hd ht hok hB hpl hfm HC
  have hsf := run_store_flt Tryz.prog
  go_enter Tryz.func111, Tryz.ntmps111
  go_wp2_with (first
    | (go_at_call 139; refine (HA.out _ HG.out).mono ?_; rintro e w' ⟨v', rfl, H⟩; have hcv := own_str (P := Tryz.prog) (src := 33) (dst := 9) (et := 5) Tryz.underlying33 Tryz.underlying5 Tryz.underlying9 H.own))
  go_ret
  exact ⟨rfl, gt_trans HG.out H.grown (.inl rfl)⟩
set_option maxRecDepth 100000 in
set_option maxHeartbeats 1000000 in
theorem GeoAsTextPoint {D : (Nat → Prop) → World → Value → Raw → Prop} (K : DK0 D) (hfm : ∀ {B : Nat → Prop} {W : World} {x : Value} {t : Raw}, D B W x t → ∃ (fx fy fz fm er : Nat) (eb : Bool), x = .agg #[.float .f64 fx, .float .f64 fy, .float .f64 fz, .float .f64 fm, .int .u8 er, .bool eb]) (T : Nat → Int) (HC : XC D 111 T) : XC (GeoK 1 145 D) 54 T := by
  intro B W v t ⟨b, x, hkd, hv, hB1, hx, hd⟩ hok hpl hB ht
  subst hv
  obtain ⟨fx, fy, fz, fm, er, eb, rfl⟩ := hfm hd
  have h0 := hx 0 (.float .f64 fx) rfl
  have h1 := hx 1 (.float .f64 fy) rfl
  have h2 := hx 2 (.float .f64 fz) rfl
  have h3 := hx 3 (.float .f64 fm) rfl
  have h4 := hx 4 (.int .u8 er) rfl
  have h5 := hx 5 (.bool eb) rfl
  have hb : b < W.heap.size := World.block_lt_of_cell? W _ h0
  have HM := Lib.hid (fun w (g : W.grownBy w none) => MustAsPoint _ _ _ _ _ _ b w (g.cell h0 (by simp)) (g.cell h1 (by simp)) (g.cell h2 (by simp)) (g.cell h3 (by simp)) (g.cell h4 (by simp)) (g.cell h5 (by simp)) (Nat.lt_of_lt_of_le hb g.size))
  have HT := Lib.hid (fun w (g : W.grownBy w none) => HC B w _ t (K.mono g hd) hok hpl (fun b hb => Nat.lt_of_lt_of_le (hB b hb) g.size) (ht.mono g (by simp) (by simp)))
  have HG := Lib.hid (World.grownBy_alloc W (.cells #[.int .i64 1, .iface 145 (.pointer (some ⟨b, 0, none⟩))] 83) none)
  generalize textT T t = tx at HT ⊢
  clear hx hd HC hfm ht hok hpl hB
  go_enter Tryz.func54, Tryz.ntmps54
  go_wp2_with (first
    | (go_at_call 97; refine (HM.out _ HG.out).mono ?_; rintro e w2 ⟨rfl, hg2⟩; have G2 := gt_trans HG.out hg2 (.inl rfl))
    | (go_at_call 111; refine (HT.out _ G2).mono ?_; rintro e w3 ⟨rfl, hg3⟩))
  go_ret
  exact ⟨rfl, gt_trans G2 hg3 (.inl rfl)⟩

set_option maxRecDepth 100000 in
set_option maxHeartbeats 1000000 in
theorem AsTextLineString {D : (Nat → Prop) → World → Value → Raw → Prop} (K : DK0 D) (hfm : ∀ {B : Nat → Prop} {W : World} {x : Value} {t : Raw}, D B W x t → ∃ (er : Nat) (ep : Option Addr) (en ec : Nat), x = .agg #[.int .u8 er, .slice ep en ec]) (T : Nat → Int) (HC : AC D 57 T) : XC D 25 T := by
  intro B W v t hd hok hpl hB ht
  obtain ⟨er, ep, en, ec, rfl⟩ := hfm hd
  have HG := Lib.hid (World.grownBy_alloc W (.cells #[.int .u8 er, .slice ep en ec] 45) none)
  have HA := Lib.hid (fun w (g : W.grownBy w none) => HC B w _ t [] w.heap.size (.slice none 0 0) (K.mono g hd) hok (World.ownsRow_nil _ _ _ _) (ht.mono g (by simp) (by simp)).bsd (by simp; omega) (fun b hb => Nat.lt_of_lt_of_le (hB b hb) g.size))
  generalize textT T t = tx at HA ⊢
  clear hd ht hok hB hpl hfm HC
  go_enter Tryz.func25, Tryz.ntmps25
  go_wp2_with (first
    | (go_at_call 57; refine (HA.out _ HG.out).mono ?_; rintro e w' ⟨v', rfl, H⟩; have hcv := own_str (P := Tryz.prog) (src := 33) (dst := 9) (et := 5) Tryz.underlying33 Tryz.underlying5 Tryz.underlying9 H.own))
  go_ret
  exact ⟨rfl, gt_trans HG.out H.grown (.inl rfl)⟩
set_option maxRecDepth 100000 in
set_option maxHeartbeats 1000000 in
theorem GeoAsTextLineString {D : (Nat → Prop) → World → Value → Raw → Prop} (K : DK0 D) (hfm : ∀ {B : Nat → Prop} {W : World} {x : Value} {t : Raw}, D B W x t → ∃ (er : Nat) (ep : Option Addr) (en ec : Nat), x = .agg #[.int .u8 er, .slice ep en ec]) (T : Nat → Int) (HC : XC D 25 T) : XC (GeoK 2 146 D) 54 T := by
  intro B W v t ⟨b, x, hkd, hv, hB1, hx, hd⟩ hok hpl hB ht
  subst hv
  obtain ⟨er, ep, en, ec, rfl⟩ := hfm hd
  have h0 := hx 0 (.int .u8 er) rfl
  have h1 := hx 1 (.slice ep en ec) rfl
  have hb : b < W.heap.size := World.block_lt_of_cell? W _ h0
  have HM := Lib.hid (fun w (g : W.grownBy w none) => MustAsLineString _ _ _ _ b w (g.cell h0 (by simp)) (g.cell h1 (by simp)) (Nat.lt_of_lt_of_le hb g.size))
  have HT := Lib.hid (fun w (g : W.grownBy w none) => HC B w _ t (K.mono g hd) hok hpl (fun b hb => Nat.lt_of_lt_of_le (hB b hb) g.size) (ht.mono g (by simp) (by simp)))
  have HG := Lib.hid (World.grownBy_alloc W (.cells #[.int .i64 2, .iface 146 (.pointer (some ⟨b, 0, none⟩))] 83) none)
  generalize textT T t = tx at HT ⊢
  clear hx hd HC hfm ht hok hpl hB
  go_enter Tryz.func54, Tryz.ntmps54
  go_wp2_with (first
    | (go_at_call 99; refine (HM.out _ HG.out).mono ?_; rintro e w2 ⟨rfl, hg2⟩; have G2 := gt_trans HG.out hg2 (.inl rfl))
    | (go_at_call 25; refine (HT.out _ G2).mono ?_; rintro e w3 ⟨rfl, hg3⟩))
  go_ret
  exact ⟨rfl, gt_trans G2 hg3 (.inl rfl)⟩

set_option maxRecDepth 100000 in
set_option maxHeartbeats 1000000 in
theorem AsTextPolygon {D : (Nat → Prop) → World → Value → Raw → Prop} (K : DK0 D) (hfm : ∀ {B : Nat → Prop} {W : World} {x : Value} {t : Raw}, D B W x t → ∃ (ep : Option Addr) (en ec er : Nat), x = .agg #[.slice ep en ec, .int .u8 er]) (T : Nat → Int) (HC : AC D 140 T) : XC D 112 T := by
  intro B W v t hd hok hpl hB ht
  obtain ⟨ep, en, ec, er, rfl⟩ := hfm hd
  have HG := Lib.hid (World.grownBy_alloc W (.cells #[.slice ep en ec, .int .u8 er] 76) none)
  have HA := Lib.hid (fun w (g : W.grownBy w none) => HC B w _ t [] w.heap.size (.slice none 0 0) (K.mono g hd) hok (World.ownsRow_nil _ _ _ _) (ht.mono g (by simp) (by simp)).bsd (by simp; omega) (fun b hb => Nat.lt_of_lt_of_le (hB b hb) g.size))
  generalize textT T t = tx at HA ⊢
  clear hd ht hok hB hpl hfm HC
  go_enter Tryz.func112, Tryz.ntmps112
  go_wp2_with (first
    | (go_at_call 140; refine (HA.out _ HG.out).mono ?_; rintro e w' ⟨v', rfl, H⟩; have hcv := own_str (P := Tryz.prog) (src := 33) (dst := 9) (et := 5) Tryz.underlying33 Tryz.underlying5 Tryz.underlying9 H.own))
  go_ret
  exact ⟨rfl, gt_trans HG.out H.grown (.inl rfl)⟩
set_option maxRecDepth 100000 in
set_option maxHeartbeats 1000000 in
theorem GeoAsTextPolygon {D : (Nat → Prop) → World → Value → Raw → Prop} (K : DK0 D) (hfm : ∀ {B : Nat → Prop} {W : World} {x : Value} {t : Raw}, D B W x t → ∃ (ep : Option Addr) (en ec er : Nat), x = .agg #[.slice ep en ec, .int .u8 er]) (T : Nat → Int) (HC : XC D 112 T) : XC (GeoK 3 147 D) 54 T := by
  intro B W v t ⟨b, x, hkd, hv, hB1, hx, hd⟩ hok hpl hB ht
  subst hv
  obtain ⟨ep, en, ec, er, rfl⟩ := hfm hd
  have h0 := hx 0 (.slice ep en ec) rfl
  have h1 := hx 1 (.int .u8 er) rfl
  have hb : b < W.heap.size := World.block_lt_of_cell? W _ h0
  have HM := Lib.hid (fun w (g : W.grownBy w none) => MustAsPolygon _ _ _ _ b w (g.cell h0 (by simp)) (g.cell h1 (by simp)) (Nat.lt_of_lt_of_le hb g.size))
  have HT := Lib.hid (fun w (g : W.grownBy w none) => HC B w _ t (K.mono g hd) hok hpl (fun b hb => Nat.lt_of_lt_of_le (hB b hb) g.size) (ht.mono g (by simp) (by simp)))
  have HG := Lib.hid (World.grownBy_alloc W (.cells #[.int .i64 3, .iface 147 (.pointer (some ⟨b, 0, none⟩))] 83) none)
  generalize textT T t = tx at HT ⊢
  clear hx hd HC hfm ht hok hpl hB
  go_enter Tryz.func54, Tryz.ntmps54
  go_wp2_with (first
    | (go_at_call 101; refine (HM.out _ HG.out).mono ?_; rintro e w2 ⟨rfl, hg2⟩; have G2 := gt_trans HG.out hg2 (.inl rfl))
    | (go_at_call 112; refine (HT.out _ G2).mono ?_; rintro e w3 ⟨rfl, hg3⟩))
  go_ret
  exact ⟨rfl, gt_trans G2 hg3 (.inl rfl)⟩

set_option maxRecDepth 100000 in
set_option maxHeartbeats 1000000 in
theorem AsTextMultiPoint {D : (Nat → Prop) → World → Value → Raw → Prop} (K : DK0 D) (hfm : ∀ {B : Nat → Prop} {W : World} {x : Value} {t : Raw}, D B W x t → ∃ (ep : Option Addr) (en ec er : Nat), x = .agg #[.slice ep en ec, .int .u8 er]) (T : Nat → Int) (HC : AC D 64 T) : XC D 34 T := by
  intro B W v t hd hok hpl hB ht
  obtain ⟨ep, en, ec, er, rfl⟩ := hfm hd
  have HG := Lib.hid (World.grownBy_alloc W (.cells #[.slice ep en ec, .int .u8 er] 53) none)
  have HA := Lib.hid (fun w (g : W.grownBy w none) => HC B w _ t [] w.heap.size (.slice none 0 0) (K.mono g hd) hok (World.ownsRow_nil _ _ _ _) (ht.mono g (by simp) (by simp)).bsd (by simp; omega) (fun b hb => Nat.lt_of_lt_of_le (hB b hb) g.size))
  generalize textT T t = tx at HA ⊢
  clear hd ht hok hB hpl hfm HC
  go_enter Tryz.func34, Tryz.ntmps34
  go_wp2_with (first
    | (go_at_call 64; refine (HA.out _ HG.out).mono ?_; rintro e w' ⟨v', rfl, H⟩; have hcv := own_str (P := Tryz.prog) (src := 33) (dst := 9) (et := 5) Tryz.underlying33 Tryz.underlying5 Tryz.underlying9 H.own))
  go_ret
  exact ⟨rfl, gt_trans HG.out H.grown (.inl rfl)⟩
set_option maxRecDepth 100000 in
set_option maxHeartbeats 1000000 in
theorem GeoAsTextMultiPoint {D : (Nat → Prop) → World → Value → Raw → Prop} (K : DK0 D) (hfm : ∀ {B : Nat → Prop} {W : World} {x : Value} {t : Raw}, D B W x t → ∃ (ep : Option Addr) (en ec er : Nat), x = .agg #[.slice ep en ec, .int .u8 er]) (T : Nat → Int) (HC : XC D 34 T) : XC (GeoK 4 148 D) 54 T := by
  intro B W v t ⟨b, x, hkd, hv, hB1, hx, hd⟩ hok hpl hB ht
  subst hv
  obtain ⟨ep, en, ec, er, rfl⟩ := hfm hd
  have h0 := hx 0 (.slice ep en ec) rfl
  have h1 := hx 1 (.int .u8 er) rfl
  have hb : b < W.heap.size := World.block_lt_of_cell? W _ h0
  have HM := Lib.hid (fun w (g : W.grownBy w none) => MustAsMultiPoint _ _ _ _ b w (g.cell h0 (by simp)) (g.cell h1 (by simp)) (Nat.lt_of_lt_of_le hb g.size))
  have HT := Lib.hid (fun w (g : W.grownBy w none) => HC B w _ t (K.mono g hd) hok hpl (fun b hb => Nat.lt_of_lt_of_le (hB b hb) g.size) (ht.mono g (by simp) (by simp)))
  have HG := Lib.hid (World.grownBy_alloc W (.cells #[.int .i64 4, .iface 148 (.pointer (some ⟨b, 0, none⟩))] 83) none)
  generalize textT T t = tx at HT ⊢
  clear hx hd HC hfm ht hok hpl hB
  go_enter Tryz.func54, Tryz.ntmps54
  go_wp2_with (first
    | (go_at_call 103; refine (HM.out _ HG.out).mono ?_; rintro e w2 ⟨rfl, hg2⟩; have G2 := gt_trans HG.out hg2 (.inl rfl))
    | (go_at_call 34; refine (HT.out _ G2).mono ?_; rintro e w3 ⟨rfl, hg3⟩))
  go_ret
  exact ⟨rfl, gt_trans G2 hg3 (.inl rfl)⟩

set_option maxRecDepth 100000 in
set_option maxHeartbeats 1000000 in
theorem AsTextMultiLineString {D : (Nat → Prop) → World → Value → Raw → Prop} (K : DK0 D) (hfm : ∀ {B : Nat → Prop} {W : World} {x : Value} {t : Raw}, D B W x t → ∃ (ep : Option Addr) (en ec er : Nat), x = .agg #[.slice ep en ec, .int .u8 er]) (T : Nat → Int) (HC : AC D 141 T) : XC D 113 T := by
  intro B W v t hd hok hpl hB ht
  obtain ⟨ep, en, ec, er, rfl⟩ := hfm hd
  have HG := Lib.hid (World.grownBy_alloc W (.cells #[.slice ep en ec, .int .u8 er] 79) none)
  have HA := Lib.hid (fun w (g : W.grownBy w none) => HC B w _ t [] w.heap.size (.slice none 0 0) (K.mono g hd) hok (World.ownsRow_nil _ _ _ _) (ht.mono g (by simp) (by simp)).bsd (by simp; omega) (fun b hb => Nat.lt_of_lt_of_le (hB b hb) g.size))
  generalize textT T t = tx at HA ⊢
  clear hd ht hok hB hpl hfm HC
  go_enter Tryz.func113, Tryz.ntmps113
  go_wp2_with (first
    | (go_at_call 141; refine (HA.out _ HG.out).mono ?_; rintro e w' ⟨v', rfl, H⟩; have hcv := own_str (P := Tryz.prog) (src := 33) (dst := 9) (et := 5) Tryz.underlying33 Tryz.underlying5 Tryz.underlying9 H.own))
  go_ret
  exact ⟨rfl, gt_trans HG.out H.grown (.inl rfl)⟩
set_option maxRecDepth 100000 in
set_option maxHeartbeats 1000000 in
theorem GeoAsTextMultiLineString {D : (Nat → Prop) → World → Value → Raw → Prop} (K : DK0 D) (hfm : ∀ {B : Nat → Prop} {W : World} {x : Value} {t : Raw}, D B W x t → ∃ (ep : Option Addr) (en ec er : Nat), x = .agg #[.slice ep en ec, .int .u8 er]) (T : Nat → Int) (HC : XC D 113 T) : XC (GeoK 5 149 D) 54 T := by
  intro B W v t ⟨b, x, hkd, hv, hB1, hx, hd⟩ hok hpl hB ht
  subst hv
  obtain ⟨ep, en, ec, er, rfl⟩ := hfm hd
  have h0 := hx 0 (.slice ep en ec) rfl
  have h1 := hx 1 (.int .u8 er) rfl
  have hb : b < W.heap.size := World.block_lt_of_cell? W _ h0
  have HM := Lib.hid (fun w (g : W.grownBy w none) => MustAsMultiLineString _ _ _ _ b w (g.cell h0 (by simp)) (g.cell h1 (by simp)) (Nat.lt_of_lt_of_le hb g.size))
  have HT := Lib.hid (fun w (g : W.grownBy w none) => HC B w _ t (K.mono g hd) hok hpl (fun b hb => Nat.lt_of_lt_of_le (hB b hb) g.size) (ht.mono g (by simp) (by simp)))
  have HG := Lib.hid (World.grownBy_alloc W (.cells #[.int .i64 5, .iface 149 (.pointer (some ⟨b, 0, none⟩))] 83) none)
  generalize textT T t = tx at HT ⊢
  clear hx hd HC hfm ht hok hpl hB
  go_enter Tryz.func54, Tryz.ntmps54
  go_wp2_with (first
    | (go_at_call 105; refine (HM.out _ HG.out).mono ?_; rintro e w2 ⟨rfl, hg2⟩; have G2 := gt_trans HG.out hg2 (.inl rfl))
    | (go_at_call 113; refine (HT.out _ G2).mono ?_; rintro e w3 ⟨rfl, hg3⟩))
  go_ret
  exact ⟨rfl, gt_trans G2 hg3 (.inl rfl)⟩

set_option maxRecDepth 100000 in
set_option maxHeartbeats 1000000 in
theorem AsTextMultiPolygon {D : (Nat → Prop) → World → Value → Raw → Prop} (K : DK0 D) (hfm : ∀ {B : Nat → Prop} {W : World} {x : Value} {t : Raw}, D B W x t → ∃ (ep : Option Addr) (en ec er : Nat), x = .agg #[.slice ep en ec, .int .u8 er]) (T : Nat → Int) (HC : AC D 67 T) : XC D 36 T := by
  intro B W v t hd hok hpl hB ht
  obtain ⟨ep, en, ec, er, rfl⟩ := hfm hd
  have HG := Lib.hid (World.grownBy_alloc W (.cells #[.slice ep en ec, .int .u8 er] 57) none)
  have HA := Lib.hid (fun w (g : W.grownBy w none) => HC B w _ t [] w.heap.size (.slice none 0 0) (K.mono g hd) hok (World.ownsRow_nil _ _ _ _) (ht.mono g (by simp) (by simp)).bsd (by simp; omega) (fun b hb => Nat.lt_of_lt_of_le (hB b hb) g.size))
  generalize textT T t = tx at HA ⊢
  clear hd ht hok hB hpl hfm HC
  go_enter Tryz.func36, Tryz.ntmps36
  go_wp2_with (first
    | (go_at_call 67; refine (HA.out _ HG.out).mono ?_; rintro e w' ⟨v', rfl, H⟩; have hcv := own_str (P := Tryz.prog) (src := 33) (dst := 9) (et := 5) Tryz.underlying33 Tryz.underlying5 Tryz.underlying9 H.own))
  go_ret
  exact ⟨rfl, gt_trans HG.out H.grown (.inl rfl)⟩
set_option maxRecDepth 100000 in
set_option maxHeartbeats 1000000 in
theorem GeoAsTextMultiPolygon {D : (Nat → Prop) → World → Value → Raw → Prop} (K : DK0 D) (hfm : ∀ {B : Nat → Prop} {W : World} {x : Value} {t : Raw}, D B W x t → ∃ (ep : Option Addr) (en ec er : Nat), x = .agg #[.slice ep en ec, .int .u8 er]) (T : Nat → Int) (HC : XC D 36 T) : XC (GeoK 6 150 D) 54 T := by
  intro B W v t ⟨b, x, hkd, hv, hB1, hx, hd⟩ hok hpl hB ht
  subst hv
  obtain ⟨ep, en, ec, er, rfl⟩ := hfm hd
  have h0 := hx 0 (.slice ep en ec) rfl
  have h1 := hx 1 (.int .u8 er) rfl
  have hb : b < W.heap.size := World.block_lt_of_cell? W _ h0
  have HM := Lib.hid (fun w (g : W.grownBy w none) => MustAsMultiPolygon _ _ _ _ b w (g.cell h0 (by simp)) (g.cell h1 (by simp)) (Nat.lt_of_lt_of_le hb g.size))
  have HT := Lib.hid (fun w (g : W.grownBy w none) => HC B w _ t (K.mono g hd) hok hpl (fun b hb => Nat.lt_of_lt_of_le (hB b hb) g.size) (ht.mono g (by simp) (by simp)))
  have HG := Lib.hid (World.grownBy_alloc W (.cells #[.int .i64 6, .iface 150 (.pointer (some ⟨b, 0, none⟩))] 83) none)
  generalize textT T t = tx at HT ⊢
  clear hx hd HC hfm ht hok hpl hB
  go_enter Tryz.func54, Tryz.ntmps54
  go_wp2_with (first
    | (go_at_call 107; refine (HM.out _ HG.out).mono ?_; rintro e w2 ⟨rfl, hg2⟩; have G2 := gt_trans HG.out hg2 (.inl rfl))
    | (go_at_call 36; refine (HT.out _ G2).mono ?_; rintro e w3 ⟨rfl, hg3⟩))
  go_ret
  exact ⟨rfl, gt_trans G2 hg3 (.inl rfl)⟩

set_option maxRecDepth 100000 in
set_option maxHeartbeats 1000000 in
theorem AsTextGeometryCollection {D : (Nat → Prop) → World → Value → Raw → Prop} (K : DK0 D) (hfm : ∀ {B : Nat → Prop} {W : World} {x : Value} {t : Raw}, D B W x t → ∃ (ep : Option Addr) (en ec er : Nat), x = .agg #[.slice ep en ec, .int .u8 er]) (T : Nat → Int) (HC : AC D 138 T) : XC D 110 T := by
  intro B W v t hd hok hpl hB ht
  obtain ⟨ep, en, ec, er, rfl⟩ := hfm hd
  have HG := Lib.hid (World.grownBy_alloc W (.cells #[.slice ep en ec, .int .u8 er] 123) none)
  have HA := Lib.hid (fun w (g : W.grownBy w none) => HC B w _ t [] w.heap.size (.slice none 0 0) (K.mono g hd) hok (World.ownsRow_nil _ _ _ _) (ht.mono g (by simp) (by simp)).bsd (by simp; omega) (fun b hb => Nat.lt_of_lt_of_le (hB b hb) g.size))
  generalize textT T t = tx at HA ⊢
  clear hd ht hok hB hpl hfm HC
  go_enter Tryz.func110, Tryz.ntmps110
  go_wp2_with (first
    | (go_at_call 138; refine (HA.out _ HG.out).mono ?_; rintro e w' ⟨v', rfl, H⟩; have hcv := own_str (P := Tryz.prog) (src := 33) (dst := 9) (et := 5) Tryz.underlying33 Tryz.underlying5 Tryz.underlying9 H.own))
  go_ret
  exact ⟨rfl, gt_trans HG.out H.grown (.inl rfl)⟩
set_option maxRecDepth 100000 in
set_option maxHeartbeats 1000000 in
theorem GeoAsTextGeometryCollection {D : (Nat → Prop) → World → Value → Raw → Prop} (K : DK0 D) (hfm : ∀ {B : Nat → Prop} {W : World} {x : Value} {t : Raw}, D B W x t → ∃ (ep : Option Addr) (en ec er : Nat), x = .agg #[.slice ep en ec, .int .u8 er]) (T : Nat → Int) (HC : XC D 110 T) : XC (GeoK 0 154 D) 54 T := by
  intro B W v t ⟨b, x, hkd, hv, hB1, hx, hd⟩ hok hpl hB ht
  subst hv
  obtain ⟨ep, en, ec, er, rfl⟩ := hfm hd
  have h0 := hx 0 (.slice ep en ec) rfl
  have h1 := hx 1 (.int .u8 er) rfl
  have hb : b < W.heap.size := World.block_lt_of_cell? W _ h0
  have HM := Lib.hid (fun w (g : W.grownBy w none) => MustAsGeometryCollection _ _ _ _ b w (g.cell h0 (by simp)) (g.cell h1 (by simp)) (Nat.lt_of_lt_of_le hb g.size))
  have HT := Lib.hid (fun w (g : W.grownBy w none) => HC B w _ t (K.mono g hd) hok hpl (fun b hb => Nat.lt_of_lt_of_le (hB b hb) g.size) (ht.mono g (by simp) (by simp)))
  have HG := Lib.hid (World.grownBy_alloc W (.cells #[.int .i64 0, .iface 154 (.pointer (some ⟨b, 0, none⟩))] 83) none)
  generalize textT T t = tx at HT ⊢
  clear hx hd HC hfm ht hok hpl hB
  go_enter Tryz.func54, Tryz.ntmps54
  go_wp2_with (first
    | (go_at_call 95; refine (HM.out _ HG.out).mono ?_; rintro e w2 ⟨rfl, hg2⟩; have G2 := gt_trans HG.out hg2 (.inl rfl))
    | (go_at_call 110; refine (HT.out _ G2).mono ?_; rintro e w3 ⟨rfl, hg3⟩))
  go_ret
  exact ⟨rfl, gt_trans G2 hg3 (.inl rfl)⟩
theorem GeoXC (T : Nat → Int) (hT : ∀ i, U64 (T i)) : ∀ h : Nat, XC (DGeo h) 54 T
  | 0 => fun B W v t hd => hd.elim
  | h + 1 => fun B W v t hd hok hpl hB ht => by
    rcases hd with hd | hd | hd | hd | hd | hd | hd
    · exact GeoAsTextPoint DPoint.dk DPoint.form6 T (AsTextPoint DPoint.dk DPoint.form6 T (PointAC T (PointJC T hT))) B W v t hd hok hpl hB ht
    · exact GeoAsTextLineString DLine.dk.toDK0 DLine.form2 T (AsTextLineString DLine.dk.toDK0 DLine.form2 T (LineStringAC T (LineJC T hT))) B W v t hd hok hpl hB ht
    · exact GeoAsTextPolygon DPg.dk.toDK0 DNode.form T (AsTextPolygon DPg.dk.toDK0 DNode.form T (PolygonAC T (PgJC T hT))) B W v t hd hok hpl hB ht
    · exact GeoAsTextMultiPoint DMpt.dk.toDK0 DMpt.form T (AsTextMultiPoint DMpt.dk.toDK0 DMpt.form T (MultiPointAC T hT)) B W v t hd hok hpl hB ht
    · exact GeoAsTextMultiLineString DMl.dk.toDK0 DNode.form T (AsTextMultiLineString DMl.dk.toDK0 DNode.form T (MlAC T hT)) B W v t hd hok hpl hB ht
    · exact GeoAsTextMultiPolygon DMp.dk.toDK0 DNode.form T (AsTextMultiPolygon DMp.dk.toDK0 DNode.form T (MpAC T hT)) B W v t hd hok hpl hB ht
    · exact GeoAsTextGeometryCollection (DNode.dk (DGeo.dk h)).toDK0 DNode.form T (AsTextGeometryCollection (DNode.dk (DGeo.dk h)).toDK0 DNode.form T (GcAppend_of (DGeo.dk h) DGeo.form T (GeoAC T hT h).ic)) B W v t hd hok hpl hB ht

set_option maxRecDepth 100000 in
set_option maxHeartbeats 1000000 in
theorem ImplWKT_of (T : Nat → Int) (hT : ∀ i, U64 (T i)) (h : Nat) (W : World) (k d : Int) (p q : Option Addr) (n cap m c2 : Nat) (f : Nat → Nat) (kids : List Raw)
    (hL : ∀ w, W.grownBy w none → Calls Tryz.prog 52 #[.agg #[.int .i64 k, .int .i64 d, .slice p n cap, .slice q m c2]] w (MPost (DGeo h) w (newT (.mk k d n f kids)))) (hok : okT (newT (.mk k d n f kids))) (hpl : pl (newT (.mk k d n f kids)) ≤ 3000) (ht : Tabs T W) :
    Calls Tryz.prog 21 #[.agg #[.int .i64 k, .int .i64 d, .slice p n cap, .slice q m c2]] W fun e w' => e = .returned (.string ⟨(textT T (newT (.mk k d n f kids))).toArray⟩) ∧ W.grownBy w' none := by
  have HG := Lib.hid (World.grownBy_alloc W (.cells #[.int .i64 k, .int .i64 d, .slice p n cap, .slice q m c2] 25) none)
  have HL := Lib.hid hL
  have HM := Lib.hid (fun v w w0 (g : W.grownBy w none) (hv : DGeo h (Fr w0 w) w v (newT (.mk k d n f kids))) => GeoXC T hT h (Fr w0 w) w v (newT (.mk k d n f kids)) hv hok hpl (fun b hb => hb.2) (ht.mono g (by simp) (by simp)))
  generalize textT T (newT (.mk k d n f kids)) = tx at HM ⊢
  generalize newT (.mk k d n f kids) = tn at HL HM
  clear hL hok hpl
  go_enter Tryz.func21, Tryz.ntmps21
  go_wp2_with (first
    | (go_at_call 52; refine (HL.out _ HG.out).mono ?_; rintro e w' ⟨v, rfl, hv, hg1⟩; have Hv := Lib.hid hv; obtain ⟨ek, ety, eb, rfl⟩ := DGeo.form hv; clear hv)
    | (go_at_call 54; refine (HM.out _ _ _ (gt_trans HG.out hg1 (.inl rfl)) Hv.out).mono ?_; rintro e w'' ⟨rfl, hg2⟩))
  go_ret
  exact ⟨rfl, gt_trans (gt_trans HG.out hg1 (.inl rfl)) hg2 (.inl rfl)⟩

set_option maxRecDepth 100000 in
set_option maxHeartbeats 1000000 in
theorem ImplCT_of (h : Nat) (W : World) (k d : Int) (p q : Option Addr) (n cap m c2 : Nat) (f : Nat → Nat) (kids : List Raw)
    (hL : ∀ w, W.grownBy w none → Calls Tryz.prog 52 #[.agg #[.int .i64 k, .int .i64 d, .slice p n cap, .slice q m c2]] w (MPost (DGeo h) w (newT (.mk k d n f kids)))) (hok : okT (newT (.mk k d n f kids))) (hpl : pl (newT (.mk k d n f kids)) ≤ 3000) :
    Calls Tryz.prog 20 #[.agg #[.int .i64 k, .int .i64 d, .slice p n cap, .slice q m c2]] W fun e w' => e = .returned (.int .i64 (dimR (newT (.mk k d n f kids)) : Nat)) ∧ W.grownBy w' none := by
  have HG := Lib.hid (World.grownBy_alloc W (.cells #[.int .i64 k, .int .i64 d, .slice p n cap, .slice q m c2] 25) none)
  have HL := Lib.hid hL
  have HM := Lib.hid (fun v w w0 (g : W.grownBy w none) (hv : DGeo h (Fr w0 w) w v (newT (.mk k d n f kids))) => GeoCC h (Fr w0 w) w v (newT (.mk k d n f kids)) hv)
  have HD4 := Lib.hid (fun v w w0 (hv : DGeo h (Fr w0 w) w v (newT (.mk k d n f kids))) => DGeo.d4 hv)
  generalize dimR (newT (.mk k d n f kids)) = dd at HM HD4 ⊢
  generalize newT (.mk k d n f kids) = tn at HL HM HD4
  clear hL hok hpl
  go_enter Tryz.func20, Tryz.ntmps20
  go_wp2_with (first
    | (go_at_call 52; refine (HL.out _ HG.out).mono ?_; rintro e w' ⟨v, rfl, hv, hg1⟩; have Hv := Lib.hid hv; have hd4 := HD4.out _ _ _ hv; obtain ⟨ek, ety, eb, rfl⟩ := DGeo.form hv; clear hv)
    | (go_at_call 53; refine (HM.out _ _ _ (gt_trans HG.out hg1 (.inl rfl)) Hv.out).mono ?_; rintro e w'' ⟨rfl, hg2⟩))
  go_ret
  exact ⟨rfl, gt_trans (gt_trans HG.out hg1 (.inl rfl)) hg2 (.inl rfl)⟩

theorem ImplWKT_any (T : Nat → Int) (hT : ∀ i, U64 (T i)) (h : Nat) (B : Nat → Prop) (W : World) (k d : Int) (p q : Option Addr) (n cap m c2 : Nat) (f : Nat → Nat) (kids : List Raw)
    (hk : KD B h W (.agg #[.int .i64 k, .int .i64 d, .slice p n cap, .slice q m c2]) (.mk k d n f kids)) (hw : wt (.mk k d n f kids) ≤ 2000) (ht : Tabs T W) :
    Calls Tryz.prog 21 #[.agg #[.int .i64 k, .int .i64 d, .slice p n cap, .slice q m c2]] W fun e w' => e = .returned (.string ⟨(textT T (newT (.mk k d n f kids))).toArray⟩) ∧ W.grownBy w' none :=
  ImplWKT_of T hT h W k d p q n cap m c2 f kids (fun w g => GeoBC h B w _ _ (hk.mono g) hw) (new_ok _ hw) (Nat.le_trans (new_pl _ hw) (by decide)) ht
theorem ImplCT_any (h : Nat) (B : Nat → Prop) (W : World) (k d : Int) (p q : Option Addr) (n cap m c2 : Nat) (f : Nat → Nat) (kids : List Raw)
    (hk : KD B h W (.agg #[.int .i64 k, .int .i64 d, .slice p n cap, .slice q m c2]) (.mk k d n f kids)) (hw : wt (.mk k d n f kids) ≤ 2000) :
    Calls Tryz.prog 20 #[.agg #[.int .i64 k, .int .i64 d, .slice p n cap, .slice q m c2]] W fun e w' => e = .returned (.int .i64 (dimR (newT (.mk k d n f kids)) : Nat)) ∧ W.grownBy w' none :=
  ImplCT_of h W k d p q n cap m c2 f kids (fun w g => GeoBC h B w _ _ (hk.mono g) hw) (new_ok _ hw) (Nat.le_trans (new_pl _ hw) (by decide))
end Go.Proofs.YthcjnadceambgaaGreatDoor
namespace Go.Proofs.YthcjnadceambgaaGreatDoor
open Go.RowKit

/-- A row of geometries as an argument. -/
structure GRow (B : Nat → Prop) (h : Nat) (W : World) (q : Option Addr) (c : Nat) (kids : List Raw) : Prop where
  le : kids.length ≤ c
  most : c ≤ maxLen
  none_ : q = none → c = 0
  at_ : ∀ a, q = some a → ∀ i t, kids[i]? = some t → ∃ c0 c1 c2 c3, KD B h W (.agg #[c0, c1, c2, c3]) t ∧ W.cell? (a.add (i * 4)) = some c0 ∧ W.cell? ⟨(a.add (i * 4)).block, (a.add (i * 4)).off + 1, none⟩ = some c1 ∧ W.cell? ⟨(a.add (i * 4)).block, (a.add (i * 4)).off + 2, none⟩ = some c2 ∧ W.cell? ⟨(a.add (i * 4)).block, (a.add (i * 4)).off + 3, none⟩ = some c3
  blk : ∀ a, q = some a → B a.block
theorem GRow.get {B : Nat → Prop} {h : Nat} {W : World} {q : Option Addr} {c : Nat} {kids : List Raw} (k : GRow B h W q c kids) (w : World) (g : W.grownBy w none) (j : Nat) (hj : j < kids.length) : ∃ t a c0 c1 c2 c3, kids[j]? = some t ∧ q = some a ∧ KD B h w (.agg #[c0, c1, c2, c3]) t ∧ w.cell? (a.add (j * 4)) = some c0 ∧ w.cell? ⟨(a.add (j * 4)).block, (a.add (j * 4)).off + 1, none⟩ = some c1 ∧ w.cell? ⟨(a.add (j * 4)).block, (a.add (j * 4)).off + 2, none⟩ = some c2 ∧ w.cell? ⟨(a.add (j * 4)).block, (a.add (j * 4)).off + 3, none⟩ = some c3 := by
  obtain ⟨a, rfl⟩ : ∃ a, q = some a := by
    cases q with
    | none => have := k.none_ rfl; have := k.le; omega
    | some a => exact ⟨a, rfl⟩
  obtain ⟨c0, c1, c2, c3, k0, k1, k2, k3, k4⟩ := k.at_ a rfl j kids[j] (List.getElem?_eq_getElem hj)
  exact ⟨kids[j], a, c0, c1, c2, c3, List.getElem?_eq_getElem hj, rfl, k0.mono g, g.cell k1 (by simp), g.cell k2 (by simp), g.cell k3 (by simp), g.cell k4 (by simp)⟩

set_option maxRecDepth 100000 in
set_option maxHeartbeats 1000000 in
theorem gSmallRow (B : Nat → Prop) (h : Nat) (W : World) (q : Option Addr) (m c : Nat) (kids : List Raw) (hm : kids.length = m) (hk : GRow B h W q c kids) :
    Calls Tryz.prog 15 #[.slice q m c] W (fun e w' => e = .returned (.bool (decide (wts kids ≤ 2000))) ∧ W.grownBy w' none) := by
  have hmx : m ≤ 9223372036854775807 := by have := hk.le; have := hk.most; unfold maxLen at this; omega
  have HR : Hid (∀ w, W.grownBy w none → ∀ j, j < m → ∃ t a c0 c1 c2 c3, kids[j]? = some t ∧ q = some a ∧ KD B h w (.agg #[c0, c1, c2, c3]) t ∧ w.cell? (a.add (j * 4)) = some c0 ∧ w.cell? ⟨(a.add (j * 4)).block, (a.add (j * 4)).off + 1, none⟩ = some c1 ∧ w.cell? ⟨(a.add (j * 4)).block, (a.add (j * 4)).off + 2, none⟩ = some c2 ∧ w.cell? ⟨(a.add (j * 4)).block, (a.add (j * 4)).off + 3, none⟩ = some c3) := fun w g j hj => hk.get w g j (by omega)
  have HT := Lib.hid (fun j t (hj : kids[j]? = some t) => wts_take_succ kids j t hj)
  have HTk : Hid (∀ j, wts (kids.take j) ≤ wts kids) := fun j => by
    have := wts_append (kids.take j) (kids.drop j)
    rw [List.take_append_drop] at this
    omega
  have HE : Hid (wts (kids.take m) = wts kids) := by rw [← hm, List.take_length]; rfl
  have hw0 : wts (kids.take 0) = 0 := by simp [wts]
  clear hk hm
  go_enter Tryz.func15, Tryz.ntmps15
  go_wp2_with fail
  go_loopw [3, 4] (fun l i wr => ∃ (r : Int) (j : Nat), l = .int .i64 r ∧ i = .int .i64 j ∧ j ≤ m ∧ -1 ≤ r ∧ r ≤ 2000 ∧ W.grownBy wr none ∧ (0 ≤ r → (wts (kids.take j) : Int) + r = 2000) ∧ (r < 0 → 2000 < wts (kids.take j))) (fun _ i _ => m - (intOf i).toNat)
  case atStart => exact ⟨2000, 0, rfl, rfl, by omega, by omega, by omega, gt_refl _ _, fun _ => by rw [hw0]; rfl, fun h => by omega⟩
  case round =>
    obtain ⟨r, j, rfl, rfl, hj, hr1, hr2, hg, hs0, hn0⟩ := hrel
    rename World => wr
    have HS := Lib.hid hs0
    have HN := Lib.hid hn0
    clear hs0 hn0
    by_cases hjm : j < m
    · by_cases hr0 : 0 ≤ r
      · obtain ⟨t, a, c0, c1, c2, c3, hti, rfl, kk, q0, q1, q2, q3⟩ := HR.out wr hg j hjm
        have HTj := Lib.hid (HT.out j t hti)
        have IH := Lib.hid (gWeightD h wr _ t r kk hr2)
        clear hti kk
        go_wp2_with (go_at_call 37; refine IH.out.mono ?_; rintro e w' ⟨r', rfl, hr1', hr2', hn', hp', hg'⟩)
        exact ⟨⟨r', j + 1, rfl, by go_num, by omega, hr1', hr2', gt_trans hg hg' (.inl rfl), fun h0 => by rw [HTj.out]; have := hn' h0; have := HS.out hr0; push_cast; omega, fun h0 => by rw [HTj.out]; have := HS.out hr0; have h9 : ¬ (wt t : Int) ≤ r := (fun h => by (have := hp' h); omega); omega⟩, by simp [intOf]; omega⟩
      · have he : decide (wts kids ≤ 2000) = decide (0 ≤ r) := by
          have h1 := HN.out (by omega)
          have h2 := HTk.out j
          rw [decide_eq_decide]
          exact ⟨fun h => by omega, fun h => by omega⟩
        have HEq := Lib.hid he
        clear he
        go_wp2_with fail
        go_wp2_with fail
        go_ret
        have he2 := HEq.out
        rw [decide_eq_false (show ¬ 0 ≤ r by omega)] at he2
        exact ⟨ret_bool he2.symm, hg⟩
    · obtain rfl : j = m := by omega
      have he : decide (wts kids ≤ 2000) = decide (0 ≤ r) := by
        rw [decide_eq_decide, ← HE.out]
        constructor
        · intro h
          by_cases h0 : 0 ≤ r
          · exact h0
          · have := HN.out (by omega); omega
        · intro h; have := HS.out h; omega
      have HEq := Lib.hid he
      clear he
      go_wp2_with fail
      go_wp2_with fail
      go_ret
      exact ⟨ret_bool HEq.out.symm, hg⟩

set_option maxRecDepth 100000 in
set_option maxHeartbeats 1000000 in
theorem xTag_any (r : Nat) (hr : r < 4) (W : World) : Calls Tryz.prog 22 #[.int .i64 r] W (fun e w' => e = .returned (.string ⟨(tag r).toArray⟩) ∧ W.grownBy w' none) := by
  rcases (by omega : r = 0 ∨ r = 1 ∨ r = 2 ∨ r = 3) with rfl | rfl | rfl | rfl
  all_goals
    go_enter Tryz.func22, Tryz.ntmps22
    go_wp2_with fail
    go_ret
    exact ⟨rfl, World.grownBy_alloc _ _ _⟩

set_option maxRecDepth 100000 in
set_option maxHeartbeats 2000000 in
theorem xJoin_any (q : Option Addr) (m c : Nat) (s : Nat → List UInt8) (hm2 : m ≤ 90000000) (hbk : ∀ k, k ≤ m → (cTo s k).length ≤ 90000000) (W : World) (hq : 0 < m → ∃ a, q = some a) (hc : ∀ a, q = some a → ∀ i, i < m → W.cell? (a.add i) = some (.string ⟨(s i).toArray⟩)) :
    Calls Tryz.prog 23 #[.slice q m c] W (fun e w' => e = .returned (.string ⟨([40] ++ cTo s m ++ [41]).toArray⟩) ∧ W.grownBy w' none) := by
  obtain ⟨S, hS⟩ : ∃ S : Nat → ByteArray, ∀ k, S k = ⟨([40] ++ cTo s k).toArray⟩ := ⟨_, fun _ => rfl⟩
  obtain ⟨U, hU⟩ : ∃ U : Nat → ByteArray, ∀ k, U k = ⟨([40] ++ cTo s k ++ [44]).toArray⟩ := ⟨_, fun _ => rfl⟩
  obtain ⟨X, hX⟩ : ∃ X : Nat → ByteArray, ∀ k, X k = ⟨(s k).toArray⟩ := ⟨_, fun _ => rfl⟩
  obtain ⟨F, hF⟩ : ∃ F : ByteArray, F = ⟨([40] ++ cTo s m ++ [41]).toArray⟩ := ⟨_, rfl⟩
  have HU := Lib.hid (fun k (hk : k < m) => cat_run Tryz.prog ([40] ++ cTo s k) [44] (S k) ⟨#[44]⟩ (U k) (hS k) rfl (hU k) (by have := hbk k (by omega); simp only [List.length_append, List.length_cons, List.length_nil]; omega))
  have hb2 : ∀ k, k < m → (cTo s k).length + (s k).length ≤ 90000000 := fun k hk => by
    have h1 := hbk (k + 1) (by omega)
    unfold cTo at h1
    simp only [List.length_append] at h1
    omega
  have HX := Lib.hid (fun k (hk : k < m) (h0 : 0 < k) => cat_run Tryz.prog ([40] ++ cTo s k ++ [44]) (s k) (U k) (X k) (S (k + 1)) (hU k) (hX k) (by rw [hS]; show ByteArray.mk ([40] ++ (cTo s k ++ (if 0 < k then [44] else []) ++ s k)).toArray = _; rw [if_pos h0]; simp only [List.append_assoc]) (by have := hb2 k hk; simp only [List.length_append, List.length_cons, List.length_nil]; omega))
  have HZ := Lib.hid (fun k (hk : k < m) (h0 : ¬ 0 < k) => cat_run Tryz.prog ([40] ++ cTo s k) (s k) (S k) (X k) (S (k + 1)) (hS k) (hX k) (by rw [hS]; show ByteArray.mk ([40] ++ (cTo s k ++ (if 0 < k then [44] else []) ++ s k)).toArray = _; rw [if_neg h0]; simp only [List.append_assoc, List.nil_append]) (by have := hb2 k hk; simp only [List.length_append, List.length_cons, List.length_nil]; omega))
  have hFin := cat_run Tryz.prog ([40] ++ cTo s m) [41] (S m) ⟨#[41]⟩ F (hS m) rfl hF (by have := hbk m (Nat.le_refl _); simp only [List.length_append, List.length_cons, List.length_nil]; omega)
  have HFin := Lib.hid hFin
  have h0 : S 0 = ⟨#[40]⟩ := by rw [hS]; rfl
  have HC : Hid (∀ a, q = some a → ∀ i, i < m → W.cell? (a.add i) = some (.string (X i))) := fun a ha i hi => by rw [hX]; exact hc a ha i hi
  have HQ := Lib.hid hq
  rw [← hF]
  clear hS hU hX hF hbk hb2 hc hq hFin
  go_enter Tryz.func23, Tryz.ntmps23
  go_wp2_with fail
  go_loopw [3, 8] (fun x i wr => ∃ k : Nat, k ≤ m ∧ i = .int .i64 k ∧ x = .string (S k) ∧ wr = W) (fun _ i _ => m - (intOf i).toNat)
  case atStart => exact ⟨0, by omega, rfl, by rw [h0], rfl⟩
  case round =>
    obtain ⟨k, hk, rfl, rfl, rfl⟩ := hrel
    rename World => W
    by_cases hkn : k < m
    · obtain ⟨a, rfl⟩ := HQ.out (by omega)
      have q := HC.out a rfl k hkn
      by_cases hk0 : 0 < k
      · have eU := HU.out k hkn
        have eX := HX.out k hkn hk0
        have hk0i : (0 : Int) < (k : Int) := by omega
        go_wp2_with fail
        exact ⟨⟨k + 1, by omega, by go_num, rfl, by first | trivial | rfl⟩, by simp [intOf]; omega⟩
      · have eX := HZ.out k hkn hk0
        have hk0i : ¬ (0 : Int) < (k : Int) := by omega
        go_wp2_with fail
        exact ⟨⟨k + 1, by omega, by go_num, rfl, by first | trivial | rfl⟩, by simp [intOf]; omega⟩
    · obtain rfl : k = m := by omega
      have eF := HFin.out
      go_wp2_with fail
      go_wp2_with fail
      go_ret
      exact ⟨rfl, gt_refl _ _⟩

/-! The plain law. -/
theorem plTs_same (T : Nat → Int) (r : Nat) (hr : r < 4) (f : Nat → Nat) (n : Nat) : plTs T r (fF r r f) n = plTs T r f n := by
  rw [funext fun i => fF_same r hr f i]
mutual
theorem text_same (T : Nat → Int) (r : Nat) (hr : r < 4) : ∀ t : Raw, okU r t → textT T (forceT r t) = textT T t ∧ bodyT T (forceT r t) = bodyT T t
  | .mk k d n f kids, h => by
    unfold okU at h
    obtain ⟨rfl, _, _, h3⟩ := h
    have hk := texts_same T r hr (decide (k = 0)) kids h3
    have hw := widN_le r hr
    have e1 : n / widN r * widN r / widN r = n / widN r := Nat.mul_div_cancel _ (by omega)
    unfold forceT textT bodyT
    rw [Int.toNat_natCast, e1, plTs_same T r hr, hk]
    exact ⟨rfl, rfl⟩
theorem texts_same (T : Nat → Int) (r : Nat) (hr : r < 4) (c : Bool) : ∀ ts : List Raw, okUs r ts → bodyTs T c (forceTs r ts) = bodyTs T c ts
  | [], _ => by unfold forceTs; rfl
  | t :: ts, h => by
    unfold okUs at h
    have h1 := text_same T r hr t h.1
    have h2 := texts_same T r hr c ts h.2
    unfold forceTs bodyTs
    rw [h1.1, h1.2, h2]
end
theorem dimsOf_all (r : Nat) (hr : r < 4) : ∀ ts : List Raw, ts ≠ [] → (∀ t ∈ ts, dimR t = r) → dimsOf ts = r
  | [], h, _ => absurd rfl h
  | [t], _, h => by
    unfold dimsOf dimsOf
    rw [h t List.mem_cons_self]
    rcases (by omega : r = 0 ∨ r = 1 ∨ r = 2 ∨ r = 3) with rfl | rfl | rfl | rfl <;> decide
  | t :: s :: ts, _, h => by
    have h1 := dimsOf_all r hr (s :: ts) (by simp) fun u hu => h u (List.mem_cons_of_mem _ hu)
    show dimR t &&& dimsOf (s :: ts) = r
    rw [h1, h t List.mem_cons_self, Nat.and_self]
/-- The text of a collection whose parts are all of one type. -/
theorem parts_text (T : Nat → Int) (r : Nat) (hr : r < 4) (f : Nat → Nat) (kids : List Raw) (hw : wts kids ≤ 2000) (hne : kids ≠ []) (hd : ∀ t ∈ kids, dimR (newT t) = r) :
    textT T (newT (.mk 0 0 0 f kids)) = nameT 0 ++ tag r ++ ([40] ++ cTo (fun i => (kids.map fun t => textT T (newT t)).getD i []) kids.length ++ [41]) := by
  have hne2 : newTs kids ≠ [] := fun e => hne (by have := news_len kids; rw [e] at this; exact List.eq_nil_of_length_eq_zero this.symm)
  have hmem : ∀ m ∈ newTs kids, dimR m = r := fun m hm => by
    obtain ⟨i, hi⟩ := List.getElem?_of_mem hm
    rw [news_get] at hi
    obtain ⟨u, hu, rfl⟩ := Option.map_eq_some_iff.1 hi
    exact hd u (List.mem_of_getElem? hu)
  have hD := dimsOf_all r hr (newTs kids) hne2 hmem
  have e : newT (.mk 0 0 0 f kids) = nodeT 0 0 f (newTs kids) := by
    rw [newT_node _ _ _ _ _ (by decide) (by decide)]
    unfold Acc
    rw [List.take_length, show kindN 0 = 0 by decide, keep0]
    rfl
  obtain ⟨f', e2⟩ := node_one 0 0 f (newTs kids)
  rw [if_neg hne2, if_neg hne2, hD] at e2
  have hl : (forceTs r (newTs kids)).length = kids.length := by rw [forceTs_len, news_len]
  have hpos : 0 < kids.length := by
    rcases Nat.eq_zero_or_pos kids.length with h | h
    · exact absurd (List.eq_nil_of_length_eq_zero h) hne
    · exact h
  rw [e, e2, node_text T 0 r f' _ (by omega), hl]
  have hok := news_okU kids hw
  have hU : okUs r (newTs kids) := by
    have key : ∀ ts : List Raw, (∀ m ∈ ts, okU (dimR m) m ∧ dimR m = r) → okUs r ts := by
      intro ts
      induction ts with
      | nil => intro _; trivial
      | cons t ts ih =>
        intro h
        unfold okUs
        have h1 := h t List.mem_cons_self
        exact ⟨h1.2 ▸ h1.1, ih fun m hm => h m (List.mem_cons_of_mem _ hm)⟩
    exact key _ fun m hm => ⟨(hok m hm).1, hmem m hm⟩
  have hJ : jS T (decide ((0 : Int) = 0)) (forceTs r (newTs kids)) kids.length = cTo (fun i => (kids.map fun t => textT T (newT t)).getD i []) kids.length := by
    unfold jS joinC
    rw [← hl, List.take_length, texts_same T r hr _ _ hU, bodyTs_len]
    rw [forceTs_len]
    refine cTo_congr fun i hi => ?_
    have hb : ∀ ts : List Raw, (bodyTs T (decide ((0 : Int) = 0)) ts) = ts.map fun t => textT T t := by
      intro ts
      induction ts with
      | nil => unfold bodyTs; rfl
      | cons t ts ih => unfold bodyTs; rw [ih]; rfl
    rw [hb]
    simp only [List.getD_eq_getElem?_getD, List.getElem?_map, news_get, Option.map_map]
    rfl
  rw [hJ]
end Go.Proofs.YthcjnadceambgaaGreatDoor
