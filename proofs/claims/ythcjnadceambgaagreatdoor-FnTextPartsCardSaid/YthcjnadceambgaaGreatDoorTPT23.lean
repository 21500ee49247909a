/- The package's texts of points, lines, polygons and several points. -/
import Derived.Test.YthcjnadceambgaaGreatDoorTPT22
namespace Go.Proofs.YthcjnadceambgaaGreatDoor
open Go.RowKit
theorem PgJC (T : Nat → Int) (hT : ∀ i, U64 (T i)) : JC DPg 122 T := PgBody_of DLine.dk DLine.form T (LineIC T hT)

set_option maxRecDepth 100000 in
set_option maxHeartbeats 2000000 in
theorem PointAC (T : Nat → Int) (HJ : JC DPoint 121 T) : AC DPoint 139 T := by
  intro B W v t l base vv hd hok hown hbs hl hB
  have hd0 := hd
  obtain ⟨⟨r, n, f, rfl, hr, hn, hf⟩, hv⟩ := hd
  obtain ⟨fx, fy, fz, fm, eb, hv⟩ : ∃ (fx fy fz fm : Nat) (eb : Bool), v = .agg #[.float .f64 fx, .float .f64 fy, .float .f64 fz, .float .f64 fm, .int .u8 r, .bool eb] := by
    rw [hv, ptR_of hr]; exact ⟨_, _, _, _, _, by unfold Pt.v; rw [ptOf_r]⟩
  rename_i hv0
  clear hv0
  have hl2 : l.length + 16100 * pl (.mk 1 (r : Nat) n f []) ≤ 35000000000000 := hl
  have HLim := Lib.hid hl2
  subst hv
  have htl := tag_len r
  obtain ⟨l0, hl0⟩ := tag_last [80, 79, 73, 78] 84 r hr
  have hnm : nameT 1 = [80, 79, 73, 78, 84] := by decide
  have hnm2 : ([80, 79, 73, 78] : List UInt8) ++ [84] = [80, 79, 73, 78, 84] := rfl
  rw [hnm2] at hl0
  have hHl : (([80, 79, 73, 78, 84] : List UInt8) ++ tag r).length ≤ 30 := by simp only [List.length_append, List.length_cons, List.length_nil]; omega
  have htx := text_bodyC T 84 (by decide) 1 r n f []
  rw [hnm] at htx
  have hbase := hbs.le
  have HO := Lib.hid hown
  have HG := Lib.hid (World.grownBy_alloc W (.cells #[.float .f64 fx, .float .f64 fy, .float .f64 fz, .float .f64 fm, .int .u8 r, .bool eb] 71) none)
  obtain ⟨W1, hW1⟩ : ∃ W1, W1 = W.alloc (.cells #[.float .f64 fx, .float .f64 fy, .float .f64 fz, .float .f64 fm, .int .u8 r, .bool eb] 71) := ⟨_, rfl⟩
  have HW1 := Lib.hid hW1
  have HG1 : W.grownBy W1 none := by rw [hW1]; exact HG.out
  have hs1 : W1.heap.size = W.heap.size + 1 := by rw [hW1]; simp
  have H0 : AppB 5 base W1 vv W1 vv l := AppB.start (own_later hown HG1)
  have HC : Hid (∀ w v' l1, AppB 5 base W1 vv w v' l1 → w.cell? ⟨W.heap.size, 0, none⟩ = some (.float .f64 fx) ∧ w.cell? ⟨W.heap.size, 1, none⟩ = some (.float .f64 fy) ∧ w.cell? ⟨W.heap.size, 2, none⟩ = some (.float .f64 fz) ∧ w.cell? ⟨W.heap.size, 3, none⟩ = some (.float .f64 fm) ∧ w.cell? ⟨W.heap.size, 4, none⟩ = some (.int .u8 r) ∧ w.cell? ⟨W.heap.size, 5, none⟩ = some (.bool eb)) := fun w v' l1 H => by
    have hne : vv.ownBlock ≠ some W.heap.size := fun e => by have := (hown.lt _ e).2; omega
    have key : ∀ i, w.cell? ⟨W.heap.size, i, none⟩ = W1.cell? ⟨W.heap.size, i, none⟩ := fun i => H.cell (a := ⟨W.heap.size, i, none⟩) (by show W.heap.size < _; omega) hne
    simp only [key, hW1]
    simp
  have hob : ∀ b, vv.ownBlock = some b → base ≤ b := fun b e => (hown.lt b e).1
  have HKp : Hid (∀ w v' l1, AppB 5 base W1 vv w v' l1 → Kept B W w) := fun w v' l1 H => (Kept.grown HG1).trans (.grownRow H.grown (fun b e hb => by have := hob b e; have := hB b hb; omega))
  have HBs : Hid (∀ w v' l1, AppB 5 base W1 vv w v' l1 → Bsd T base w) := fun w v' l1 H => (hbs.mono HG1 (fun b e => by cases e)).mono H.grown hob
  have hb1 : base ≤ W1.heap.size := by omega
  have HH := Lib.hid (fun w (h : w.ownsRow base 5 1 vv l.length (Bs l)) (hb : base ≤ w.heap.size) => appendWKTHeader_any [80, 79, 73, 78, 84] r hr (by decide) base vv l w h hb (by omega))
  have HBd : Hid (∀ w v2, Kept B W w → w.ownsRow base 5 1 v2 (l ++ ([80, 79, 73, 78, 84] ++ tag r)).length (Bs (l ++ ([80, 79, 73, 78, 84] ++ tag r))) → Bsd T base w → Calls Tryz.prog 121 #[.agg #[.float .f64 fx, .float .f64 fy, .float .f64 fz, .float .f64 fm, .int .u8 r, .bool eb], v2] w (AppEnd 5 base w v2 (l ++ ([80, 79, 73, 78, 84] ++ tag r) ++ bodyC T (if r = 0 then 84 else 32) (.mk 1 (r : Nat) n f [])))) := fun w v2 g ho hbs => by
    have e : l ++ ([80, 79, 73, 78, 84] ++ tag r) = (l ++ l0) ++ [if r = 0 then 84 else 32] := by rw [hl0]; simp only [List.append_assoc]
    have hll : (l ++ ([80, 79, 73, 78, 84] ++ tag r)).length + 16100 * pl (.mk 1 (r : Nat) n f []) ≤ 35000000000100 := by rw [List.length_append]; have := (HLim.out); omega
    rw [e] at ho hll ⊢
    exact HJ B w _ _ _ _ base v2 (DPoint.dk.keep g hd0) hok ho hbs hll hB
  have hfin : Hid (∀ w' v', AppB 5 base W1 vv w' v' (l ++ ([80, 79, 73, 78, 84] ++ tag r) ++ bodyC T (if r = 0 then 84 else 32) (.mk 1 (r : Nat) n f [])) → AppEnd 5 base W vv (l ++ textT T (.mk 1 (r : Nat) n f [])) (.returned v') w') := fun w' v' H => by
    refine ⟨v', rfl, AppB.later HO.out HG1 ?_⟩
    rw [htx]
    simpa only [List.append_assoc] using H
  generalize bodyC T (if r = 0 then 84 else 32) (.mk 1 (r : Nat) n f []) = bd at HBd hfin
  clear hd0 hok hown hbs hl hl2 HLim htx hl0 hHl htl hW1 HJ
  have hsf := run_store_flt Tryz.prog
  have H1 := H0
  go_enter Tryz.func139, Tryz.ntmps139
  go_wp2_with (first
    | (go_at_call 116; rw [← HW1.out]; refine (HH.out _ H1.own (H1.based hb1)).mono ?_; rintro e w3 ⟨v3, rfl, H2⟩; have H := H1.trans H2; obtain ⟨k0, k1, k2, k3, k4, k5⟩ := HC.out _ _ _ H)
    | (go_at_call 121; refine (HBd.out _ _ (HKp.out _ _ _ H) H.own (HBs.out _ _ _ H)).mono ?_; rintro e w4 ⟨v4, rfl, H4⟩; have H5 := H.trans H4))
  go_ret
  exact hfin.out _ _ H5

set_option maxRecDepth 100000 in
set_option maxHeartbeats 2000000 in
theorem LineStringAC (T : Nat → Int) (HJ : JC DLine 117 T) : AC DLine 57 T := by
  intro B W v t l base vv hd hok hown hbs hl hB
  have hd0 := hd
  obtain ⟨r, n, f, p, rfl, hr, hm, hv, hf, hb⟩ := hd
  obtain ⟨ep, en, ec, hv⟩ : ∃ (ep : Option Addr) (en ec : Nat), v = .agg #[.int .u8 r, .slice ep en ec] := ⟨_, _, _, hv⟩
  have hl2 : l.length + 16100 * pl (.mk 2 (r : Nat) n f []) ≤ 35000000000000 := hl
  have HLim := Lib.hid hl2
  subst hv
  have htl := tag_len r
  obtain ⟨l0, hl0⟩ := tag_last [76, 73, 78, 69, 83, 84, 82, 73, 78] 71 r hr
  have hnm : nameT 2 = [76, 73, 78, 69, 83, 84, 82, 73, 78, 71] := by decide
  have hnm2 : ([76, 73, 78, 69, 83, 84, 82, 73, 78] : List UInt8) ++ [71] = [76, 73, 78, 69, 83, 84, 82, 73, 78, 71] := rfl
  rw [hnm2] at hl0
  have hHl : (([76, 73, 78, 69, 83, 84, 82, 73, 78, 71] : List UInt8) ++ tag r).length ≤ 30 := by simp only [List.length_append, List.length_cons, List.length_nil]; omega
  have htx := text_bodyC T 71 (by decide) 2 r n f []
  rw [hnm] at htx
  have hbase := hbs.le
  have HO := Lib.hid hown
  have HG := Lib.hid (World.grownBy_alloc W (.cells #[.int .u8 r, .slice ep en ec] 45) none)
  obtain ⟨W1, hW1⟩ : ∃ W1, W1 = W.alloc (.cells #[.int .u8 r, .slice ep en ec] 45) := ⟨_, rfl⟩
  have HW1 := Lib.hid hW1
  have HG1 : W.grownBy W1 none := by rw [hW1]; exact HG.out
  have hs1 : W1.heap.size = W.heap.size + 1 := by rw [hW1]; simp
  have H0 : AppB 5 base W1 vv W1 vv l := AppB.start (own_later hown HG1)
  have HC : Hid (∀ w v' l1, AppB 5 base W1 vv w v' l1 → w.cell? ⟨W.heap.size, 0, none⟩ = some (.int .u8 r) ∧ w.cell? ⟨W.heap.size, 1, none⟩ = some (.slice ep en ec)) := fun w v' l1 H => by
    have hne : vv.ownBlock ≠ some W.heap.size := fun e => by have := (hown.lt _ e).2; omega
    have key : ∀ i, w.cell? ⟨W.heap.size, i, none⟩ = W1.cell? ⟨W.heap.size, i, none⟩ := fun i => H.cell (a := ⟨W.heap.size, i, none⟩) (by show W.heap.size < _; omega) hne
    simp only [key, hW1]
    simp
  have hob : ∀ b, vv.ownBlock = some b → base ≤ b := fun b e => (hown.lt b e).1
  have HKp : Hid (∀ w v' l1, AppB 5 base W1 vv w v' l1 → Kept B W w) := fun w v' l1 H => (Kept.grown HG1).trans (.grownRow H.grown (fun b e hb => by have := hob b e; have := hB b hb; omega))
  have HBs : Hid (∀ w v' l1, AppB 5 base W1 vv w v' l1 → Bsd T base w) := fun w v' l1 H => (hbs.mono HG1 (fun b e => by cases e)).mono H.grown hob
  have hb1 : base ≤ W1.heap.size := by omega
  have HH := Lib.hid (fun w (h : w.ownsRow base 5 1 vv l.length (Bs l)) (hb : base ≤ w.heap.size) => appendWKTHeader_any [76, 73, 78, 69, 83, 84, 82, 73, 78, 71] r hr (by decide) base vv l w h hb (by omega))
  have HBd : Hid (∀ w v2, Kept B W w → w.ownsRow base 5 1 v2 (l ++ ([76, 73, 78, 69, 83, 84, 82, 73, 78, 71] ++ tag r)).length (Bs (l ++ ([76, 73, 78, 69, 83, 84, 82, 73, 78, 71] ++ tag r))) → Bsd T base w → Calls Tryz.prog 117 #[.agg #[.int .u8 r, .slice ep en ec], v2] w (AppEnd 5 base w v2 (l ++ ([76, 73, 78, 69, 83, 84, 82, 73, 78, 71] ++ tag r) ++ bodyC T (if r = 0 then 71 else 32) (.mk 2 (r : Nat) n f [])))) := fun w v2 g ho hbs => by
    have e : l ++ ([76, 73, 78, 69, 83, 84, 82, 73, 78, 71] ++ tag r) = (l ++ l0) ++ [if r = 0 then 71 else 32] := by rw [hl0]; simp only [List.append_assoc]
    have hll : (l ++ ([76, 73, 78, 69, 83, 84, 82, 73, 78, 71] ++ tag r)).length + 16100 * pl (.mk 2 (r : Nat) n f []) ≤ 35000000000100 := by rw [List.length_append]; have := (HLim.out); omega
    rw [e] at ho hll ⊢
    exact HJ B w _ _ _ _ base v2 (DLine.dk.keep g hd0) hok ho hbs hll hB
  have HCT := Lib.hid (fun w => LineCT_any r (.slice ep en ec) ⟨_, _, _, rfl⟩ w)
  have hfin : Hid (∀ w' v', AppB 5 base W1 vv w' v' (l ++ ([76, 73, 78, 69, 83, 84, 82, 73, 78, 71] ++ tag r) ++ bodyC T (if r = 0 then 71 else 32) (.mk 2 (r : Nat) n f [])) → AppEnd 5 base W vv (l ++ textT T (.mk 2 (r : Nat) n f [])) (.returned v') w') := fun w' v' H => by
    refine ⟨v', rfl, AppB.later HO.out HG1 ?_⟩
    rw [htx]
    simpa only [List.append_assoc] using H
  generalize bodyC T (if r = 0 then 71 else 32) (.mk 2 (r : Nat) n f []) = bd at HBd hfin
  clear hd0 hok hown hbs hl hl2 HLim htx hl0 hHl htl hW1 HJ
  go_enter Tryz.func57, Tryz.ntmps57
  go_wp2_with (first
    | (go_at_call 100; rw [← HW1.out]; refine (HCT.out _).mono ?_; rintro e w2 ⟨rfl, hg⟩; have H1 := H0.beside hg; obtain ⟨k0, k1⟩ := HC.out _ _ _ H1)
    | (go_at_call 116; refine (HH.out _ H1.own (H1.based hb1)).mono ?_; rintro e w3 ⟨v3, rfl, H2⟩; have H := H1.trans H2; obtain ⟨k0, k1⟩ := HC.out _ _ _ H)
    | (go_at_call 117; refine (HBd.out _ _ (HKp.out _ _ _ H) H.own (HBs.out _ _ _ H)).mono ?_; rintro e w4 ⟨v4, rfl, H4⟩; have H5 := H.trans H4))
  go_ret
  exact hfin.out _ _ H5

set_option maxRecDepth 100000 in
set_option maxHeartbeats 2000000 in
theorem PolygonAC (T : Nat → Int) (HJ : JC DPg 122 T) : AC DPg 140 T := by
  intro B W v t l base vv hd hok hown hbs hl hB
  have hd0 := hd
  obtain ⟨r, f, kids, p, c, rfl, hr, hv, hc1, hc2, hrow⟩ := hd
  obtain ⟨ep, en, ec, hv⟩ : ∃ (ep : Option Addr) (en ec : Nat), v = .agg #[.slice ep en ec, .int .u8 r] := ⟨_, _, _, hv⟩
  have hl2 : l.length + 16100 * pl (.mk 3 (r : Nat) 0 f kids) ≤ 35000000000000 := hl
  have HLim := Lib.hid hl2
  subst hv
  have htl := tag_len r
  obtain ⟨l0, hl0⟩ := tag_last [80, 79, 76, 89, 71, 79] 78 r hr
  have hnm : nameT 3 = [80, 79, 76, 89, 71, 79, 78] := by decide
  have hnm2 : ([80, 79, 76, 89, 71, 79] : List UInt8) ++ [78] = [80, 79, 76, 89, 71, 79, 78] := rfl
  rw [hnm2] at hl0
  have hHl : (([80, 79, 76, 89, 71, 79, 78] : List UInt8) ++ tag r).length ≤ 30 := by simp only [List.length_append, List.length_cons, List.length_nil]; omega
  have htx := text_bodyC T 78 (by decide) 3 r 0 f kids
  rw [hnm] at htx
  have hbase := hbs.le
  have HO := Lib.hid hown
  have HG := Lib.hid (World.grownBy_alloc W (.cells #[.slice ep en ec, .int .u8 r] 76) none)
  obtain ⟨W1, hW1⟩ : ∃ W1, W1 = W.alloc (.cells #[.slice ep en ec, .int .u8 r] 76) := ⟨_, rfl⟩
  have HW1 := Lib.hid hW1
  have HG1 : W.grownBy W1 none := by rw [hW1]; exact HG.out
  have hs1 : W1.heap.size = W.heap.size + 1 := by rw [hW1]; simp
  have H0 : AppB 5 base W1 vv W1 vv l := AppB.start (own_later hown HG1)
  have HC : Hid (∀ w v' l1, AppB 5 base W1 vv w v' l1 → w.cell? ⟨W.heap.size, 0, none⟩ = some (.slice ep en ec) ∧ w.cell? ⟨W.heap.size, 1, none⟩ = some (.int .u8 r)) := fun w v' l1 H => by
    have hne : vv.ownBlock ≠ some W.heap.size := fun e => by have := (hown.lt _ e).2; omega
    have key : ∀ i, w.cell? ⟨W.heap.size, i, none⟩ = W1.cell? ⟨W.heap.size, i, none⟩ := fun i => H.cell (a := ⟨W.heap.size, i, none⟩) (by show W.heap.size < _; omega) hne
    simp only [key, hW1]
    simp
  have hob : ∀ b, vv.ownBlock = some b → base ≤ b := fun b e => (hown.lt b e).1
  have HKp : Hid (∀ w v' l1, AppB 5 base W1 vv w v' l1 → Kept B W w) := fun w v' l1 H => (Kept.grown HG1).trans (.grownRow H.grown (fun b e hb => by have := hob b e; have := hB b hb; omega))
  have HBs : Hid (∀ w v' l1, AppB 5 base W1 vv w v' l1 → Bsd T base w) := fun w v' l1 H => (hbs.mono HG1 (fun b e => by cases e)).mono H.grown hob
  have hb1 : base ≤ W1.heap.size := by omega
  have HH := Lib.hid (fun w (h : w.ownsRow base 5 1 vv l.length (Bs l)) (hb : base ≤ w.heap.size) => appendWKTHeader_any [80, 79, 76, 89, 71, 79, 78] r hr (by decide) base vv l w h hb (by omega))
  have HBd : Hid (∀ w v2, Kept B W w → w.ownsRow base 5 1 v2 (l ++ ([80, 79, 76, 89, 71, 79, 78] ++ tag r)).length (Bs (l ++ ([80, 79, 76, 89, 71, 79, 78] ++ tag r))) → Bsd T base w → Calls Tryz.prog 122 #[.agg #[.slice ep en ec, .int .u8 r], v2] w (AppEnd 5 base w v2 (l ++ ([80, 79, 76, 89, 71, 79, 78] ++ tag r) ++ bodyC T (if r = 0 then 78 else 32) (.mk 3 (r : Nat) 0 f kids)))) := fun w v2 g ho hbs => by
    have e : l ++ ([80, 79, 76, 89, 71, 79, 78] ++ tag r) = (l ++ l0) ++ [if r = 0 then 78 else 32] := by rw [hl0]; simp only [List.append_assoc]
    have hll : (l ++ ([80, 79, 76, 89, 71, 79, 78] ++ tag r)).length + 16100 * pl (.mk 3 (r : Nat) 0 f kids) ≤ 35000000000100 := by rw [List.length_append]; have := (HLim.out); omega
    rw [e] at ho hll ⊢
    exact HJ B w _ _ _ _ base v2 (DPg.dk.keep g hd0) hok ho hbs hll hB
  have hfin : Hid (∀ w' v', AppB 5 base W1 vv w' v' (l ++ ([80, 79, 76, 89, 71, 79, 78] ++ tag r) ++ bodyC T (if r = 0 then 78 else 32) (.mk 3 (r : Nat) 0 f kids)) → AppEnd 5 base W vv (l ++ textT T (.mk 3 (r : Nat) 0 f kids)) (.returned v') w') := fun w' v' H => by
    refine ⟨v', rfl, AppB.later HO.out HG1 ?_⟩
    rw [htx]
    simpa only [List.append_assoc] using H
  generalize bodyC T (if r = 0 then 78 else 32) (.mk 3 (r : Nat) 0 f kids) = bd at HBd hfin
  clear hd0 hok hown hbs hl hl2 HLim htx hl0 hHl htl hW1 HJ
  have H1 := H0
  go_enter Tryz.func140, Tryz.ntmps140
  go_wp2_with (first
    | (go_at_call 116; rw [← HW1.out]; refine (HH.out _ H1.own (H1.based hb1)).mono ?_; rintro e w3 ⟨v3, rfl, H2⟩; have H := H1.trans H2; obtain ⟨k0, k1⟩ := HC.out _ _ _ H)
    | (go_at_call 122; refine (HBd.out _ _ (HKp.out _ _ _ H) H.own (HBs.out _ _ _ H)).mono ?_; rintro e w4 ⟨v4, rfl, H4⟩; have H5 := H.trans H4))
  go_ret
  exact hfin.out _ _ H5

theorem pt_bodyC (T : Nat → Int) (c : UInt8) (s : Raw) (h : PtT s) : ptB T c (ptR s) = bodyC T c s := by
  obtain ⟨r, n, f, rfl, hr, hn, hf⟩ := h
  have hw := widN_le r hr
  rw [ptR_of hr, bodyC_eq, Int.toNat_natCast]
  have e0 : bodyTs T (decide ((1 : Int) = 0)) [] = [] := by unfold bodyTs; rfl
  rw [e0, List.append_nil]
  rcases hn with rfl | rfl
  · have e1 : ptOf r 0 f = ptE r := by unfold ptOf; rw [if_pos (Nat.zero_div _)]
    rw [e1, plTs_zero, if_pos rfl]
    unfold ptB
    rw [if_neg (by simp [ptE])]
  · have e2 : ptOf r (widN r) f = ⟨plX r f 0, plY r f 0, plZ r f 0, plM r f 0, r, true⟩ := by unfold ptOf; rw [if_neg (by rw [Nat.div_self (by omega)]; omega)]
    have e3 : plTs T r f (widN r / widN r) = [wktPl T (plX r f 0) (plY r f 0) (plZ r f 0) (plM r f 0) r] := by rw [Nat.div_self (by omega)]; simp [plTs]
    rw [e2, e3, if_neg (by simp)]
    unfold wrapP ptB
    rw [if_pos rfl, if_neg (by simp), joinC_one]
theorem PointJC (T : Nat → Int) (hT : ∀ i, U64 (T i)) : JC DPoint 121 T := by
  intro B W v t l' c base vv ⟨ht, hv⟩ hok hown hbs hl hB
  subst hv
  have hpl := bodyT_len T t
  rw [← pt_bodyC T c t ht]
  exact PtBody_any T hT _ _ _ _ _ _ ht.ok l' c base vv _ rfl W hown hbs.le (by omega) hbs.ht hbs.g3 hbs.g2
set_option maxRecDepth 100000 in
set_option maxHeartbeats 4000000 in
theorem MultiPointAC (T : Nat → Int) (hT : ∀ i, U64 (T i)) : AC DMpt 64 T := by
  intro B W v t l base vv hd hok hown hbs hl hB
  obtain ⟨r, f, kids, p, c, rfl, hr, hpt, rfl, hpr, hpb⟩ := hd
  obtain ⟨n, hn⟩ : ∃ n, kids.length = n := ⟨_, rfl⟩
  have hn2 : n ≤ 2000 := by rw [← hn]; unfold okT at hok; exact hok.2.1
  have hoks : okTs kids := by unfold okT at hok; exact hok.2.2
  rw [pl_node0] at hl
  have hbase := hbs.le
  have HO := Lib.hid hown
  have HG := Lib.hid (World.grownBy_alloc W (.cells #[.slice p kids.length c, .int .u8 r] 53) none)
  rw [hn] at HG ⊢
  obtain ⟨W1, hW1⟩ : ∃ W1, W1 = W.alloc (.cells #[.slice p n c, .int .u8 r] 53) := ⟨_, rfl⟩
  have HW1 := Lib.hid hW1
  have HG1 : W.grownBy W1 none := by rw [hW1]; exact HG.out
  have hs1 : W1.heap.size = W.heap.size + 1 := by rw [hW1]; simp
  have H0 : AppB 5 base W1 vv W1 vv l := AppB.start (own_later hown HG1)
  have HC : Hid (∀ w v' l1, AppB 5 base W1 vv w v' l1 → w.cell? ⟨W.heap.size, 0, none⟩ = some (.slice p n c) ∧ w.cell? ⟨W.heap.size, 1, none⟩ = some (.int .u8 r)) := fun w v' l1 H => by
    have hne : vv.ownBlock ≠ some W.heap.size := fun e => by have := (hown.lt _ e).2; omega
    exact ⟨(H.cell (a := ⟨W.heap.size, 0, none⟩) (by show W.heap.size < _; omega) hne).trans (by rw [hW1]; simp), (H.cell (a := ⟨W.heap.size, 1, none⟩) (by show W.heap.size < _; omega) hne).trans (by rw [hW1]; simp)⟩
  have hob : ∀ b, vv.ownBlock = some b → base ≤ b := fun b e => (hown.lt b e).1
  have HKp : Hid (∀ w v' l1, AppB 5 base W1 vv w v' l1 → Kept B W w) := fun w v' l1 H => (Kept.grown HG1).trans (.grownRow H.grown (fun b e hb => by have := hob b e; have := hB b hb; omega))
  have HBs : Hid (∀ w v' l1, AppB 5 base W1 vv w v' l1 → Bsd T base w) := fun w v' l1 H => (hbs.mono HG1 (fun b e => by cases e)).mono H.grown hob
  have hb1 : base ≤ W1.heap.size := by omega
  obtain ⟨P, hP⟩ : ∃ P, P = 16100 * pls kids := ⟨_, rfl⟩
  obtain ⟨S, hS⟩ : ∃ S : Nat → List UInt8, S = jS T false kids := ⟨_, rfl⟩
  have HRow : Hid (∀ w, Kept B W w → ∀ k, k < n → ∃ t a, kids[k]? = some t ∧ p = some a ∧ w.cell? (a.add (k * 6)) = some (.float .f64 (ptR t).x) ∧ w.cell? ⟨(a.add (k * 6)).block, (a.add (k * 6)).off + 1, none⟩ = some (.float .f64 (ptR t).y) ∧ w.cell? ⟨(a.add (k * 6)).block, (a.add (k * 6)).off + 2, none⟩ = some (.float .f64 (ptR t).z) ∧ w.cell? ⟨(a.add (k * 6)).block, (a.add (k * 6)).off + 3, none⟩ = some (.float .f64 (ptR t).m) ∧ w.cell? ⟨(a.add (k * 6)).block, (a.add (k * 6)).off + 4, none⟩ = some (.int .u8 (ptR t).r) ∧ w.cell? ⟨(a.add (k * 6)).block, (a.add (k * 6)).off + 5, none⟩ = some (.bool (ptR t).b) ∧ PtT t ∧ (S k).length + 16100 * pl t ≤ P ∧ S (k + 1) = S k ++ (if 0 < k then [44] else []) ++ itemT T false t) := fun w g k hk => by
    have hpr2 := hpr.keep g (by rw [List.length_map]; exact hpb)
    have hi : kids[k]? = some (kids[k]'(by omega)) := List.getElem?_eq_getElem (by omega)
    obtain ⟨a, ha⟩ := hpr2.some_ (by rw [List.length_map]; omega)
    obtain ⟨q0, q1, q2, q3, q4, q5⟩ := hpr2.at_ a ha k (ptR (kids[k]'(by omega))) (by rw [List.getElem?_map, hi]; rfl)
    refine ⟨_, a, hi, ha, q0, q1, q2, q3, q4, q5, hpt _ (List.mem_of_getElem? hi), ?_, by rw [hS]; exact jS_succ T false kids k _ hi⟩
    have h3 := jS_len T false kids k
    have h4 := pls_tk kids k _ hi
    have h5 := pls_tk_le kids (k + 1)
    rw [hS, hP]
    omega
  have HIt : Hid (∀ w l1 cc v' k t, kids[k]? = some t → PtT t → SepC cc → w.ownsRow base 5 1 v' (l1 ++ [cc]).length (Bs (l1 ++ [cc])) → Bsd T base w → (l1 ++ [cc]).length + 16100 * pl t ≤ 35000000000000 → Calls Tryz.prog 121 #[(ptR t).v, v'] w (AppEnd 5 base w v' (l1 ++ [cc] ++ itemT T false t))) := fun w l1 cc v' k t hi hd hc ho hbs hl => (PointJC T hT).ic B w _ t l1 cc base v' ⟨hd, rfl⟩ (okTs_mem hoks hi) hc ho hbs hl hB
  have HSl : Hid (∀ k, (S k).length ≤ P) := fun k => by
    have h3 := jS_len T false kids k
    have h5 := pls_tk_le kids k
    rw [hS, hP]; omega
  have hSn := HSl.out n
  have hS0 : S 0 = [] := by rw [hS]; exact jS_zero T false kids
  have HCT := Lib.hid (fun w => MPCT_any r n c p w)
  have htl := tag_len r
  obtain ⟨l0, hl0⟩ := tag_last [77, 85, 76, 84, 73, 80, 79, 73, 78] 84 r hr
  have hnm : nameT 4 = [77, 85, 76, 84, 73, 80, 79, 73, 78, 84] := by decide
  have hnm2 : ([77, 85, 76, 84, 73, 80, 79, 73, 78] : List UInt8) ++ [84] = [77, 85, 76, 84, 73, 80, 79, 73, 78, 84] := rfl
  rw [hnm2] at hl0
  have hHl : (([77, 85, 76, 84, 73, 80, 79, 73, 78, 84] : List UInt8) ++ tag r).length ≤ 30 := by simp only [List.length_append, List.length_cons, List.length_nil]; omega
  have HH := Lib.hid (fun w (h : w.ownsRow base 5 1 vv l.length (Bs l)) (hb : base ≤ w.heap.size) => appendWKTHeader_any [77, 85, 76, 84, 73, 80, 79, 73, 78, 84] r hr (by decide) base vv l w h hb (by omega))
  have HE0 := Lib.hid (fun w v' (h : w.ownsRow base 5 1 v' (l ++ ([77, 85, 76, 84, 73, 80, 79, 73, 78, 84] ++ tag r)).length (Bs (l ++ ([77, 85, 76, 84, 73, 80, 79, 73, 78, 84] ++ tag r)))) (hb : base ≤ w.heap.size) => appendWKTEmpty_any (l ++ l0) (if r = 0 then (84 : UInt8) else 32) base v' (l ++ ([77, 85, 76, 84, 73, 80, 79, 73, 78, 84] ++ tag r)) (by rw [hl0]; simp) w h hb (by rw [List.length_append]; omega))
  by_cases hn0 : n = 0
  · have hkn : kids = [] := List.eq_nil_of_length_eq_zero (by omega)
    have hfin : Hid (∀ w' v', AppB 5 base W1 vv w' v' (l ++ ([77, 85, 76, 84, 73, 80, 79, 73, 78, 84] ++ tag r) ++ wE (if r = 0 then (84 : UInt8) else 32)) → AppEnd 5 base W vv (l ++ textT T (.mk 4 (r : Nat) 0 f kids)) (.returned v') w') := fun w' v' H => by
      refine ⟨v', rfl, AppB.later HO.out HG1 ?_⟩
      rw [hkn, node_text0, hnm]
      have e : wE (if r = 0 then (84 : UInt8) else 32) = (if r = 0 then 32 :: EMPTY else EMPTY) := by
        by_cases h : r = 0
        · rw [if_pos h, if_pos h]; decide
        · rw [if_neg h, if_neg h]; decide
      rw [e] at H
      simpa only [List.append_assoc] using H
    have hb : ((n : Int) == 0) = true := by rw [hn0]; rfl
    generalize wE (if r = 0 then (84 : UInt8) else 32) = we at HE0 hfin
    clear hpr hpb hown hbs hok hoks hS hP hl0 htl hkn hHl hnm hn0 HIt HRow hSn hS0 hpt
    go_enter Tryz.func64, Tryz.ntmps64
    go_wp2_with (first
      | (go_at_call 104; rw [← HW1.out]; refine (HCT.out _).mono ?_; rintro e w2 ⟨rfl, hg⟩; have H1 := H0.beside hg; obtain ⟨k0, k1⟩ := HC.out _ _ _ H1)
      | (go_at_call 116; refine (HH.out _ H1.own (H1.based hb1)).mono ?_; rintro e w3 ⟨v3, rfl, H2⟩; have H := H1.trans H2; clear k0 k1; obtain ⟨k0, k1⟩ := HC.out _ _ _ H)
      | (go_at_call 120; refine (HE0.out _ _ H.own (H.based hb1)).mono ?_; rintro e w4 ⟨v4, rfl, H3⟩; have H4 := H.trans H3))
    go_ret
    exact hfin.out _ _ H4
  · have hb : ((n : Int) == 0) = false := by rw [beq_eq_false_iff_ne]; omega
    obtain ⟨HD, hHD⟩ : ∃ HD, HD = l ++ ([77, 85, 76, 84, 73, 80, 79, 73, 78, 84] ++ tag r) := ⟨_, rfl⟩
    have hHDl : HD.length ≤ l.length + 30 := by rw [hHD, List.length_append]; omega
    have hfin : Hid (∀ w' v', AppB 5 base W1 vv w' v' (HD ++ [40] ++ S n ++ [41]) → AppEnd 5 base W vv (l ++ textT T (.mk 4 (r : Nat) 0 f kids)) (.returned v') w') := fun w' v' H => by
      refine ⟨v', rfl, AppB.later HO.out HG1 ?_⟩
      rw [node_text T 4 r f kids (by omega), hnm, hn, show decide ((4 : Int) = 0) = false from rfl, ← hS]
      rw [hHD] at H
      simpa only [List.append_assoc] using H
    rw [← hHD] at HH
    have HCl := Lib.hid hl
    clear hpr hpb hown hbs hok hoks hS hl0 htl hHl hnm HE0 hHD hpt
    have hPl : l.length + P + 16100 ≤ 35000000000000 := by have := HCl.out; omega
    clear hP hl
    have hsf := run_store_flt Tryz.prog
    go_enter Tryz.func64, Tryz.ntmps64
    go_wp2_with (first
      | (go_at_call 104; rw [← HW1.out]; refine (HCT.out _).mono ?_; rintro e w2 ⟨rfl, hg⟩; have H1 := H0.beside hg; obtain ⟨k0, k1⟩ := HC.out _ _ _ H1)
      | (go_at_call 116; refine (HH.out _ H1.own (H1.based hb1)).mono ?_; rintro e w3 ⟨v3, rfl, H2⟩; have H := H1.trans H2; clear k0 k1; obtain ⟨k0, k1⟩ := HC.out _ _ _ H)
      | (at_builtin; refine app_byte rfl _ _ _ rfl Tryz.underlying33 infoB H rfl _ 40 rfl rfl (by first | rfl | simp) hb1 (by (try simp only [List.length_append, List.length_cons, List.length_nil]); omega) ?_; intro v1 w1 H1; clear H k0 k1; have H := H1; clear H1; obtain ⟨k0, k1⟩ := HC.out _ _ _ H))
    go_loopw [1, 23] (fun x i wr => ∃ k : Nat, k ≤ n ∧ i = .int .i64 k ∧ AppB 5 base W1 vv wr x (HD ++ [40] ++ S k)) (fun _ i _ => n - (intOf i).toNat)
    case atStart => exact ⟨0, by omega, rfl, by rw [hS0, List.append_nil]; exact H⟩
    case round =>
      clear H k0 k1
      obtain ⟨k, hk, rfl, H⟩ := hrel
      rename World => wr
      by_cases hkL : k < n
      · obtain ⟨t, a, hti, rfl, q0, q1, q2, q3, q4, q5, hd, hpl, hsc⟩ := HRow.out wr (HKp.out _ _ _ H) k hkL
        have HI0 := fun w l1 cc v' hc ho hbs hl => HIt.out w l1 cc v' k t hti hd hc ho hbs hl
        have HSc := Lib.hid hsc
        generalize itemT T false t = it at HI0 HSc
        generalize pl t = plt at HI0 hpl
        generalize ptR t = u at HI0 q0 q1 q2 q3 q4 q5
        obtain ⟨tx, ty, tz, tm, tr, tb⟩ := u
        have HI1 : Hid (∀ (w : World) l1 cc v', SepC cc → w.ownsRow base 5 1 v' (l1 ++ [cc]).length (Bs (l1 ++ [cc])) → Bsd T base w → (l1 ++ [cc]).length + 16100 * plt ≤ 35000000000000 → Calls Tryz.prog 121 #[.agg #[.float .f64 tx, .float .f64 ty, .float .f64 tz, .float .f64 tm, .int .u8 tr, .bool tb], v'] w (AppEnd 5 base w v' (l1 ++ [cc] ++ it))) := HI0
        clear hti hd hsc HI0
        by_cases hk0 : 0 < k
        · have HS1 : Hid (S (k + 1) = S k ++ [44] ++ it) := by rw [HSc.out, if_pos hk0]; rfl
          have hk0i : (0 : Int) < (k : Int) := by omega
          have hlt := H.own.lt
          go_wp2_with (first
            | (at_builtin; refine app_byte rfl _ _ _ rfl Tryz.underlying33 infoB (AppB.start (H.own.alloc _)) rfl _ 44 rfl rfl (by first | rfl | simp) (by have := H.based hb1; simp; omega) (by (try simp only [List.length_append, List.length_cons, List.length_nil]); omega) ?_; intro v1 w1 H1; have z0 : w1.cell? ⟨wr.heap.size, 0, none⟩ = some (.float .f64 tx) := by { rw [H1.cell (by simp) (fun e => Nat.lt_irrefl wr.heap.size (hlt _ e).2)]; simp }; have z1 : w1.cell? ⟨wr.heap.size, 1, none⟩ = some (.float .f64 ty) := by { rw [H1.cell (by simp) (fun e => Nat.lt_irrefl wr.heap.size (hlt _ e).2)]; simp }; have z2 : w1.cell? ⟨wr.heap.size, 2, none⟩ = some (.float .f64 tz) := by { rw [H1.cell (by simp) (fun e => Nat.lt_irrefl wr.heap.size (hlt _ e).2)]; simp }; have z3 : w1.cell? ⟨wr.heap.size, 3, none⟩ = some (.float .f64 tm) := by { rw [H1.cell (by simp) (fun e => Nat.lt_irrefl wr.heap.size (hlt _ e).2)]; simp }; have z4 : w1.cell? ⟨wr.heap.size, 4, none⟩ = some (.int .u8 tr) := by { rw [H1.cell (by simp) (fun e => Nat.lt_irrefl wr.heap.size (hlt _ e).2)]; simp }; have z5 : w1.cell? ⟨wr.heap.size, 5, none⟩ = some (.bool tb) := by { rw [H1.cell (by simp) (fun e => Nat.lt_irrefl wr.heap.size (hlt _ e).2)]; simp }; have H2 := (H.beside (World.grownBy_alloc _ _ _)).trans H1; clear H H1; have H := H2; clear H2)
            | (go_at_call 121; refine (HI1.out _ _ 44 _ (.inr (.inl rfl)) H.own (HBs.out _ _ _ H) (by (try simp only [List.length_append, List.length_cons, List.length_nil]); omega)).mono ?_; rintro e w' ⟨v', rfl, H'⟩; have H1 := H.trans H'; clear H H'; have H := H1; clear H1))
          exact ⟨⟨k + 1, by omega, by go_num, by rw [HS1.out]; simpa only [List.append_assoc] using H⟩, by simp [intOf]; omega⟩
        · have hk00 : k = 0 := by omega
          have hSk : S k = [] := by rw [hk00]; exact hS0
          have HS1 : Hid (S (k + 1) = it) := by rw [HSc.out, if_neg hk0, hSk]; rfl
          rw [hSk, List.append_nil] at H
          have hk0i : ¬ (0 : Int) < (k : Int) := by omega
          clear hk00 hSk
          go_wp2_with (first
            | (go_at_call 121; refine (HI1.out _ _ 40 _ (.inl rfl) (H.beside (World.grownBy_alloc _ _ _)).own (HBs.out _ _ _ (H.beside (World.grownBy_alloc _ _ _))) (by (try simp only [List.length_append, List.length_cons, List.length_nil]); omega)).mono ?_; rintro e w' ⟨v', rfl, H'⟩; have H1 := (H.beside (World.grownBy_alloc _ _ _)).trans H'; clear H H'; have H := H1; clear H1))
          exact ⟨⟨k + 1, by omega, by go_num, by rw [HS1.out]; simpa only [List.append_assoc] using H⟩, by simp [intOf]; omega⟩
      · obtain rfl : k = n := by omega
        go_wp2_with (first
          | (at_builtin; refine app_byte rfl _ _ _ rfl Tryz.underlying33 infoB H rfl _ 41 rfl rfl (by first | rfl | simp) hb1 (by (try simp only [List.length_append, List.length_cons, List.length_nil]); omega) ?_; intro v1 w1 H1; clear H; have H := H1; clear H1))
        go_ret
        exact hfin.out _ _ H
end Go.Proofs.YthcjnadceambgaaGreatDoor
