/- FnTextParts, walked whole: whatever the list, it answers true. What was handed in reads as it did, behind a call that only makes new memory. A list of geometries that can be read as data lies in memory as GRow says. The two tables of strconv, out of what a row lists. -/
import Derived.Deep.RegionHeld3
import Derived.Test.YthcjnadceambgaaGreatDoorRows
import Derived.ReadAgain
import Derived.Below
import Derived.ChangeBears
import Derived.ChangeReads
import Derived.Lib.LaidU8
import Derived.OpenShut
import Derived.ProofKit
import Derived.Test.YthcjnadceambgaaGreatDoorTPT24
namespace Go.Proofs.YthcjnadceambgaaGreatDoor
open Go.RowKit

theorem infoStr : (Tryz.prog.info? 9).map (fun i => (i.zero, i.size, i.bytes)) = some (some (.string ⟨#[]⟩), 1, 16) := by kernel_rfl
def nGC : List UInt8 := [71, 69, 79, 77, 69, 84, 82, 89, 67, 79, 76, 76, 69, 67, 84, 73, 79, 78]
noncomputable def partS (T : Nat → Int) (kids : List Raw) (i : Nat) : List UInt8 := (kids.map fun t => textT T (newT t)).getD i []
theorem partS_at (T : Nat → Int) (kids : List Raw) (i : Nat) (t : Raw) (h : kids[i]? = some t) : partS T kids i = textT T (newT t) := by
  unfold partS
  rw [List.getD_eq_getElem?_getD, List.getElem?_map, h]
  rfl
theorem partS_len (T : Nat → Int) (kids : List Raw) : ∀ k, k ≤ kids.length → (cTo (partS T kids) k).length ≤ 16100 * wts (kids.take k)
  | 0, _ => by simp [cTo]
  | k + 1, h => by
    have h1 := partS_len T kids k (by omega)
    have hi : kids[k]? = some (kids[k]'(by omega)) := List.getElem?_eq_getElem (by omega)
    have h2 := partS_at T kids k _ hi
    have h3 := textT_len T (newT (kids[k]'(by omega)))
    have h4 := pl_new (kids[k]'(by omega))
    have h5 := wts_take_succ kids k _ hi
    unfold cTo
    rw [h2, h5]
    simp only [List.length_append]
    split <;> simp <;> omega

set_option maxRecDepth 100000 in
set_option maxHeartbeats 4000000 in
theorem FnTextParts_any (T : Nat → Int) (hT : ∀ i, U64 (T i)) (h : Nat) (B : Nat → Prop) (W : World) (q : Option Addr) (m c : Nat) (kids : List Raw) (hm : kids.length = m) (hk : GRow B h W q c kids) (ht : Tabs T W) :
    Calls Tryz.prog 7 #[.slice q m c] W fun e w' => e = .returned (.bool true) ∧ W.grownBy w' none := by
  have hmx : m ≤ 9223372036854775807 := by have := hk.le; have := hk.most; unfold maxLen at this; omega
  by_cases hbig : 2147483647 < m
  · have hb : (2147483647 : Int) < (m : Int) := by omega
    clear hk ht hbig
    go_enter Tryz.func7, Tryz.ntmps7
    go_wp2_with fail
    go_ret
    exact ⟨rfl, gt_refl _ _⟩
  have hb : ¬ (2147483647 : Int) < (m : Int) := by omega
  have HS := Lib.hid (fun w (g : W.grownBy w none) => gSmallRow B h w q m c kids hm ⟨hk.le, hk.most, hk.none_, fun a ha i t hi => by
    obtain ⟨c0, c1, c2, c3, k0, k1, k2, k3, k4⟩ := hk.at_ a ha i t hi
    exact ⟨c0, c1, c2, c3, k0.mono g, g.cell k1 (by simp), g.cell k2 (by simp), g.cell k3 (by simp), g.cell k4 (by simp)⟩, hk.blk⟩)
  obtain ⟨sm, hsm⟩ : ∃ sm, sm = decide (wts kids ≤ 2000) := ⟨_, rfl⟩
  rw [← hsm] at HS
  cases sm
  · clear hk ht hbig hm hsm
    go_enter Tryz.func7, Tryz.ntmps7
    go_wp2_with (first
      | (go_at_call 15; refine (HS.out _ (gt_refl _ _)).mono ?_; rintro e w1 ⟨rfl, hg⟩))
    go_ret
    exact ⟨rfl, hg⟩
  have hw : wts kids ≤ 2000 := by simpa using hsm.symm
  have hml : m ≤ 2000 := by have := wts_len kids; omega
  by_cases hm0 : m = 0
  · subst hm0
    clear hk ht hbig hm hsm hw
    go_enter Tryz.func7, Tryz.ntmps7
    go_wp2_with (first
      | (go_at_call 15; refine (HS.out _ (gt_refl _ _)).mono ?_; rintro e w1 ⟨rfl, hg⟩))
    go_ret
    exact ⟨rfl, hg⟩
  have hm0b : ((m : Int) == 0) = false := by rw [beq_eq_false_iff_ne]; omega
  have hm1 : (0 : Int) < (m : Int) := by omega
  have hm2 : 0 < m := by omega
  have hm3 : ¬ (m : Int) ≤ 0 := by omega
  obtain ⟨f0, hf0⟩ : ∃ f0 : Nat → Nat, f0 = fun _ => 0 := ⟨_, rfl⟩
  -- the parts
  have HR : Hid (∀ w, W.grownBy w none → ∀ j, j < m → ∃ t a e1 d1 n1 f1 kids1 p1 cap1 q1' cq1, t = .mk e1 d1 n1 f1 kids1 ∧ kids[j]? = some t ∧ q = some a ∧ wt t ≤ 2000 ∧ KD B h w (.agg #[.int .i64 e1, .int .i64 d1, .slice p1 n1 cap1, .slice q1' kids1.length cq1]) t ∧ w.cell? (a.add (j * 4)) = some (.int .i64 e1) ∧ w.cell? ⟨(a.add (j * 4)).block, (a.add (j * 4)).off + 1, none⟩ = some (.int .i64 d1) ∧ w.cell? ⟨(a.add (j * 4)).block, (a.add (j * 4)).off + 2, none⟩ = some (.slice p1 n1 cap1) ∧ w.cell? ⟨(a.add (j * 4)).block, (a.add (j * 4)).off + 3, none⟩ = some (.slice q1' kids1.length cq1)) := fun w g j hj => by
    obtain ⟨t, a, c0, c1, c2, c3, hi, ha, kk, x0, x1, x2, x3⟩ := hk.get w g j (by omega)
    obtain ⟨e1, d1, n1, f1, kids1, p1, cap1, q1', cq1, ht, rfl, rfl, rfl, rfl⟩ := kk.form4
    exact ⟨t, a, e1, d1, n1, f1, kids1, p1, cap1, q1', cq1, ht, hi, ha, Nat.le_trans (wts_mem kids j t hi) hw, kk, x0, x1, x2, x3⟩
  have HCT : Hid (∀ w e1 d1 n1 f1 kids1 p1 cap1 q1' m1 cq1, kids1.length = m1 → KD B h w (.agg #[.int .i64 e1, .int .i64 d1, .slice p1 n1 cap1, .slice q1' m1 cq1]) (.mk e1 d1 n1 f1 kids1) → wt (.mk e1 d1 n1 f1 kids1) ≤ 2000 → Calls Tryz.prog 20 #[.agg #[.int .i64 e1, .int .i64 d1, .slice p1 n1 cap1, .slice q1' m1 cq1]] w fun e w' => e = .returned (.int .i64 (dimR (newT (.mk e1 d1 n1 f1 kids1)) : Nat)) ∧ w.grownBy w' none) := fun w e1 d1 n1 f1 kids1 p1 cap1 q1' m1 cq1 _ hk hw => ImplCT_any h B w e1 d1 p1 q1' n1 cap1 m1 cq1 f1 kids1 hk hw
  have HWK : Hid (∀ w e1 d1 n1 f1 kids1 p1 cap1 q1' m1 cq1, kids1.length = m1 → W.grownBy w none → KD B h w (.agg #[.int .i64 e1, .int .i64 d1, .slice p1 n1 cap1, .slice q1' m1 cq1]) (.mk e1 d1 n1 f1 kids1) → wt (.mk e1 d1 n1 f1 kids1) ≤ 2000 → Calls Tryz.prog 21 #[.agg #[.int .i64 e1, .int .i64 d1, .slice p1 n1 cap1, .slice q1' m1 cq1]] w fun e w' => e = .returned (.string ⟨(textT T (newT (.mk e1 d1 n1 f1 kids1))).toArray⟩) ∧ w.grownBy w' none) := fun w e1 d1 n1 f1 kids1 p1 cap1 q1' m1 cq1 _ g hk hw => ImplWKT_any T hT h B w e1 d1 p1 q1' n1 cap1 m1 cq1 f1 kids1 hk hw (ht.mono g (by simp) (by simp))
  -- the whole
  have HGC := Lib.hid (fun w (g : W.grownBy w none) => ImplWKT_of T hT (h + 1) w 0 0 none q 0 0 m c f0 kids (fun w' g' => GeoBC_coll h B w' 0 0 none 0 0 q m c f0 kids hm ⟨none, 0, q, c, by rw [hm], ⟨fun h => absurd h (by simp), fun a ha => (by cases ha), fun i => by rw [hf0]; exact Nat.zero_lt_succ _⟩, Nat.le_refl _, by decide, fun _ => rfl, hk.le, hk.most, hk.none_, fun a ha i t hi => by
    have G := gt_trans g g' (.inl rfl)
    obtain ⟨c0, c1, c2, c3, k0, k1, k2, k3, k4⟩ := hk.at_ a ha i t hi
    exact ⟨c0, c1, c2, c3, k0.mono G, G.cell k1 (by simp), G.cell k2 (by simp), G.cell k3 (by simp), G.cell k4 (by simp)⟩, fun a ha => (by cases ha), hk.blk⟩ hw (.inl (by decide))) (coll_ok 0 0 0 f0 kids hw (.inl (by decide))).1 (Nat.le_trans (coll_ok 0 0 0 f0 kids hw (.inl (by decide))).2 (by decide)) (ht.mono g (by simp) (by simp)))
  obtain ⟨t0, a, e0, d0, n0, fk0, kids0, p0, cap0, q0', cq0, ht0, hi0, ha0, hw0, hk0, x0, x1, x2, x3⟩ := HR.out W (gt_refl _ _) 0 (by omega)
  subst ha0
  obtain ⟨r0, hr0⟩ : ∃ r0, r0 = dimR (newT t0) := ⟨_, rfl⟩
  have hr04 : r0 < 4 := by rw [hr0]; exact (new_okU t0 hw0).2
  have hadd : a.add (0 * 4) = a := by simp [Addr.add]
  rw [hadd] at x0 x1 x2 x3
  have hkb : a.block < W.heap.size := World.block_lt_of_cell? W _ x0
  have HY : Hid (∀ w, W.grownBy w none → w.cell? a = some (.int .i64 e0) ∧ w.cell? ⟨a.block, a.off + 1, none⟩ = some (.int .i64 d0) ∧ w.cell? ⟨a.block, a.off + 2, none⟩ = some (.slice p0 n0 cap0) ∧ w.cell? ⟨a.block, a.off + 3, none⟩ = some (.slice q0' kids0.length cq0)) := fun w g => ⟨g.cell x0 (by simp), g.cell x1 (by simp), g.cell x2 (by simp), g.cell x3 (by simp)⟩
  have HC0 : Hid (∀ w0 w : World, W.grownBy w none → w0.grownBy w none → Calls Tryz.prog 20 #[.agg #[.int .i64 e0, .int .i64 d0, .slice p0 n0 cap0, .slice q0' kids0.length cq0]] w fun e w' => e = .returned (.int .i64 r0) ∧ w0.grownBy w' none) := fun w0 w g g0 => by
    subst ht0
    exact (HCT.out w e0 d0 n0 fk0 kids0 p0 cap0 q0' _ cq0 rfl (hk0.mono g) hw0).mono fun e w' ⟨he, hg⟩ => ⟨by rw [he, hr0], gt_trans g0 hg (.inl rfl)⟩
  -- the strings
  obtain ⟨xs, hxs⟩ : ∃ xs : Nat → List Value, xs = fun k => (List.range k).map fun i => Value.string ⟨(partS T kids i).toArray⟩ := ⟨_, rfl⟩
  have HX1 : Hid (∀ k t, kids[k]? = some t → xs (k + 1) = xs k ++ [.string ⟨(textT T (newT t)).toArray⟩]) := fun k t hi => by
    rw [hxs]
    show (List.range (k + 1)).map _ = (List.range k).map _ ++ _
    rw [List.range_succ, List.map_append, List.map_singleton, partS_at T kids k t hi]
  have HX0 : Hid (xs 0 = []) := by show xs 0 = []; rw [hxs]; rfl
  have HJ : Hid (∀ (w w0 : World) px cx, AppV 9 1 W.heap.size W (.slice none 0 0) w0 (.slice px m cx) m (xs m) → w0.grownBy w none → Calls Tryz.prog 23 #[.slice px m cx] w (fun e w' => e = .returned (.string ⟨([40] ++ cTo (partS T kids) m ++ [41]).toArray⟩) ∧ w.grownBy w' none)) := fun w w0 px cx H g => by
    have hl : (xs m).length = m := by rw [hxs]; simp
    refine xJoin_any px m cx (partS T kids) (by omega) (fun k hk' => ?_) w (fun h0 => ?_) (fun a' ha i hi => ?_)
    · have h1 := partS_len T kids k (by omega)
      have h2 := wts_append (kids.take k) (kids.drop k)
      rw [List.take_append_drop] at h2
      omega
    · rcases H.own.2 with ⟨_, h9⟩ | ⟨g', cap', cur, hv, _⟩
      · omega
      · injection hv with hv; exact ⟨_, hv⟩
    · rcases H.own.2 with ⟨hv, h9⟩ | ⟨g', cap', cur, hv, _⟩
      · omega
      · injection hv with hv1 hv2 hv3
        subst hv3
        rw [hv1] at ha
        injection ha with ha
        subst ha
        subst hv1
        have hc := H.own.cells (g := g') rfl i (.string ⟨(partS T kids i).toArray⟩) (by rw [hxs]; show ((List.range m).map _)[i]? = _; rw [List.getElem?_map, List.getElem?_range hi]; rfl)
        exact g.cell hc (by simp)
  -- the sums
  obtain ⟨J, hJ⟩ : ∃ J : ByteArray, J = ⟨(textT T (newT (.mk 0 0 0 f0 kids))).toArray⟩ := ⟨_, rfl⟩
  obtain ⟨JN, hJN⟩ : ∃ JN : ByteArray, JN = ⟨([40] ++ cTo (partS T kids) m ++ [41]).toArray⟩ := ⟨_, rfl⟩
  obtain ⟨TG, hTG⟩ : ∃ TG : ByteArray, TG = ⟨(tag r0).toArray⟩ := ⟨_, rfl⟩
  obtain ⟨G1, hG1⟩ : ∃ G1 : ByteArray, G1 = ⟨(nGC ++ tag r0).toArray⟩ := ⟨_, rfl⟩
  have hcl : (cTo (partS T kids) m).length ≤ 16100 * 2000 := by
    have h1 := partS_len T kids m (by omega)
    have h2 := wts_append (kids.take m) (kids.drop m)
    rw [List.take_append_drop] at h2
    omega
  have htl := tag_len r0
  have hS1 := cat_run Tryz.prog nGC (tag r0) ⟨#[71, 69, 79, 77, 69, 84, 82, 89, 67, 79, 76, 76, 69, 67, 84, 73, 79, 78]⟩ TG G1 rfl hTG hG1 (by unfold nGC; simp only [List.length_cons, List.length_nil]; omega)
  have hS2 : (∀ t ∈ kids, dimR (newT t) = r0) → ∀ W : World, (Op.stringOp .add G1 JN).run Tryz.prog W = .ok (.string J) W := fun hd => by
    have e := parts_text T r0 hr04 f0 kids hw (fun e => by rw [e] at hm; simp at hm; omega) hd
    refine cat_run Tryz.prog (nGC ++ tag r0) ([40] ++ cTo (partS T kids) m ++ [41]) G1 JN J hG1 hJN ?_ (by unfold nGC; simp only [List.length_append, List.length_cons, List.length_nil]; omega)
    rw [hJ, e, hm]
    rfl
  rw [← hJ] at HGC
  have HTg := Lib.hid (fun w => xTag_any r0 hr04 w)
  rw [← hTG] at HTg
  rw [← hJN] at HJ
  have HS1 := Lib.hid hS1
  have HS2 := Lib.hid hS2
  have HD0 : Hid (∀ j t, kids[j]? = some t → wt t ≤ 2000) := fun j t hj => Nat.le_trans (wts_mem kids j t hj) hw
  have HDall : Hid ((∀ j t, j < m → kids[j]? = some t → dimR (newT t) = r0) → ∀ t ∈ kids, dimR (newT t) = r0) := fun h t ht => by
    obtain ⟨j, hj⟩ := List.getElem?_of_mem ht
    exact h j t (by have := (List.getElem?_eq_some_iff.1 hj).1; omega) hj
  clear hk ht hbig hsm hf0 hJ hJN hTG hG1 hcl htl hS1 hS2 hxs hw hm x0 x1 x2 x3 hadd hi0 ht0 hw0 hk0 hr0 HCT
  generalize kids0.length = m0 at HY HC0
  go_enter Tryz.func7, Tryz.ntmps7
  go_wp2_with (first
    | (go_at_call 15; refine (HS.out _ (gt_refl _ _)).mono ?_; rintro e w1 ⟨rfl, hgs⟩))
  go_loopw [3, 20] (fun x i wr => ∃ k : Nat, k ≤ m ∧ i = .int .i64 k ∧ W.grownBy wr none ∧ AppV 9 1 W.heap.size W (.slice none 0 0) wr x k (xs k) ∧ (∀ j t, j < k → kids[j]? = some t → dimR (newT t) = r0)) (fun _ i _ => m - (intOf i).toNat)
  case atStart => exact ⟨0, by omega, rfl, hgs, by rw [HX0.out]; exact (AppV.nil _ _ _ _).beside hgs, fun j t h => absurd h (by omega)⟩
  case round =>
    clear hgs
    obtain ⟨k, hk, rfl, Gw, H, hdk⟩ := hrel
    rename World => wr
    have HDk := Lib.hid hdk
    clear hdk
    obtain ⟨px, cx, rfl⟩ := H.slice
    by_cases hkm : k < m
    · obtain ⟨t, a', e1, d1, n1, f1, kids1, p1, cap1, q1', cq1, htk, hik, hae, hwt, hkk, z0, z1, z2, z3⟩ := HR.out wr Gw k hkm
      injection hae with hae
      subst hae
      obtain ⟨W5, hW5⟩ : ∃ W5, W5 = wr.alloc (.cells #[.int .i64 e1, .int .i64 d1, .slice p1 n1 cap1, .slice q1' kids1.length cq1] 25) := ⟨_, rfl⟩
      have HW5 := Lib.hid hW5
      have g5 : wr.grownBy W5 none := by rw [hW5]; exact World.grownBy_alloc _ _ _
      have G5 := gt_trans Gw g5 (.inl rfl)
      obtain ⟨dk, hdk⟩ : ∃ dk, dk = dimR (newT t) := ⟨_, rfl⟩
      have HC1 : Hid (∀ w, W5.grownBy w none → Calls Tryz.prog 20 #[.agg #[.int .i64 e1, .int .i64 d1, .slice p1 n1 cap1, .slice q1' kids1.length cq1]] w fun e w' => e = .returned (.int .i64 dk) ∧ W5.grownBy w' none) := fun w g => by
        rw [hdk]
        subst htk
        exact (ImplCT_any h B w e1 d1 p1 q1' n1 cap1 _ cq1 f1 kids1 (hkk.mono (gt_trans g5 g (.inl rfl))) hwt).mono fun e w' ⟨he, hg⟩ => ⟨he, gt_trans g hg (.inl rfl)⟩
      have HC2 : Hid (∀ w, W5.grownBy w none → Calls Tryz.prog 20 #[.agg #[.int .i64 e0, .int .i64 d0, .slice p0 n0 cap0, .slice q0' m0 cq0]] w fun e w' => e = .returned (.int .i64 r0) ∧ W5.grownBy w' none) := fun w g => HC0.out W5 w (gt_trans G5 g (.inl rfl)) g
      have HWk : Hid (∀ w, W5.grownBy w none → Calls Tryz.prog 21 #[.agg #[.int .i64 e1, .int .i64 d1, .slice p1 n1 cap1, .slice q1' kids1.length cq1]] w fun e w' => e = .returned (.string ⟨(textT T (newT t)).toArray⟩) ∧ w.grownBy w' none) := fun w g => by
        subst htk
        exact HWK.out w e1 d1 n1 f1 kids1 p1 cap1 q1' _ cq1 rfl (gt_trans G5 g (.inl rfl)) (hkk.mono (gt_trans g5 g (.inl rfl))) hwt
      have HBox : Hid (∀ w, W5.grownBy w none → (w.cell? ⟨wr.heap.size, 0, none⟩ = some (.int .i64 e1) ∧ w.cell? ⟨wr.heap.size, 1, none⟩ = some (.int .i64 d1) ∧ w.cell? ⟨wr.heap.size, 2, none⟩ = some (.slice p1 n1 cap1) ∧ w.cell? ⟨wr.heap.size, 3, none⟩ = some (.slice q1' kids1.length cq1)) ∧ w.cell? a = some (.int .i64 e0) ∧ w.cell? ⟨a.block, a.off + 1, none⟩ = some (.int .i64 d0) ∧ w.cell? ⟨a.block, a.off + 2, none⟩ = some (.slice p0 n0 cap0) ∧ w.cell? ⟨a.block, a.off + 3, none⟩ = some (.slice q0' m0 cq0)) := fun w g => by
        have g' := g
        rw [hW5] at g
        exact ⟨⟨g.cell (by simp) (by simp), g.cell (by simp) (by simp), g.cell (by simp) (by simp), g.cell (by simp) (by simp)⟩, HY.out w (gt_trans G5 g' (.inl rfl))⟩
      have HH5 : Hid (∀ w, W5.grownBy w none → AppV 9 1 W.heap.size W (.slice none 0 0) w (.slice px k cx) k (xs k)) := fun w g => H.beside (gt_trans g5 g (.inl rfl))
      have HXk := Lib.hid (HX1.out k t hik)
      have HDk2 : Hid (dk = r0 → ∀ j t, j < k + 1 → kids[j]? = some t → dimR (newT t) = r0) := fun e j t' hj hi => by
        by_cases h9 : j < k
        · exact HDk.out j t' h9 hi
        · obtain rfl : j = k := by omega
          rw [hik] at hi
          injection hi with hi
          subst hi
          rw [← hdk]; exact e
      have hkx : (xs k).length = k := by have := H.own.1; simpa using this
      generalize textT T (newT t) = tx at HWk HXk
      clear hdk htk hik hwt hkk H
      generalize kids1.length = m1 at z3 hW5 HW5 HC1 HWk HBox
      clear hW5
      by_cases hdd : dk = r0
      · have HDn := Lib.hid (HDk2.out hdd)
        have hne : ((dk : Int) != (r0 : Int)) = false := by rw [hdd]; simp
        clear hdd HDk2
        go_wp2_with fail
        rw [← HW5.out]
        have hgd := gt_drew_r (gt_refl W5 none)
        obtain ⟨⟨b0, b1, b2, b3⟩, y0, y1, y2, y3⟩ := HBox.out _ (gt_refl W5 none)
        go_region_held3 (fun w' => (w'.cell? ⟨wr.heap.size, 0, none⟩ = some (.int .i64 e1) ∧ w'.cell? ⟨wr.heap.size, 1, none⟩ = some (.int .i64 d1) ∧ w'.cell? ⟨wr.heap.size, 2, none⟩ = some (.slice p1 n1 cap1) ∧ w'.cell? ⟨wr.heap.size, 3, none⟩ = some (.slice q1' m1 cq1)) ∧ w'.cell? a = some (.int .i64 e0) ∧ w'.cell? ⟨a.block, a.off + 1, none⟩ = some (.int .i64 d0) ∧ w'.cell? ⟨a.block, a.off + 2, none⟩ = some (.slice p0 n0 cap0) ∧ w'.cell? ⟨a.block, a.off + 3, none⟩ = some (.slice q0' m0 cq0))
          (first | (refine HBox.out _ ?_; assumption))
          (first
            | (go_at_call 20; (with_reducible refine (HC1.out _ ?_).mono ?_); assumption; rintro e w2 ⟨rfl, hg2⟩)
            | (go_at_call 20; (with_reducible refine (HC2.out _ ?_).mono ?_); assumption; rintro e w3 ⟨rfl, hg3⟩))
        all_goals first
          | (skip
             obtain ⟨⟨b0', b1', b2', b3'⟩, _⟩ := HBox.out _ hg3
             go_wp2_with (first
               | (go_at_call 21; refine (HWk.out _ hg3).mono ?_; rintro e w4 ⟨rfl, hg4⟩; have G4 := gt_trans hg3 hg4 (.inl rfl))
               | (at_builtin; refine app_cells rfl _ _ _ rfl Tryz.underlying36 (.string ⟨#[]⟩) 16 infoStr rfl (by omega) (HH5.out _ G4) rfl rfl (by first | rfl | simp) _ (by first | rfl | simp) (by simp [Value.oneCell']) (Nat.le_refl _) (by omega) (by omega) ?_; intro v1 w6 H1; have HH := Lib.hid H1; clear H1))
             exact ⟨⟨k + 1, by omega, by go_num, HH.out.grown0, by rw [HXk.out]; exact HH.out, HDn.out⟩, by simp [intOf]; omega⟩)
          | (skip
             obtain ⟨⟨b0', b1', b2', b3'⟩, _⟩ := HBox.out _ hg2
             go_wp2_with (first
               | (go_at_call 21; refine (HWk.out _ hg2).mono ?_; rintro e w4 ⟨rfl, hg4⟩; have G4 := gt_trans hg2 hg4 (.inl rfl))
               | (at_builtin; refine app_cells rfl _ _ _ rfl Tryz.underlying36 (.string ⟨#[]⟩) 16 infoStr rfl (by omega) (HH5.out _ G4) rfl rfl (by first | rfl | simp) _ (by first | rfl | simp) (by simp [Value.oneCell']) (Nat.le_refl _) (by omega) (by omega) ?_; intro v1 w6 H1; have HH := Lib.hid H1; clear H1))
             exact ⟨⟨k + 1, by omega, by go_num, HH.out.grown0, by rw [HXk.out]; exact HH.out, HDn.out⟩, by simp [intOf]; omega⟩)
      · have hne : ((dk : Int) != (r0 : Int)) = true := by rw [bne_iff_ne]; exact fun e => hdd (by omega)
        clear hdd HDk2
        go_wp2_with fail
        rw [← HW5.out]
        have hgd := gt_drew_r (gt_refl W5 none)
        obtain ⟨⟨b0, b1, b2, b3⟩, y0, y1, y2, y3⟩ := HBox.out _ (gt_refl W5 none)
        go_region_held3 (fun w' => (w'.cell? ⟨wr.heap.size, 0, none⟩ = some (.int .i64 e1) ∧ w'.cell? ⟨wr.heap.size, 1, none⟩ = some (.int .i64 d1) ∧ w'.cell? ⟨wr.heap.size, 2, none⟩ = some (.slice p1 n1 cap1) ∧ w'.cell? ⟨wr.heap.size, 3, none⟩ = some (.slice q1' m1 cq1)) ∧ w'.cell? a = some (.int .i64 e0) ∧ w'.cell? ⟨a.block, a.off + 1, none⟩ = some (.int .i64 d0) ∧ w'.cell? ⟨a.block, a.off + 2, none⟩ = some (.slice p0 n0 cap0) ∧ w'.cell? ⟨a.block, a.off + 3, none⟩ = some (.slice q0' m0 cq0))
          (first | (refine HBox.out _ ?_; assumption))
          (first
            | (go_at_call 20; (with_reducible refine (HC1.out _ ?_).mono ?_); assumption; rintro e w2 ⟨rfl, hg2⟩)
            | (go_at_call 20; (with_reducible refine (HC2.out _ ?_).mono ?_); assumption; rintro e w3 ⟨rfl, hg3⟩))
        all_goals first
          | (go_wp2_with fail
             go_ret
             exact ⟨rfl, gt_trans G5 hg3 (.inl rfl)⟩)
          | (go_wp2_with fail
             go_ret
             exact ⟨rfl, gt_trans G5 hg2 (.inl rfl)⟩)
          | (go_ret
             exact ⟨rfl, gt_trans G5 hg3 (.inl rfl)⟩)
          | (go_ret
             exact ⟨rfl, gt_trans G5 hg2 (.inl rfl)⟩)
    · obtain rfl : k = m := by omega
      obtain ⟨y0, y1, y2, y3⟩ := HY.out _ Gw
      have HC3 := Lib.hid (fun w (g : wr.grownBy w none) => HC0.out wr w (gt_trans Gw g (.inl rfl)) g)
      have HJ1 := Lib.hid (fun w (g : wr.grownBy w none) => HJ.out w wr px cx H g)
      have e1 := HS1.out
      have e2 := HS2.out (HDall.out HDk.out)
      clear H
      go_wp2_with (first
        | (go_at_call 20; refine (HC3.out _ (gt_refl _ _)).mono ?_; rintro e w2 ⟨rfl, hg2⟩)
        | (go_at_call 22; refine (HTg.out _).mono ?_; rintro e w3 ⟨rfl, hg3⟩; have G3 := gt_trans hg2 hg3 (.inl rfl))
        | (go_at_call 23; refine (HJ1.out _ G3).mono ?_; rintro e w4 ⟨rfl, hg4⟩; have G4 := gt_trans G3 hg4 (.inl rfl))
        | (go_at_call 21; refine (HGC.out _ (gt_trans Gw G4 (.inl rfl))).mono ?_; rintro e w5 ⟨rfl, hg5⟩))
      go_ret
      exact ⟨rfl, gt_trans (gt_trans Gw G4 (.inl rfl)) hg5 (.inl rfl)⟩
end Go.Proofs.YthcjnadceambgaaGreatDoor
namespace Go.Proofs.YthcjnadceambgaaGreatDoor
open Go.Joins Go.ChangeShapes Go.WideShapes Go.RowKit Go.Deep Go.ChangeAt

theorem kids_all : Kids Tryz.prog (· < Tryz.prog.types.size) := kids_rows (by kernel_rfl) (by kernel_rfl)
theorem full_all : ∀ t e, t < Tryz.prog.types.size → Tryz.prog.underlying t = some (.slice e) → 0 < Tryz.prog.cellsOf e := slices_full_of Tryz.prog (by kernel_rfl)

section
variable {H : Type} {enc : TypeId × Value → H} {P : Program} {W W' : World} {base : Nat} {spare : Nat → Bool} {held : Bool}
theorem trodAll_carry : ∀ {ts : List TypeId} {vs : List Value} {ds : List (DataW H)} {ps : List MemPlace}, DataW.TrodAll enc P W base spare held ts vs ds ps → (∀ p ∈ ps, W.sameAt W' p) → DataW.TrodAll enc P W' base spare held ts vs ds ps
  | [], [], [], _, h, _ => h
  | _ :: _, _ :: _, _ :: _, _, ⟨p, q, ⟨n, h1⟩, h2, e⟩, hs =>
    ⟨p, q, ⟨n, DataW.trod_carry n _ _ _ h1 (fun x hx => hs x (by rw [e]; exact List.mem_append_left _ hx))⟩, trodAll_carry h2 (fun x hx => hs x (by rw [e]; exact List.mem_append_right _ hx)), e⟩
end
section
variable {H : Type} {enc : TypeId × Value → H} {W W' : World}
theorem args_below {ts : List TypeId} {vs : List Value} {ds : List (DataW H)} {ps : List MemPlace} (hts : ∀ t ∈ ts, t < Tryz.prog.types.size) (hA : DataW.TrodAll enc Tryz.prog W 0 (fun _ => true) true ts vs ds ps) (hb : Below W.heap.size W W') :
    DataW.TrodAll enc Tryz.prog W' 0 (fun b => decide (b < W.heap.size)) true ts vs ds ps :=
  (trodAll_carry hA fun p hp => hb.same (hA.lt p hp)).respare kids_all full_all hts fun p hp => by simpa using hA.lt p hp
end
end Go.Proofs.YthcjnadceambgaaGreatDoor
namespace Go.Proofs.YthcjnadceambgaaGreatDoor
open Go.Joins Go.ChangeShapes Go.WideShapes Go.RowKit Go.Deep Go.ChangeAt
section
variable {H : Type} {enc : TypeId × Value → H} {W : World} {base : Nat} {spare : Nat → Bool} {held : Bool}
set_option maxRecDepth 100000 in
theorem GRow_of_trod {fuel : Nat} {c : Value} {x : DataW H × List MemPlace} (h : DataW.trod enc Tryz.prog W base spare held fuel 23 [c] = some x) : ∃ q kids cap, c = .slice q kids.length cap ∧ GRow (fun _ => True) fuel W q cap kids := by
  have hC : Tryz.prog.cellsOf 25 = 4 := by kernel_rfl
  rcases DataW.trod_slice Tryz.underlying23 h with ⟨e, _⟩ | ⟨a, len, cap3, elems, rest, m, em, e, _, hb, hlc, hcm, hel, hat, _⟩
  · simp only [List.cons.injEq, and_true] at e
    exact ⟨none, [], 0, e, ⟨Nat.le_refl _, by decide, fun _ => rfl, (fun a ha => by cases ha), fun _ _ => trivial⟩⟩
  · simp only [List.cons.injEq, and_true] at e
    obtain ⟨kids, hkl, hkp⟩ := list_of (P := fun i t => ∃ d0 d1 d2 d3, KD (fun _ => True) fuel W (.agg #[d0, d1, d2, d3]) t ∧ W.cell? (a.add (i * 4)) = some d0 ∧ W.cell? ⟨(a.add (i * 4)).block, (a.add (i * 4)).off + 1, none⟩ = some d1 ∧ W.cell? ⟨(a.add (i * 4)).block, (a.add (i * 4)).off + 2, none⟩ = some d2 ∧ W.cell? ⟨(a.add (i * 4)).block, (a.add (i * 4)).off + 3, none⟩ = some d3) len (fun i hi => by
      have h1 := hat i hi
      rw [hC] at h1
      have hx : ∃ y, elems[i]? = some y := ⟨_, List.getElem?_eq_getElem (by omega)⟩
      obtain ⟨y, hy⟩ := hx
      rw [hy] at h1
      obtain ⟨cs', hc, ht⟩ := Option.bind_eq_some_iff.1 h1
      obtain ⟨d0, d1, d2, d3, t, rfl, hk⟩ := KD_of_trod m cs' y ht
      obtain ⟨_, hlen', hcell⟩ := World.cells?_some hc
      refine ⟨t, d0, d1, d2, d3, hk.le (by omega), ?_, ?_, ?_, ?_⟩
      · have := hcell 0 (by omega)
        simpa [Addr.add] using this
      · have := hcell 1 (by omega)
        rw [add_add _ 1 (by omega)] at this
        simpa using this
      · have := hcell 2 (by omega)
        rw [add_add _ 2 (by omega)] at this
        simpa using this
      · have := hcell 3 (by omega)
        rw [add_add _ 3 (by omega)] at this
        simpa using this)
    refine ⟨some a, kids, cap3, by rw [e, hkl], ⟨by omega, hcm, (fun h => by cases h), fun a' ha i t hi => ?_, fun _ _ => trivial⟩⟩
    injection ha with ha
    subst ha
    exact hkp i t hi
end
end Go.Proofs.YthcjnadceambgaaGreatDoor
namespace Go.Proofs.YthcjnadceambgaaGreatDoor
open Go.RowKit Go.ChangeShapes

def pval : Option Value → Int
  | some (.int _ n) => n
  | _ => 0

theorem p10_of_reads {W : World} (h : Lib.VarReads Tryz.prog W "internal/strconv.pow10Tab" Go.Pinned.pow10Tab) : ∃ T : Nat → Int, (∀ i, U64 (T i)) ∧ P10 T W := by
  obtain ⟨g, t, cs, fuel, p, h1, h2, h3, h4⟩ := h
  obtain rfl : g = 3 := Option.some.inj (h1.symm.trans (by kernel_rfl))
  obtain rfl : t = 208 := Option.some.inj (h2.symm.trans (by kernel_rfl))
  obtain ⟨xs, m, _, _, hl, _, hall⟩ := DataW.trod_array (n := 696) (e := 207) (by kernel_rfl) h4
  have hc2 : Tryz.prog.cellsOf 207 = 2 := by kernel_rfl
  have hlen : cs.toList.length = 1392 := hl.trans (by kernel_rfl)
  have key : ∀ i : Nat, i < 1392 → ∃ n : Int, cs[i]? = some (.int .u64 n) ∧ U64 n := by
    intro i hi
    have hj := hall (i / 2) (by omega)
    rw [hc2] at hj
    have hx : ∃ x, xs[i / 2]? = some x := ⟨xs[i / 2]'(by omega), List.getElem?_eq_getElem (by omega)⟩
    obtain ⟨x, hx⟩ := hx
    rw [hx] at hj
    obtain ⟨y0, y1, n, _, _, ha, hb⟩ := trod_struct2 Tryz.underlying207 hj
    have hu : Tryz.prog.underlying 137 = some (.int .u64) := by kernel_rfl
    obtain ⟨a, hca, _, wa⟩ := DataW.trod_int hu ha
    obtain ⟨b, hcb, _, wb⟩ := DataW.trod_int hu hb
    have hca' := congrArg (·[0]?) hca
    have hcb' := congrArg (·[0]?) hcb
    have hcu : Tryz.prog.cellsOf 137 = 1 := by kernel_rfl
    simp only [hcu, List.drop_zero, List.getElem?_take, List.getElem?_drop, List.getElem?_cons_zero, Nat.zero_lt_one, if_true, Nat.add_zero] at hca' hcb'
    rcases Nat.mod_two_eq_zero_or_one i with e | e
    · refine ⟨a, ?_, .of_wf wa⟩
      simp at hca'
      rw [show i / 2 * 2 = i by omega] at hca'
      exact hca'
    · refine ⟨b, ?_, .of_wf wb⟩
      simp at hcb'
      rw [show i / 2 * 2 + 1 = i by omega] at hcb'
      exact hcb'
  refine ⟨fun i => pval cs[i]?, fun i => ?_, fun i hi => ?_⟩
  · by_cases hi : i < 1392
    · obtain ⟨n, hn, hu⟩ := key i hi
      show U64 (pval cs[i]?)
      rw [hn]; exact hu
    · have : cs[i]? = none := Array.getElem?_eq_none (by simpa using (by omega : cs.toList.length ≤ i))
      show U64 (pval cs[i]?)
      rw [this]; exact ⟨by decide, by decide⟩
  · obtain ⟨n, hn, hu⟩ := key i hi
    have e : W.cell? ⟨3, i, none⟩ = cs[i]? := World.var?_cell h1 h3 i
    show W.cell? ⟨3, i, none⟩ = some (.int .u64 (pval cs[i]?))
    rw [e, hn]
    rfl

theorem u10_of_reads {W : World} (h : Lib.VarReads Tryz.prog W "internal/strconv.uint64pow10" Rows.laid_internal_strconv_uint64pow10) : Lib.TabIs Tryz.prog W "internal/strconv.uint64pow10" .u64 Lib.pow10Tab := by
  obtain ⟨g, t, cs, fuel, p, h1, h2, h3, h4⟩ := h
  obtain rfl : t = 199 := by
    obtain rfl : g = 2 := Option.some.inj (h1.symm.trans (by kernel_rfl))
    exact Option.some.inj (h2.symm.trans (by kernel_rfl))
  have hd : (Rows.laid_internal_strconv_uint64pow10 : DataW Unit) = Lib.tabData .u64 Lib.pow10Tab := by kernel_rfl
  rw [hd] at h4
  have := Lib.cells_of_tab (n := 20) (e := 137) (by kernel_rfl) (by kernel_rfl) (by kernel_rfl) (by kernel_rfl) h4
  unfold Lib.TabIs
  rw [h3, ← this]

/-- The facts of the tables, out of the row's condition. -/
theorem tabs_of_laid {W : World} {laid : List (String × DataW Unit)} (hL : laidMet Tryz.prog laid W) (m1 : ("internal/strconv.pow10Tab", Go.Pinned.pow10Tab) ∈ laid) (m2 : ("internal/strconv.uint64pow10", Rows.laid_internal_strconv_uint64pow10) ∈ laid) :
    ∃ T : Nat → Int, (∀ i, U64 (T i)) ∧ Tabs T W := by
  obtain ⟨T, hT, hp⟩ := p10_of_reads (Lib.laidMet.reads hL m1)
  exact ⟨T, hT, hp, u10_of_reads (Lib.laidMet.reads hL m2)⟩
end Go.Proofs.YthcjnadceambgaaGreatDoor
