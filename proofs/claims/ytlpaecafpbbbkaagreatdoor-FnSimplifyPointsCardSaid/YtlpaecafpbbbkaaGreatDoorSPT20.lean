/- Plain data of a geometry that is a point or several points. impl.Simplify of points and several points. Simplify of the figure of a point. The laws' own words for shapes: formed, size, figure. The figure of a shape; points and several points are small and simple. FnSimplifyPoints: points and several points, simplified, are as they were. FnSimplifyPoints answers true, whatever the shape. -/
import Derived.Test.YtlpaecafpbbbkaaGreatDoorSPT19
namespace Go.Proofs.YtlpaecafpbbbkaaGreatDoor
open Go.RowKit

set_option maxRecDepth 100000 in
set_option maxHeartbeats 2000000 in
theorem plain_1 (B : Nat → Prop) (W : World) (v : Value) (t t2 : Raw) (hd : GeoK 1 165 DPoint B W v t) (HP : ∀ w x, W.grownBy w none → DPoint B w x t → Calls Tryz.prog 74 #[x] w fun e w' => ∃ v', e = .returned v' ∧ KD (Fr w w') 1 w' v' t2 ∧ w.grownBy w' none) :
    Calls Tryz.prog 32 #[v] W fun e w' => ∃ v', e = .returned v' ∧ KD (Fr W w') 1 w' v' t2 ∧ W.grownBy w' none := by
  obtain ⟨b, x, hkd, hv, hB1, hx, hd⟩ := hd
  subst hv
  have hd0 := hd
  obtain ⟨fx, fy, fz, fm, er, eb, rfl⟩ := DPoint.form6 hd
  have h0 := hx 0 (.float .f64 fx) rfl
  have h1 := hx 1 (.float .f64 fy) rfl
  have h2 := hx 2 (.float .f64 fz) rfl
  have h3 := hx 3 (.float .f64 fm) rfl
  have h4 := hx 4 (.int .u8 er) rfl
  have h5 := hx 5 (.bool eb) rfl
  have hb : b < W.heap.size := World.block_lt_of_cell? W _ h0
  have HM := Lib.hid (fun w (g : W.grownBy w none) => MustAsPoint _ _ _ _ _ _ b w (g.cell h0 (by simp)) (g.cell h1 (by simp)) (g.cell h2 (by simp)) (g.cell h3 (by simp)) (g.cell h4 (by simp)) (g.cell h5 (by simp)) (Nat.lt_of_lt_of_le hb g.size))
  have HPp : Hid (∀ w, W.grownBy w none → Calls Tryz.prog 74 #[.agg #[.float .f64 fx, .float .f64 fy, .float .f64 fz, .float .f64 fm, .int .u8 er, .bool eb]] w fun e w' => ∃ k6 d6 p6 n6 cap6 q6 m6 cq6, e = .returned (.agg #[.int .i64 k6, .int .i64 d6, .slice p6 n6 cap6, .slice q6 m6 cq6]) ∧ KD (Fr w w') 1 w' (.agg #[.int .i64 k6, .int .i64 d6, .slice p6 n6 cap6, .slice q6 m6 cq6]) t2 ∧ w.grownBy w' none) := fun w g => (HP w _ g (DPoint.dk.mono g hd0)).mono fun e w' ⟨v', he, hk, hg⟩ => by
    obtain ⟨k6, d6, n6, f6, kids6, p6, cap6, q6, cq6, _, hv⟩ := hk.form
    exact ⟨k6, d6, p6, n6, cap6, q6, _, cq6, by rw [he, hv], by rw [← hv]; exact hk, hg⟩
  have HG := Lib.hid (gt_alloc_r (World.grownBy_alloc W (.cells #[.int .i64 1, .iface 165 (.pointer (some ⟨b, 0, none⟩))] 57) none) (.cells #[.int .i64 0, .int .i64 0, .slice none 0 0, .slice none 0 0] 33))
  have HC : Hid (∀ w, ((W.alloc (.cells #[.int .i64 1, .iface 165 (.pointer (some ⟨b, 0, none⟩))] 57)).alloc (.cells #[.int .i64 0, .int .i64 0, .slice none 0 0, .slice none 0 0] 33)).grownBy w none → (w.cell? ⟨W.heap.size, 0, none⟩ = some (.int .i64 1) ∧ w.cell? ⟨W.heap.size, 1, none⟩ = some (.iface 165 (.pointer (some ⟨b, 0, none⟩)))) ∧ (w.cell? ⟨W.heap.size + 1, 0, none⟩ = some (.int .i64 0) ∧ w.cell? ⟨W.heap.size + 1, 1, none⟩ = some (.int .i64 0) ∧ w.cell? ⟨W.heap.size + 1, 2, none⟩ = some (.slice none 0 0) ∧ w.cell? ⟨W.heap.size + 1, 3, none⟩ = some (.slice none 0 0)) ∧ ∀ j, w.frozen? ⟨W.heap.size + 1, j, none⟩ = false) := fun w g => by
    have hb := g.block (W.heap.size + 1) (by simp) (by simp)
    refine ⟨⟨g.cell (by simp) (by simp), g.cell (by simp) (by simp)⟩, ⟨g.cell (by simp) (by simp), g.cell (by simp) (by simp), g.cell (by simp) (by simp), g.cell (by simp) (by simp)⟩, fun j => ?_⟩
    rw [World.frozen?_of_block hb]; simp
  have HT := Lib.hid (fun w => geoType_any 1 165 b w)
  clear hx hd hd0 HP hkd hB1
  go_enter Tryz.func32, Tryz.ntmps32
  go_wp2_with (first
    | (go_at_call 72; refine (HT.out _).mono ?_; rintro e w1 ⟨rfl, hg1⟩; obtain ⟨⟨k0, k1⟩, _, _⟩ := HC.out _ hg1)
    | (go_at_call 75; refine (HM.out _ (gt_trans HG.out hg1 (.inl rfl))).mono ?_; rintro e w2 ⟨rfl, hg2⟩; have G2 := gt_trans hg1 hg2 (.inl rfl))
    | (go_at_call 74; refine (HPp.out _ (gt_trans HG.out G2 (.inl rfl))).mono ?_; rintro e w3 ⟨k6, d6, p6, n6, cap6, q6, m6, cq6, rfl, hk, hg3⟩; have Hk := Lib.hid hk; clear hk; have G3 := gt_trans G2 hg3 (.inl rfl); obtain ⟨_, ⟨r0, r1, r2, r3⟩, rf⟩ := HC.out _ G3; have rf0 := rf 0; have rf1 := rf 1; have rf2 := rf 2; have rf3 := rf 3))
  have hs2 : W.heap.size + 2 ≤ w2.heap.size := by have := G2.size; simp at this; omega
  refine bodyPost_ret (by simp [results, Tryz.results32, go_sem, r0, r1, r2, r3]; try rfl) rfl ?_
  have ks : ∀ (w : World) (j : Nat) (y : Value), Kept (Fr w2 w3) w (w.setCell ⟨W.heap.size + 1, j, none⟩ y) := fun w j y => .set (fun hB => by have h2 : w2.heap.size ≤ W.heap.size + 1 := hB.1; omega) y
  have gs : ∀ (w : World) (j : Nat) (y : Value), W.grownBy w none → W.grownBy (w.setCell ⟨W.heap.size + 1, j, none⟩ y) none := fun w j y g => gt_set_r g _ _ (Nat.le_succ _)
  refine ⟨_, rfl, ((((Hk.out.keep (ks _ _ _)).keep (ks _ _ _)).keep (ks _ _ _)).keep (ks _ _ _)).weak fun b hb => ⟨by have := hb.1; omega, by simp [World.setCell]; exact hb.2⟩, gs _ _ _ (gs _ _ _ (gs _ _ _ (gs _ _ _ (gt_trans HG.out G3 (.inl rfl)))))⟩

set_option maxRecDepth 100000 in
set_option maxHeartbeats 2000000 in
theorem plain_4 (B : Nat → Prop) (W : World) (v : Value) (t t2 : Raw) (hd : GeoK 4 173 DMpt B W v t) (HP : ∀ w x, W.grownBy w none → DMpt B w x t → Calls Tryz.prog 78 #[x] w fun e w' => ∃ v', e = .returned v' ∧ KD (Fr w w') 2 w' v' t2 ∧ w.grownBy w' none) :
    Calls Tryz.prog 32 #[v] W fun e w' => ∃ v', e = .returned v' ∧ KD (Fr W w') 2 w' v' t2 ∧ W.grownBy w' none := by
  obtain ⟨b, x, hkd, hv, hB1, hx, hd⟩ := hd
  subst hv
  have hd0 := hd
  obtain ⟨ep, en, ec, er, rfl⟩ := DMpt.form hd
  have h0 := hx 0 (.slice ep en ec) rfl
  have h1 := hx 1 (.int .u8 er) rfl
  have hb : b < W.heap.size := World.block_lt_of_cell? W _ h0
  have HM := Lib.hid (fun w (g : W.grownBy w none) => MustAsMultiPoint _ _ _ _ b w (g.cell h0 (by simp)) (g.cell h1 (by simp)) (Nat.lt_of_lt_of_le hb g.size))
  have HPp : Hid (∀ w, W.grownBy w none → Calls Tryz.prog 78 #[.agg #[.slice ep en ec, .int .u8 er]] w fun e w' => ∃ k6 d6 p6 n6 cap6 q6 m6 cq6, e = .returned (.agg #[.int .i64 k6, .int .i64 d6, .slice p6 n6 cap6, .slice q6 m6 cq6]) ∧ KD (Fr w w') 2 w' (.agg #[.int .i64 k6, .int .i64 d6, .slice p6 n6 cap6, .slice q6 m6 cq6]) t2 ∧ w.grownBy w' none) := fun w g => (HP w _ g (DMpt.dk.toDK0.mono g hd0)).mono fun e w' ⟨v', he, hk, hg⟩ => by
    obtain ⟨k6, d6, n6, f6, kids6, p6, cap6, q6, cq6, _, hv⟩ := hk.form
    exact ⟨k6, d6, p6, n6, cap6, q6, _, cq6, by rw [he, hv], by rw [← hv]; exact hk, hg⟩
  have HG := Lib.hid (gt_alloc_r (World.grownBy_alloc W (.cells #[.int .i64 4, .iface 173 (.pointer (some ⟨b, 0, none⟩))] 57) none) (.cells #[.int .i64 0, .int .i64 0, .slice none 0 0, .slice none 0 0] 33))
  have HC : Hid (∀ w, ((W.alloc (.cells #[.int .i64 4, .iface 173 (.pointer (some ⟨b, 0, none⟩))] 57)).alloc (.cells #[.int .i64 0, .int .i64 0, .slice none 0 0, .slice none 0 0] 33)).grownBy w none → (w.cell? ⟨W.heap.size, 0, none⟩ = some (.int .i64 4) ∧ w.cell? ⟨W.heap.size, 1, none⟩ = some (.iface 173 (.pointer (some ⟨b, 0, none⟩)))) ∧ (w.cell? ⟨W.heap.size + 1, 0, none⟩ = some (.int .i64 0) ∧ w.cell? ⟨W.heap.size + 1, 1, none⟩ = some (.int .i64 0) ∧ w.cell? ⟨W.heap.size + 1, 2, none⟩ = some (.slice none 0 0) ∧ w.cell? ⟨W.heap.size + 1, 3, none⟩ = some (.slice none 0 0)) ∧ ∀ j, w.frozen? ⟨W.heap.size + 1, j, none⟩ = false) := fun w g => by
    have hb := g.block (W.heap.size + 1) (by simp) (by simp)
    refine ⟨⟨g.cell (by simp) (by simp), g.cell (by simp) (by simp)⟩, ⟨g.cell (by simp) (by simp), g.cell (by simp) (by simp), g.cell (by simp) (by simp), g.cell (by simp) (by simp)⟩, fun j => ?_⟩
    rw [World.frozen?_of_block hb]; simp
  have HT := Lib.hid (fun w => geoType_any 4 173 b w)
  clear hx hd hd0 HP hkd hB1
  go_enter Tryz.func32, Tryz.ntmps32
  go_wp2_with (first
    | (go_at_call 72; refine (HT.out _).mono ?_; rintro e w1 ⟨rfl, hg1⟩; obtain ⟨⟨k0, k1⟩, _, _⟩ := HC.out _ hg1)
    | (go_at_call 79; refine (HM.out _ (gt_trans HG.out hg1 (.inl rfl))).mono ?_; rintro e w2 ⟨rfl, hg2⟩; have G2 := gt_trans hg1 hg2 (.inl rfl))
    | (go_at_call 78; refine (HPp.out _ (gt_trans HG.out G2 (.inl rfl))).mono ?_; rintro e w3 ⟨k6, d6, p6, n6, cap6, q6, m6, cq6, rfl, hk, hg3⟩; have Hk := Lib.hid hk; clear hk; have G3 := gt_trans G2 hg3 (.inl rfl); obtain ⟨_, ⟨r0, r1, r2, r3⟩, rf⟩ := HC.out _ G3; have rf0 := rf 0; have rf1 := rf 1; have rf2 := rf 2; have rf3 := rf 3))
  have hs2 : W.heap.size + 2 ≤ w2.heap.size := by have := G2.size; simp at this; omega
  refine bodyPost_ret (by simp [results, Tryz.results32, go_sem, r0, r1, r2, r3]; try rfl) rfl ?_
  have ks : ∀ (w : World) (j : Nat) (y : Value), Kept (Fr w2 w3) w (w.setCell ⟨W.heap.size + 1, j, none⟩ y) := fun w j y => .set (fun hB => by have h2 : w2.heap.size ≤ W.heap.size + 1 := hB.1; omega) y
  have gs : ∀ (w : World) (j : Nat) (y : Value), W.grownBy w none → W.grownBy (w.setCell ⟨W.heap.size + 1, j, none⟩ y) none := fun w j y g => gt_set_r g _ _ (Nat.le_succ _)
  refine ⟨_, rfl, ((((Hk.out.keep (ks _ _ _)).keep (ks _ _ _)).keep (ks _ _ _)).keep (ks _ _ _)).weak fun b hb => ⟨by have := hb.1; omega, by simp [World.setCell]; exact hb.2⟩, gs _ _ _ (gs _ _ _ (gs _ _ _ (gs _ _ _ (gt_trans HG.out G3 (.inl rfl)))))⟩
end Go.Proofs.YtlpaecafpbbbkaaGreatDoor
namespace Go.Proofs.YtlpaecafpbbbkaaGreatDoor
open Go.RowKit
theorem GeoK.mono_ {k : Int} {ty : Nat} {D : (Nat → Prop) → World → Value → Raw → Prop} {K : DK0 D} {B : Nat → Prop} {W W' : World} {v : Value} {t : Raw} (g : W.grownBy W' none) (h : GeoK k ty D B W v t) : GeoK k ty D B W' v t := (GeoK.dk K).mono g h

set_option maxRecDepth 100000 in
set_option maxHeartbeats 2000000 in
theorem implSimplify_1 (W : World) (kk d : Int) (p q : Option Addr) (n cap m c2 th : Nat) (tn t2 : Raw)
    (hB : ∀ w, W.grownBy w none → Calls Tryz.prog 29 #[.agg #[.int .i64 kk, .int .i64 d, .slice p n cap, .slice q m c2]] w fun e w' => ∃ v', e = .returned v' ∧ GeoK 1 165 DPoint (Fr w w') w' v' tn ∧ w.grownBy w' none)
    (hP : ∀ B w x, DPoint B w x tn → Calls Tryz.prog 74 #[x] w fun e w' => ∃ v', e = .returned v' ∧ KD (Fr w w') 1 w' v' t2 ∧ w.grownBy w' none) :
    Calls Tryz.prog 11 #[.agg #[.int .i64 kk, .int .i64 d, .slice p n cap, .slice q m c2], .float .f64 th, .bool true] W fun e w' => ∃ v', e = .returned (.tuple #[v', .bool true]) ∧ KD (Fr W w') 1 w' v' t2 ∧ W.grownBy w' none := by
  have HG := Lib.hid (gt_alloc_r (World.grownBy_alloc W (.cells #[.int .i64 kk, .int .i64 d, .slice p n cap, .slice q m c2] 33) none) (.cells #[.int .i64 0, .int .i64 0, .slice none 0 0, .slice none 0 0] 33))
  have HC : Hid (∀ w, ((W.alloc (.cells #[.int .i64 kk, .int .i64 d, .slice p n cap, .slice q m c2] 33)).alloc (.cells #[.int .i64 0, .int .i64 0, .slice none 0 0, .slice none 0 0] 33)).grownBy w none → (w.cell? ⟨W.heap.size + 1, 0, none⟩ = some (.int .i64 0) ∧ w.cell? ⟨W.heap.size + 1, 1, none⟩ = some (.int .i64 0) ∧ w.cell? ⟨W.heap.size + 1, 2, none⟩ = some (.slice none 0 0) ∧ w.cell? ⟨W.heap.size + 1, 3, none⟩ = some (.slice none 0 0)) ∧ ∀ j, w.frozen? ⟨W.heap.size + 1, j, none⟩ = false) := fun w g => by
    have hb := g.block (W.heap.size + 1) (by simp) (by simp)
    refine ⟨⟨g.cell (by simp) (by simp), g.cell (by simp) (by simp), g.cell (by simp) (by simp), g.cell (by simp) (by simp)⟩, fun j => ?_⟩
    rw [World.frozen?_of_block hb]; simp
  have HBd : Hid (∀ w, W.grownBy w none → Calls Tryz.prog 29 #[.agg #[.int .i64 kk, .int .i64 d, .slice p n cap, .slice q m c2]] w fun e w' => ∃ b, e = .returned (.agg #[.int .i64 1, .iface 165 (.pointer (some ⟨b, 0, none⟩))]) ∧ GeoK 1 165 DPoint (Fr w w') w' (.agg #[.int .i64 1, .iface 165 (.pointer (some ⟨b, 0, none⟩))]) tn ∧ w.grownBy w' none) := fun w g => (hB w g).mono fun e w' ⟨v', he, hk, hg⟩ => by
    have hk2 := hk
    obtain ⟨b, x, hkd, hv, _⟩ := hk2
    subst hv
    exact ⟨b, he, hk, hg⟩
  have HPl : Hid (∀ (B : Nat → Prop) w b, GeoK 1 165 DPoint B w (.agg #[.int .i64 1, .iface 165 (.pointer (some ⟨b, 0, none⟩))]) tn → Calls Tryz.prog 32 #[.agg #[.int .i64 1, .iface 165 (.pointer (some ⟨b, 0, none⟩))]] w fun e w' => ∃ k6 d6 p6 n6 cap6 q6 m6 cq6, e = .returned (.agg #[.int .i64 k6, .int .i64 d6, .slice p6 n6 cap6, .slice q6 m6 cq6]) ∧ KD (Fr w w') 1 w' (.agg #[.int .i64 k6, .int .i64 d6, .slice p6 n6 cap6, .slice q6 m6 cq6]) t2 ∧ w.grownBy w' none) := fun B w b hk => (plain_1 B w _ tn t2 hk (fun w2 x _ hd => hP B w2 x hd)).mono fun e w' ⟨v', he, hk, hg⟩ => by
    obtain ⟨k6, d6, n6, f6, kids6, p6, cap6, q6, cq6, _, hv⟩ := hk.form
    exact ⟨k6, d6, p6, n6, cap6, q6, _, cq6, by rw [he, hv], by rw [← hv]; exact hk, hg⟩
  have HSi := Lib.hid (fun b w => simplify_1 165 b th _ rfl w)
  clear hB hP
  go_enter Tryz.func11, Tryz.ntmps11
  go_wp2_with (first
    | (go_at_call 29; refine (HBd.out _ HG.out).mono ?_; rintro e w1 ⟨b, rfl, hk1, hg1⟩; have Hk1 := Lib.hid hk1; clear hk1)
    | (go_at_call 31; refine (noCheck_true _).mono ?_; rintro e wn ⟨rfl, rfl⟩)
    | (go_at_call 30; refine (HSi.out b _).mono ?_; rintro e w2 ⟨rfl, hg2⟩; have G2 := gt_trans hg1 hg2 (.inl rfl))
    | (go_at_call 32; refine (HPl.out _ _ b (GeoK.mono_ (K := DPoint.dk) (gt_alloc_r hg2 _) Hk1.out)).mono ?_; rintro e w3 ⟨k6, d6, p6, n6, cap6, q6, m6, cq6, rfl, hk, hg3⟩; have Hk := Lib.hid hk; clear hk; have G3 := gt_trans (gt_alloc_r G2 _) hg3 (.inl rfl); obtain ⟨⟨r0, r1, r2, r3⟩, rf⟩ := HC.out _ G3; have rf0 := rf 0; have rf1 := rf 1; have rf2 := rf 2; have rf3 := rf 3))
  have hs2 : W.heap.size + 2 ≤ w2.heap.size := by have := G2.size; simp at this; omega
  refine bodyPost_ret (by simp [results, Tryz.results11, go_sem, r0, r1, r2, r3]; try rfl) rfl ?_
  have ks : ∀ (w : World) (j : Nat) (y : Value), Kept (fun b => w2.heap.size ≤ b ∧ b < w3.heap.size) w (w.setCell ⟨W.heap.size + 1, j, none⟩ y) := fun w j y => .set (fun hB => by have h2 : w2.heap.size ≤ W.heap.size + 1 := hB.1; omega) y
  have gs : ∀ (w : World) (j : Nat) (y : Value), W.grownBy w none → W.grownBy (w.setCell ⟨W.heap.size + 1, j, none⟩ y) none := fun w j y g => gt_set_r g _ _ (Nat.le_succ _)
  have Hk9 := Hk.out.weak (B' := fun b => w2.heap.size ≤ b ∧ b < w3.heap.size) (fun b hb => ⟨by have := hb.1; simp at this; omega, hb.2⟩)
  refine ⟨_, rfl, ((((Hk9.keep (ks _ _ _)).keep (ks _ _ _)).keep (ks _ _ _)).keep (ks _ _ _)).weak fun b hb => ⟨by have := hb.1; omega, by simp [World.setCell]; exact hb.2⟩, gs _ _ _ (gs _ _ _ (gs _ _ _ (gs _ _ _ (gt_trans HG.out G3 (.inl rfl)))))⟩

set_option maxRecDepth 100000 in
set_option maxHeartbeats 2000000 in
theorem implSimplify_4 (W : World) (kk d : Int) (p q : Option Addr) (n cap m c2 th : Nat) (tn t2 : Raw)
    (hB : ∀ w, W.grownBy w none → Calls Tryz.prog 29 #[.agg #[.int .i64 kk, .int .i64 d, .slice p n cap, .slice q m c2]] w fun e w' => ∃ v', e = .returned v' ∧ GeoK 4 173 DMpt (Fr w w') w' v' tn ∧ w.grownBy w' none)
    (hP : ∀ B w x, DMpt B w x tn → Calls Tryz.prog 78 #[x] w fun e w' => ∃ v', e = .returned v' ∧ KD (Fr w w') 2 w' v' t2 ∧ w.grownBy w' none) :
    Calls Tryz.prog 11 #[.agg #[.int .i64 kk, .int .i64 d, .slice p n cap, .slice q m c2], .float .f64 th, .bool true] W fun e w' => ∃ v', e = .returned (.tuple #[v', .bool true]) ∧ KD (Fr W w') 2 w' v' t2 ∧ W.grownBy w' none := by
  have HG := Lib.hid (gt_alloc_r (World.grownBy_alloc W (.cells #[.int .i64 kk, .int .i64 d, .slice p n cap, .slice q m c2] 33) none) (.cells #[.int .i64 0, .int .i64 0, .slice none 0 0, .slice none 0 0] 33))
  have HC : Hid (∀ w, ((W.alloc (.cells #[.int .i64 kk, .int .i64 d, .slice p n cap, .slice q m c2] 33)).alloc (.cells #[.int .i64 0, .int .i64 0, .slice none 0 0, .slice none 0 0] 33)).grownBy w none → (w.cell? ⟨W.heap.size + 1, 0, none⟩ = some (.int .i64 0) ∧ w.cell? ⟨W.heap.size + 1, 1, none⟩ = some (.int .i64 0) ∧ w.cell? ⟨W.heap.size + 1, 2, none⟩ = some (.slice none 0 0) ∧ w.cell? ⟨W.heap.size + 1, 3, none⟩ = some (.slice none 0 0)) ∧ ∀ j, w.frozen? ⟨W.heap.size + 1, j, none⟩ = false) := fun w g => by
    have hb := g.block (W.heap.size + 1) (by simp) (by simp)
    refine ⟨⟨g.cell (by simp) (by simp), g.cell (by simp) (by simp), g.cell (by simp) (by simp), g.cell (by simp) (by simp)⟩, fun j => ?_⟩
    rw [World.frozen?_of_block hb]; simp
  have HBd : Hid (∀ w, W.grownBy w none → Calls Tryz.prog 29 #[.agg #[.int .i64 kk, .int .i64 d, .slice p n cap, .slice q m c2]] w fun e w' => ∃ b, e = .returned (.agg #[.int .i64 4, .iface 173 (.pointer (some ⟨b, 0, none⟩))]) ∧ GeoK 4 173 DMpt (Fr w w') w' (.agg #[.int .i64 4, .iface 173 (.pointer (some ⟨b, 0, none⟩))]) tn ∧ w.grownBy w' none) := fun w g => (hB w g).mono fun e w' ⟨v', he, hk, hg⟩ => by
    have hk2 := hk
    obtain ⟨b, x, hkd, hv, _⟩ := hk2
    subst hv
    exact ⟨b, he, hk, hg⟩
  have HPl : Hid (∀ (B : Nat → Prop) w b, GeoK 4 173 DMpt B w (.agg #[.int .i64 4, .iface 173 (.pointer (some ⟨b, 0, none⟩))]) tn → Calls Tryz.prog 32 #[.agg #[.int .i64 4, .iface 173 (.pointer (some ⟨b, 0, none⟩))]] w fun e w' => ∃ k6 d6 p6 n6 cap6 q6 m6 cq6, e = .returned (.agg #[.int .i64 k6, .int .i64 d6, .slice p6 n6 cap6, .slice q6 m6 cq6]) ∧ KD (Fr w w') 2 w' (.agg #[.int .i64 k6, .int .i64 d6, .slice p6 n6 cap6, .slice q6 m6 cq6]) t2 ∧ w.grownBy w' none) := fun B w b hk => (plain_4 B w _ tn t2 hk (fun w2 x _ hd => hP B w2 x hd)).mono fun e w' ⟨v', he, hk, hg⟩ => by
    obtain ⟨k6, d6, n6, f6, kids6, p6, cap6, q6, cq6, _, hv⟩ := hk.form
    exact ⟨k6, d6, p6, n6, cap6, q6, _, cq6, by rw [he, hv], by rw [← hv]; exact hk, hg⟩
  have HSi := Lib.hid (fun b w => simplify_4 173 b th _ rfl w)
  clear hB hP
  go_enter Tryz.func11, Tryz.ntmps11
  go_wp2_with (first
    | (go_at_call 29; refine (HBd.out _ HG.out).mono ?_; rintro e w1 ⟨b, rfl, hk1, hg1⟩; have Hk1 := Lib.hid hk1; clear hk1)
    | (go_at_call 31; refine (noCheck_true _).mono ?_; rintro e wn ⟨rfl, rfl⟩)
    | (go_at_call 30; refine (HSi.out b _).mono ?_; rintro e w2 ⟨rfl, hg2⟩; have G2 := gt_trans hg1 hg2 (.inl rfl))
    | (go_at_call 32; refine (HPl.out _ _ b (GeoK.mono_ (K := DMpt.dk.toDK0) (gt_alloc_r hg2 _) Hk1.out)).mono ?_; rintro e w3 ⟨k6, d6, p6, n6, cap6, q6, m6, cq6, rfl, hk, hg3⟩; have Hk := Lib.hid hk; clear hk; have G3 := gt_trans (gt_alloc_r G2 _) hg3 (.inl rfl); obtain ⟨⟨r0, r1, r2, r3⟩, rf⟩ := HC.out _ G3; have rf0 := rf 0; have rf1 := rf 1; have rf2 := rf 2; have rf3 := rf 3))
  have hs2 : W.heap.size + 2 ≤ w2.heap.size := by have := G2.size; simp at this; omega
  refine bodyPost_ret (by simp [results, Tryz.results11, go_sem, r0, r1, r2, r3]; try rfl) rfl ?_
  have ks : ∀ (w : World) (j : Nat) (y : Value), Kept (fun b => w2.heap.size ≤ b ∧ b < w3.heap.size) w (w.setCell ⟨W.heap.size + 1, j, none⟩ y) := fun w j y => .set (fun hB => by have h2 : w2.heap.size ≤ W.heap.size + 1 := hB.1; omega) y
  have gs : ∀ (w : World) (j : Nat) (y : Value), W.grownBy w none → W.grownBy (w.setCell ⟨W.heap.size + 1, j, none⟩ y) none := fun w j y g => gt_set_r g _ _ (Nat.le_succ _)
  have Hk9 := Hk.out.weak (B' := fun b => w2.heap.size ≤ b ∧ b < w3.heap.size) (fun b hb => ⟨by have := hb.1; simp at this; omega, hb.2⟩)
  refine ⟨_, rfl, ((((Hk9.keep (ks _ _ _)).keep (ks _ _ _)).keep (ks _ _ _)).keep (ks _ _ _)).weak fun b hb => ⟨by have := hb.1; omega, by simp [World.setCell]; exact hb.2⟩, gs _ _ _ (gs _ _ _ (gs _ _ _ (gs _ _ _ (gt_trans HG.out G3 (.inl rfl)))))⟩
end Go.Proofs.YtlpaecafpbbbkaaGreatDoor
namespace Go.Proofs.YtlpaecafpbbbkaaGreatDoor
open Go.RowKit

theorem plPt_xy (n : Nat) (f : Nat → Nat) (hn : n = 0 ∨ n = 2) (hf : ∀ i, f i < 18446744073709551616) (w : World) :
    Calls Tryz.prog 74 #[(ptR (.mk 1 0 n f [])).v] w fun e w' => ∃ v', e = .returned v' ∧ KD (Fr w w') 1 w' v' (.mk 1 0 n f []) ∧ w.grownBy w' none := by
  have e0 : ptR (.mk 1 0 n f []) = ptOf 0 n f := ptR_of (r := 0) (by omega)
  rw [e0]
  rcases hn with rfl | rfl
  · have e1 : ptOf 0 0 f = ptE 0 := by unfold ptOf; rw [if_pos (Nat.zero_div _)]
    rw [e1]
    exact plPtE 0 (by omega) f hf w
  · have e2 : ptOf 0 2 f = ⟨f 0, f 1, 0, 0, 0, true⟩ := by
      unfold ptOf
      rw [if_neg (by decide)]
      simp [plX, plY, plZ, plM, widN]
    rw [e2]
    exact plPt0 f hf w
theorem simp_pt (h : Nat) (B : Nat → Prop) (W : World) (v : Value) (t : Shp) (hg : pt1 t) (th : Nat) (hk : KD B h W v (rawS t)) (hw : wt (rawS t) ≤ 2000) :
    Calls Tryz.prog 11 #[v, .float .f64 th, .bool true] W fun e w' => ∃ v', e = .returned (.tuple #[v', .bool true]) ∧ KD (Fr W w') 1 w' v' (rawS t) ∧ W.grownBy w' none := by
  obtain ⟨n, f, e, hn, e2, hf⟩ := new_pt t hg
  have hB := fun w (g : W.grownBy w none) => GeoBC h B w v (rawS t) (hk.mono g) hw
  rw [e2] at hB
  rw [e] at hk ⊢
  cases h with
  | zero => exact hk.elim
  | succ h =>
  obtain ⟨p, cap, q, c2, rfl, _⟩ := hk
  refine implSimplify_1 W 1 0 p q n cap _ c2 th (.mk 1 0 n f []) (.mk 1 0 n f []) (fun w g => (hB w g).mono fun e w' ⟨v', he, hd, hg⟩ => ⟨v', he, ?_, hg⟩) (fun B w x hd => ?_)
  · rcases hd with hd | hd | hd | hd | hd | hd | hd
    · exact hd
    all_goals (obtain ⟨b, x, hkd, _⟩ := hd; have hk9 : (1 : Int) = _ := hkd; exact absurd hk9 (by decide))
  · obtain ⟨_, hv⟩ := hd
    rw [hv]
    exact plPt_xy n f hn hf w

theorem mem_rawSs : ∀ (kids : List Shp) (s : Raw), s ∈ rawSs kids → ∃ t ∈ kids, s = rawS t
  | [], s, h => by simp [rawSs] at h
  | t :: ts, s, h => by
    unfold rawSs at h
    rcases List.mem_cons.1 h with rfl | h
    · exact ⟨t, List.mem_cons_self, rfl⟩
    · obtain ⟨u, hu, e⟩ := mem_rawSs ts s h
      exact ⟨u, List.mem_cons_of_mem _ hu, e⟩
theorem simp_mp (h : Nat) (B : Nat → Prop) (W : World) (v : Value) (kids : List Shp) (hg : ∀ s ∈ kids, pt1 s) (hl : kids.length ≤ 2000) (th : Nat) (hk : KD B h W v (rawS (.mk 4 [] kids))) (hw : wt (rawS (.mk 4 [] kids)) ≤ 2000) :
    Calls Tryz.prog 11 #[v, .float .f64 th, .bool true] W fun e w' => ∃ v', e = .returned (.tuple #[v', .bool true]) ∧ KD (Fr W w') 2 w' v' (.mk 4 0 0 (fun _ => 0) (rawSs kids)) ∧ W.grownBy w' none := by
  obtain ⟨f', e2⟩ := new_mp kids hg
  have hB := fun w (g : W.grownBy w none) => GeoBC h B w v (rawS (.mk 4 [] kids)) (hk.mono g) hw
  rw [e2] at hB
  unfold rawS at hk
  cases h with
  | zero => exact hk.elim
  | succ h =>
  obtain ⟨p, cap, q, c2, rfl, _⟩ := hk
  refine implSimplify_4 W 4 0 p q _ cap _ c2 th (.mk 4 0 0 f' (rawSs kids)) (.mk 4 0 0 (fun _ => 0) (rawSs kids)) (fun w g => (hB w g).mono fun e w' ⟨v', he, hd, hg⟩ => ⟨v', he, ?_, hg⟩) (fun B w x hd => ?_)
  · rcases hd with hd | hd | hd | hd | hd | hd | hd
    iterate 3 (first | exact hd | (obtain ⟨b, x, hkd, _⟩ := hd; have hk9 : (4 : Int) = _ := hkd; exact absurd hk9 (by decide)))
    · exact hd
    all_goals (obtain ⟨b, x, hkd, _⟩ := hd; have hk9 : (4 : Int) = _ := hkd; exact absurd hk9 (by decide))
  · obtain ⟨r, f, ks, p, c, e, hr, hpt, hv, hpr, hpb⟩ := hd
    simp only [Raw.mk.injEq] at e
    obtain ⟨_, e1, _, _, e3⟩ := e
    have e4 : r = 0 := by omega
    subst e4
    subst e3
    subst hv
    have hlr := rawSs_len kids
    exact plMpt_any 0 _ c (by omega) (by omega) p (rawSs kids) rfl w hpr (fun s hs w2 => by
      obtain ⟨t, ht, rfl⟩ := mem_rawSs kids s hs
      obtain ⟨n, f, e, hn, _, hf⟩ := new_pt t (hg t ht)
      rw [e]
      exact plPt_xy n f hn hf w2)
end Go.Proofs.YtlpaecafpbbbkaaGreatDoor
namespace Go.Proofs.YtlpaecafpbbbkaaGreatDoor
open Go.RowKit

set_option maxRecDepth 100000 in
set_option maxHeartbeats 400000 in
theorem formed_of (b : Bool) (k : Int) (p q : Option Addr) (n cap m c : Nat) (W : World) (H : ∀ w, W.grownBy w none → Calls Tryz.prog 27 #[.agg #[.int .i64 k, .slice p n cap, .slice q m c], .int .i64 1048576, .int .i64 100] w (EPost w b)) :
    Calls Tryz.prog 9 #[.agg #[.int .i64 k, .slice p n cap, .slice q m c], .int .i64 1048576] W (EPost W b) := by
  have HH := Lib.hid H
  have HG := Lib.hid (World.grownBy_alloc W (.cells #[.int .i64 k, .slice p n cap, .slice q m c] 25) none)
  clear H
  go_enter Tryz.func9, Tryz.ntmps9
  go_wp2_with (first
    | (go_at_call 27; refine (HH.out _ HG.out).mono ?_; rintro e w2 ⟨rfl, hg2⟩))
  go_ret
  exact ⟨rfl, gt_trans HG.out hg2 (.inl rfl)⟩
set_option maxRecDepth 100000 in
set_option maxHeartbeats 400000 in
theorem size_of (r : Nat) (k : Int) (p q : Option Addr) (n cap m c : Nat) (W : World) (H : ∀ w, W.grownBy w none → Calls Tryz.prog 28 #[.agg #[.int .i64 k, .slice p n cap, .slice q m c], .int .i64 100] w fun e w' => e = .returned (.int .i64 r) ∧ w.grownBy w' none) :
    Calls Tryz.prog 10 #[.agg #[.int .i64 k, .slice p n cap, .slice q m c]] W fun e w' => e = .returned (.int .i64 r) ∧ W.grownBy w' none := by
  have HH := Lib.hid H
  have HG := Lib.hid (World.grownBy_alloc W (.cells #[.int .i64 k, .slice p n cap, .slice q m c] 25) none)
  clear H
  go_enter Tryz.func10, Tryz.ntmps10
  go_wp2_with (first
    | (go_at_call 28; refine (HH.out _ HG.out).mono ?_; rintro e w2 ⟨rfl, hg2⟩))
  go_ret
  exact ⟨rfl, gt_trans HG.out hg2 (.inl rfl)⟩
end Go.Proofs.YtlpaecafpbbbkaaGreatDoor
namespace Go.Proofs.YtlpaecafpbbbkaaGreatDoor
open Go.RowKit

mutual
theorem SameT.refl : ∀ t : Raw, SameT t t
  | .mk k d n f kids => .mk (fun _ _ => rfl) rfl (fun i t t' h h' => by
      rw [h] at h'
      injection h' with e
      subst e
      exact SameT.refls kids i t h)
theorem SameT.refls : ∀ (ts : List Raw) (i : Nat) (t : Raw), ts[i]? = some t → SameT t t
  | [], _, _, h => by simp at h
  | s :: ts, 0, t, h => by
    simp at h
    subst h
    exact SameT.refl s
  | s :: ts, i + 1, t, h => SameT.refls ts i t (by simpa using h)
end
theorem okS_pt {t : Shp} (h : pt1 t) : okS t := by
  obtain ⟨k, pts, kids⟩ := t
  obtain ⟨_, hp, rfl⟩ := h
  unfold okS okSs
  exact ⟨by omega, by simp, trivial⟩
theorem okSs_pt : ∀ {ts : List Shp}, (∀ s ∈ ts, pt1 s) → okSs ts
  | [], _ => by unfold okSs; trivial
  | t :: ts, h => by
    unfold okSs
    exact ⟨okS_pt (h t List.mem_cons_self), okSs_pt fun s hs => h s (List.mem_cons_of_mem _ hs)⟩
theorem wt_pt {t : Shp} (h : pt1 t) : wt (rawS t) ≤ 3 := by
  obtain ⟨k, pts, kids⟩ := t
  obtain ⟨_, hp, rfl⟩ := h
  unfold rawS rawSs wt wts
  omega
theorem wts_pt : ∀ {ts : List Shp}, (∀ s ∈ ts, pt1 s) → wts (rawSs ts) ≤ 3 * ts.length
  | [], _ => by unfold rawSs wts; omega
  | t :: ts, h => by
    unfold rawSs wts
    have h1 := wt_pt (h t List.mem_cons_self)
    have h2 := wts_pt fun s hs => h s (List.mem_cons_of_mem _ hs)
    rw [List.length_cons]
    omega

set_option maxRecDepth 100000 in
set_option maxHeartbeats 1000000 in
theorem figure_any (h : Nat) (W : World) (k : Int) (p q : Option Addr) (n cap m c : Nat) (t : Shp) (hk : KS h W (.agg #[.int .i64 k, .slice p n cap, .slice q m c]) t) (hok : okS t) :
    Calls Tryz.prog 12 #[.agg #[.int .i64 k, .slice p n cap, .slice q m c]] W fun e w' => ∃ k6 d6 p6 n6 cap6 q6 m6 cq6, e = .returned (.agg #[.int .i64 k6, .int .i64 d6, .slice p6 n6 cap6, .slice q6 m6 cq6]) ∧ KD (Fr W w') h w' (.agg #[.int .i64 k6, .int .i64 d6, .slice p6 n6 cap6, .slice q6 m6 cq6]) (rawS t) ∧ W.grownBy w' none := by
  have HPp : Hid (∀ w, W.grownBy w none → Calls Tryz.prog 33 #[.agg #[.int .i64 k, .slice p n cap, .slice q m c]] w fun e w' => ∃ k6 d6 p6 n6 cap6 q6 m6 cq6, e = .returned (.agg #[.int .i64 k6, .int .i64 d6, .slice p6 n6 cap6, .slice q6 m6 cq6]) ∧ KD (Fr w w') h w' (.agg #[.int .i64 k6, .int .i64 d6, .slice p6 n6 cap6, .slice q6 m6 cq6]) (rawS t) ∧ w.grownBy w' none) := fun w g => (geomOf_any h w _ t (hk.mono g) hok).mono fun e w' ⟨v', he, hk, hg⟩ => by
    obtain ⟨k6, d6, n6, f6, kids6, p6, cap6, q6, cq6, _, hv⟩ := hk.form
    exact ⟨k6, d6, p6, n6, cap6, q6, _, cq6, by rw [he, hv], by rw [← hv]; exact hk, hg⟩
  have HG := Lib.hid (gt_alloc_r (World.grownBy_alloc W (.cells #[.int .i64 k, .slice p n cap, .slice q m c] 25) none) (.cells #[.int .i64 0, .int .i64 0, .slice none 0 0, .slice none 0 0] 33))
  have HC : Hid (∀ w, ((W.alloc (.cells #[.int .i64 k, .slice p n cap, .slice q m c] 25)).alloc (.cells #[.int .i64 0, .int .i64 0, .slice none 0 0, .slice none 0 0] 33)).grownBy w none → (w.cell? ⟨W.heap.size + 1, 0, none⟩ = some (.int .i64 0) ∧ w.cell? ⟨W.heap.size + 1, 1, none⟩ = some (.int .i64 0) ∧ w.cell? ⟨W.heap.size + 1, 2, none⟩ = some (.slice none 0 0) ∧ w.cell? ⟨W.heap.size + 1, 3, none⟩ = some (.slice none 0 0)) ∧ ∀ j, w.frozen? ⟨W.heap.size + 1, j, none⟩ = false) := fun w g => by
    have hb := g.block (W.heap.size + 1) (by simp) (by simp)
    refine ⟨⟨g.cell (by simp) (by simp), g.cell (by simp) (by simp), g.cell (by simp) (by simp), g.cell (by simp) (by simp)⟩, fun j => ?_⟩
    rw [World.frozen?_of_block hb]; simp
  clear hk hok
  go_enter Tryz.func12, Tryz.ntmps12
  go_wp2_with (first
    | (go_at_call 33; refine (HPp.out _ HG.out).mono ?_; rintro e w3 ⟨k6, d6, p6, n6, cap6, q6, m6, cq6, rfl, hk, hg3⟩; have Hk := Lib.hid hk; clear hk; obtain ⟨⟨r0, r1, r2, r3⟩, rf⟩ := HC.out _ hg3; have rf0 := rf 0; have rf1 := rf 1; have rf2 := rf 2; have rf3 := rf 3))
  refine bodyPost_ret (by simp [results, Tryz.results12, go_sem, r0, r1, r2, r3]; try rfl) rfl ?_
  have ks : ∀ (w : World) (j : Nat) (y : Value), Kept (fun b => W.heap.size + 2 ≤ b ∧ b < w3.heap.size) w (w.setCell ⟨W.heap.size + 1, j, none⟩ y) := fun w j y => .set (fun hB => by have h2 : W.heap.size + 2 ≤ W.heap.size + 1 := hB.1; omega) y
  have gs : ∀ (w : World) (j : Nat) (y : Value), W.grownBy w none → W.grownBy (w.setCell ⟨W.heap.size + 1, j, none⟩ y) none := fun w j y g => gt_set_r g _ _ (Nat.le_succ _)
  have Hk9 := Hk.out.weak (B' := fun b => W.heap.size + 2 ≤ b ∧ b < w3.heap.size) (fun b hb => ⟨by have := hb.1; simp at this; omega, hb.2⟩)
  exact ⟨_, _, _, _, _, _, _, _, rfl, ((((Hk9.keep (ks _ _ _)).keep (ks _ _ _)).keep (ks _ _ _)).keep (ks _ _ _)).weak fun b hb => ⟨by have := hb.1; omega, by simp [World.setCell]; exact hb.2⟩, gs _ _ _ (gs _ _ _ (gs _ _ _ (gs _ _ _ (gt_trans HG.out hg3 (.inl rfl)))))⟩
end Go.Proofs.YtlpaecafpbbbkaaGreatDoor
namespace Go.Proofs.YtlpaecafpbbbkaaGreatDoor
open Go.RowKit

/-- A struct of plain data comes back, beside the word that it is there. -/
def SiPost (h : Nat) (r : Raw) (W : World) (e : Ending) (w' : World) : Prop := ∃ k6 d6 p6 n6 cap6 q6 m6 cq6, e = .returned (.tuple #[.agg #[.int .i64 k6, .int .i64 d6, .slice p6 n6 cap6, .slice q6 m6 cq6], .bool true]) ∧ KD (Fr W w') h w' (.agg #[.int .i64 k6, .int .i64 d6, .slice p6 n6 cap6, .slice q6 m6 cq6]) r ∧ W.grownBy w' none
def FgPost (h : Nat) (r : Raw) (W : World) (e : Ending) (w' : World) : Prop := ∃ k6 d6 p6 n6 cap6 q6 m6 cq6, e = .returned (.agg #[.int .i64 k6, .int .i64 d6, .slice p6 n6 cap6, .slice q6 m6 cq6]) ∧ KD (Fr W w') h w' (.agg #[.int .i64 k6, .int .i64 d6, .slice p6 n6 cap6, .slice q6 m6 cq6]) r ∧ W.grownBy w' none

set_option maxRecDepth 100000 in
set_option maxHeartbeats 4000000 in
theorem simp_core (h : Nat) (W : World) (k : Int) (p q : Option Addr) (n cap m c th : Nat) (b : Bool) (sz : Nat) (r r' : Raw) (hk14 : k = 1 ∨ k = 4)
    (hF : ∀ w, W.grownBy w none → Calls Tryz.prog 9 #[.agg #[.int .i64 k, .slice p n cap, .slice q m c], .int .i64 1048576] w (EPost w b))
    (hSz : b = true → m ≤ 2147483647 → ∀ w, W.grownBy w none → Calls Tryz.prog 10 #[.agg #[.int .i64 k, .slice p n cap, .slice q m c]] w fun e w' => e = .returned (.int .i64 sz) ∧ w.grownBy w' none)
    (hFg : b = true → sz ≤ 200 → ∀ w, W.grownBy w none → Calls Tryz.prog 12 #[.agg #[.int .i64 k, .slice p n cap, .slice q m c]] w (FgPost h r w))
    (hSi : b = true → sz ≤ 200 → ∀ (B : Nat → Prop) w v, KD B h w v r → Calls Tryz.prog 11 #[v, .float .f64 th, .bool true] w (SiPost h r' w))
    (hsame : SameT r' r) :
    Calls Tryz.prog 3 #[.agg #[.int .i64 k, .slice p n cap, .slice q m c], .float .f64 th] W fun e w' => e = .returned (.bool true) ∧ W.grownBy w' none := by
  have HF := Lib.hid hF
  have HG := Lib.hid (World.grownBy_alloc W (.cells #[.int .i64 k, .slice p n cap, .slice q m c] 25) none)
  have HC : Hid (∀ w', (W.alloc (.cells #[.int .i64 k, .slice p n cap, .slice q m c] 25)).grownBy w' none → w'.cell? ⟨W.heap.size, 0, none⟩ = some (.int .i64 k) ∧ w'.cell? ⟨W.heap.size, 1, none⟩ = some (.slice p n cap) ∧ w'.cell? ⟨W.heap.size, 2, none⟩ = some (.slice q m c)) := fun w g => ⟨g.cell (by simp) (by simp), g.cell (by simp) (by simp), g.cell (by simp) (by simp)⟩
  obtain ⟨z, hz⟩ : ∃ z, z = (decide (n ≤ 2147483647) && decide (m ≤ 2147483647)) := ⟨_, rfl⟩
  have HZ : Hid (∀ w, W.grownBy w none → Calls Tryz.prog 8 #[.agg #[.int .i64 k, .slice p n cap, .slice q m c]] w (EPost w z)) := fun w _ => by rw [hz]; exact zzFits1_any k p q n cap m c w
  have HSa : Hid (∀ (B1 B2 : Nat → Prop) (w : World) (v1 v2 : Value), KD B1 h w v1 r' → KD B2 h w v2 r → Calls Tryz.prog 13 #[v1, v2] w fun e w' => e = .returned (.bool true) ∧ w.grownBy w' none) := fun B1 B2 w v1 v2 k1 k2 => sameOk h B1 B2 w v1 v2 r' r k1 k2 hsame
  have hzm : z = true → m ≤ 2147483647 := fun h => by
    rw [hz, Bool.and_eq_true] at h
    exact of_decide_eq_true h.2
  clear hF hz hsame
  rcases hk14 with rfl | rfl
  · cases z
    · clear hSz hFg hSi hzm
      go_enter Tryz.func3, Tryz.ntmps3
      go_wp2_with (first
    | (go_at_call 8; refine (HZ.out _ HG.out).mono ?_; rintro e w1 ⟨rfl, hg1⟩; have G1 := gt_trans HG.out hg1 (.inl rfl); obtain ⟨x0, x1, x2⟩ := HC.out _ hg1))
      go_ret
      exact ⟨rfl, G1⟩
    · cases b
      · clear hSz hFg hSi hzm
        go_enter Tryz.func3, Tryz.ntmps3
        go_wp2_with (first
    | (go_at_call 8; refine (HZ.out _ HG.out).mono ?_; rintro e w1 ⟨rfl, hg1⟩; have G1 := gt_trans HG.out hg1 (.inl rfl); obtain ⟨x0, x1, x2⟩ := HC.out _ hg1)
    | (go_at_call 9; refine (HF.out _ G1).mono ?_; rintro e w2 ⟨rfl, hg2⟩; have G2 := gt_trans G1 hg2 (.inl rfl); have g12 := gt_trans hg1 hg2 (.inl rfl); obtain ⟨y0, y1, y2⟩ := HC.out _ g12)
    | (go_at_call 10; refine (HSz.out _ G2).mono ?_; rintro e w3 ⟨rfl, hg3⟩; have G3 := gt_trans G2 hg3 (.inl rfl); have g13 := gt_trans g12 hg3 (.inl rfl); obtain ⟨u0, u1, u2⟩ := HC.out _ g13))
        go_ret
        exact ⟨rfl, G2⟩
      · have HSz := Lib.hid (hSz rfl (hzm rfl))
        by_cases hsz : sz ≤ 200
        · have HFg := Lib.hid (hFg rfl hsz)
          have HSi := Lib.hid (hSi rfl hsz)
          have hsi : ¬ (200 : Int) < (sz : Int) := by omega
          clear hSz hFg hSi hsz hzm
          go_enter Tryz.func3, Tryz.ntmps3
          go_wp2_with (first
    | (go_at_call 8; refine (HZ.out _ HG.out).mono ?_; rintro e w1 ⟨rfl, hg1⟩; have G1 := gt_trans HG.out hg1 (.inl rfl); obtain ⟨x0, x1, x2⟩ := HC.out _ hg1)
    | (go_at_call 9; refine (HF.out _ G1).mono ?_; rintro e w2 ⟨rfl, hg2⟩; have G2 := gt_trans G1 hg2 (.inl rfl); have g12 := gt_trans hg1 hg2 (.inl rfl); obtain ⟨y0, y1, y2⟩ := HC.out _ g12)
    | (go_at_call 10; refine (HSz.out _ G2).mono ?_; rintro e w3 ⟨rfl, hg3⟩; have G3 := gt_trans G2 hg3 (.inl rfl); have g13 := gt_trans g12 hg3 (.inl rfl); obtain ⟨u0, u1, u2⟩ := HC.out _ g13)
    | (go_at_call 12; refine (HFg.out _ G3).mono ?_; rintro e w4 ⟨k6, d6, p6, n6, cap6, q6, m6, cq6, rfl, hk4, hg4⟩; have Hk4 := Lib.hid hk4; clear hk4; have G4 := gt_trans G3 hg4 (.inl rfl); have g14 := gt_trans g13 hg4 (.inl rfl))
    | (go_at_call 11; refine (HSi.out _ _ _ Hk4.out).mono ?_; rintro e w5 ⟨k7, d7, p7, n7, cap7, q7, m7, cq7, rfl, hk5, hg5⟩; have Hk5 := Lib.hid hk5; clear hk5; have G5 := gt_trans G4 hg5 (.inl rfl); have g15 := gt_trans g14 hg5 (.inl rfl)))
          · go_ret
            exact ⟨rfl, G3⟩
          · obtain ⟨W6, hW6⟩ : ∃ W6, W6 = w5.alloc (.cells #[.int .i64 k7, .int .i64 d7, .slice p7 n7 cap7, .slice q7 m7 cq7] 33) := ⟨_, rfl⟩
            have g56 : w5.grownBy W6 none := by rw [hW6]; exact World.grownBy_alloc _ _ _
            have G6 := Lib.hid (gt_trans G5 g56 (.inl rfl))
            have HS6 : Hid (∀ w', W6.grownBy w' none → (w'.cell? ⟨w5.heap.size, 0, none⟩ = some (.int .i64 k7) ∧ w'.cell? ⟨w5.heap.size, 1, none⟩ = some (.int .i64 d7) ∧ w'.cell? ⟨w5.heap.size, 2, none⟩ = some (.slice p7 n7 cap7) ∧ w'.cell? ⟨w5.heap.size, 3, none⟩ = some (.slice q7 m7 cq7)) ∧ w'.cell? ⟨W.heap.size, 0, none⟩ = some (.int .i64 1) ∧ w'.cell? ⟨W.heap.size, 1, none⟩ = some (.slice p n cap) ∧ w'.cell? ⟨W.heap.size, 2, none⟩ = some (.slice q m c)) := fun w' g => by
              rw [hW6] at g
              exact ⟨⟨g.cell (by simp) (by simp), g.cell (by simp) (by simp), g.cell (by simp) (by simp), g.cell (by simp) (by simp)⟩, HC.out _ (gt_trans (gt_alloc_r g15 _) g (.inl rfl))⟩
            have HFg6 : Hid (∀ w, W6.grownBy w none → Calls Tryz.prog 12 #[.agg #[.int .i64 1, .slice p n cap, .slice q m c]] w fun e w' => ∃ k6 d6 p6 n6 cap6 q6 m6 cq6, e = .returned (.agg #[.int .i64 k6, .int .i64 d6, .slice p6 n6 cap6, .slice q6 m6 cq6]) ∧ KD (Fr w w') h w' (.agg #[.int .i64 k6, .int .i64 d6, .slice p6 n6 cap6, .slice q6 m6 cq6]) r ∧ W6.grownBy w' none) := fun w g => (HFg.out w (gt_trans G6.out g (.inl rfl))).mono fun e w' ⟨k6, d6, p6, n6, cap6, q6, m6, cq6, he, hk, hg⟩ => ⟨k6, d6, p6, n6, cap6, q6, m6, cq6, he, hk, gt_trans g hg (.inl rfl)⟩
            have HSa6 : Hid (∀ w v2, W6.grownBy w none → ∀ (B : Nat → Prop), KD B h w v2 r → Calls Tryz.prog 13 #[.agg #[.int .i64 k7, .int .i64 d7, .slice p7 n7 cap7, .slice q7 m7 cq7], v2] w fun e w' => e = .returned (.bool true) ∧ W6.grownBy w' none) := fun w v2 g B hk => (HSa.out _ B w _ v2 (Hk5.out.mono (gt_trans g56 g (.inl rfl))) hk).mono fun e w' ⟨he, hg⟩ => ⟨he, gt_trans g hg (.inl rfl)⟩
            rw [← hW6]
            clear hW6 x0 x1 x2 y0 y1 y2 u0 u1 u2
            have hgd : W6.grownBy W6.drew none := gt_drew_r (gt_refl _ _)
            go_region_held3 (fun w' => (w'.cell? ⟨w5.heap.size, 0, none⟩ = some (.int .i64 k7) ∧ w'.cell? ⟨w5.heap.size, 1, none⟩ = some (.int .i64 d7) ∧ w'.cell? ⟨w5.heap.size, 2, none⟩ = some (.slice p7 n7 cap7) ∧ w'.cell? ⟨w5.heap.size, 3, none⟩ = some (.slice q7 m7 cq7)) ∧ w'.cell? ⟨W.heap.size, 0, none⟩ = some (.int .i64 1) ∧ w'.cell? ⟨W.heap.size, 1, none⟩ = some (.slice p n cap) ∧ w'.cell? ⟨W.heap.size, 2, none⟩ = some (.slice q m c))
              (first | (refine HS6.out _ ?_; assumption))
              (first
                | (go_at_call 12; (with_reducible refine (HFg6.out _ ?_).mono ?_); assumption; rintro e w7 ⟨k8, d8, p8, n8, cap8, q8, m8, cq8, rfl, hk7, hg7⟩; have Hk7 := Lib.hid hk7; clear hk7)
                | (go_at_call 13; (with_reducible refine (HSa6.out _ _ ?_ _ Hk7.out).mono ?_); assumption; rintro e w8 ⟨rfl, hg8⟩))
            all_goals
              go_wp2_with fail
              go_ret
              exact ⟨rfl, gt_trans G6.out hg8 (.inl rfl)⟩
        · have hsi : (200 : Int) < (sz : Int) := by omega
          clear hSz hFg hSi hsz hzm
          go_enter Tryz.func3, Tryz.ntmps3
          go_wp2_with (first
    | (go_at_call 8; refine (HZ.out _ HG.out).mono ?_; rintro e w1 ⟨rfl, hg1⟩; have G1 := gt_trans HG.out hg1 (.inl rfl); obtain ⟨x0, x1, x2⟩ := HC.out _ hg1)
    | (go_at_call 9; refine (HF.out _ G1).mono ?_; rintro e w2 ⟨rfl, hg2⟩; have G2 := gt_trans G1 hg2 (.inl rfl); have g12 := gt_trans hg1 hg2 (.inl rfl); obtain ⟨y0, y1, y2⟩ := HC.out _ g12)
    | (go_at_call 10; refine (HSz.out _ G2).mono ?_; rintro e w3 ⟨rfl, hg3⟩; have G3 := gt_trans G2 hg3 (.inl rfl); have g13 := gt_trans g12 hg3 (.inl rfl); obtain ⟨u0, u1, u2⟩ := HC.out _ g13))
          go_ret
          exact ⟨rfl, G3⟩
  · cases z
    · clear hSz hFg hSi hzm
      go_enter Tryz.func3, Tryz.ntmps3
      go_wp2_with (first
    | (go_at_call 8; refine (HZ.out _ HG.out).mono ?_; rintro e w1 ⟨rfl, hg1⟩; have G1 := gt_trans HG.out hg1 (.inl rfl); obtain ⟨x0, x1, x2⟩ := HC.out _ hg1))
      go_ret
      exact ⟨rfl, G1⟩
    · cases b
      · clear hSz hFg hSi hzm
        go_enter Tryz.func3, Tryz.ntmps3
        go_wp2_with (first
    | (go_at_call 8; refine (HZ.out _ HG.out).mono ?_; rintro e w1 ⟨rfl, hg1⟩; have G1 := gt_trans HG.out hg1 (.inl rfl); obtain ⟨x0, x1, x2⟩ := HC.out _ hg1)
    | (go_at_call 9; refine (HF.out _ G1).mono ?_; rintro e w2 ⟨rfl, hg2⟩; have G2 := gt_trans G1 hg2 (.inl rfl); have g12 := gt_trans hg1 hg2 (.inl rfl); obtain ⟨y0, y1, y2⟩ := HC.out _ g12)
    | (go_at_call 10; refine (HSz.out _ G2).mono ?_; rintro e w3 ⟨rfl, hg3⟩; have G3 := gt_trans G2 hg3 (.inl rfl); have g13 := gt_trans g12 hg3 (.inl rfl); obtain ⟨u0, u1, u2⟩ := HC.out _ g13))
        go_ret
        exact ⟨rfl, G2⟩
      · have HSz := Lib.hid (hSz rfl (hzm rfl))
        by_cases hsz : sz ≤ 200
        · have HFg := Lib.hid (hFg rfl hsz)
          have HSi := Lib.hid (hSi rfl hsz)
          have hsi : ¬ (200 : Int) < (sz : Int) := by omega
          clear hSz hFg hSi hsz hzm
          go_enter Tryz.func3, Tryz.ntmps3
          go_wp2_with (first
    | (go_at_call 8; refine (HZ.out _ HG.out).mono ?_; rintro e w1 ⟨rfl, hg1⟩; have G1 := gt_trans HG.out hg1 (.inl rfl); obtain ⟨x0, x1, x2⟩ := HC.out _ hg1)
    | (go_at_call 9; refine (HF.out _ G1).mono ?_; rintro e w2 ⟨rfl, hg2⟩; have G2 := gt_trans G1 hg2 (.inl rfl); have g12 := gt_trans hg1 hg2 (.inl rfl); obtain ⟨y0, y1, y2⟩ := HC.out _ g12)
    | (go_at_call 10; refine (HSz.out _ G2).mono ?_; rintro e w3 ⟨rfl, hg3⟩; have G3 := gt_trans G2 hg3 (.inl rfl); have g13 := gt_trans g12 hg3 (.inl rfl); obtain ⟨u0, u1, u2⟩ := HC.out _ g13)
    | (go_at_call 12; refine (HFg.out _ G3).mono ?_; rintro e w4 ⟨k6, d6, p6, n6, cap6, q6, m6, cq6, rfl, hk4, hg4⟩; have Hk4 := Lib.hid hk4; clear hk4; have G4 := gt_trans G3 hg4 (.inl rfl); have g14 := gt_trans g13 hg4 (.inl rfl))
    | (go_at_call 11; refine (HSi.out _ _ _ Hk4.out).mono ?_; rintro e w5 ⟨k7, d7, p7, n7, cap7, q7, m7, cq7, rfl, hk5, hg5⟩; have Hk5 := Lib.hid hk5; clear hk5; have G5 := gt_trans G4 hg5 (.inl rfl); have g15 := gt_trans g14 hg5 (.inl rfl)))
          · go_ret
            exact ⟨rfl, G3⟩
          · obtain ⟨W6, hW6⟩ : ∃ W6, W6 = w5.alloc (.cells #[.int .i64 k7, .int .i64 d7, .slice p7 n7 cap7, .slice q7 m7 cq7] 33) := ⟨_, rfl⟩
            have g56 : w5.grownBy W6 none := by rw [hW6]; exact World.grownBy_alloc _ _ _
            have G6 := Lib.hid (gt_trans G5 g56 (.inl rfl))
            have HS6 : Hid (∀ w', W6.grownBy w' none → (w'.cell? ⟨w5.heap.size, 0, none⟩ = some (.int .i64 k7) ∧ w'.cell? ⟨w5.heap.size, 1, none⟩ = some (.int .i64 d7) ∧ w'.cell? ⟨w5.heap.size, 2, none⟩ = some (.slice p7 n7 cap7) ∧ w'.cell? ⟨w5.heap.size, 3, none⟩ = some (.slice q7 m7 cq7)) ∧ w'.cell? ⟨W.heap.size, 0, none⟩ = some (.int .i64 4) ∧ w'.cell? ⟨W.heap.size, 1, none⟩ = some (.slice p n cap) ∧ w'.cell? ⟨W.heap.size, 2, none⟩ = some (.slice q m c)) := fun w' g => by
              rw [hW6] at g
              exact ⟨⟨g.cell (by simp) (by simp), g.cell (by simp) (by simp), g.cell (by simp) (by simp), g.cell (by simp) (by simp)⟩, HC.out _ (gt_trans (gt_alloc_r g15 _) g (.inl rfl))⟩
            have HFg6 : Hid (∀ w, W6.grownBy w none → Calls Tryz.prog 12 #[.agg #[.int .i64 4, .slice p n cap, .slice q m c]] w fun e w' => ∃ k6 d6 p6 n6 cap6 q6 m6 cq6, e = .returned (.agg #[.int .i64 k6, .int .i64 d6, .slice p6 n6 cap6, .slice q6 m6 cq6]) ∧ KD (Fr w w') h w' (.agg #[.int .i64 k6, .int .i64 d6, .slice p6 n6 cap6, .slice q6 m6 cq6]) r ∧ W6.grownBy w' none) := fun w g => (HFg.out w (gt_trans G6.out g (.inl rfl))).mono fun e w' ⟨k6, d6, p6, n6, cap6, q6, m6, cq6, he, hk, hg⟩ => ⟨k6, d6, p6, n6, cap6, q6, m6, cq6, he, hk, gt_trans g hg (.inl rfl)⟩
            have HSa6 : Hid (∀ w v2, W6.grownBy w none → ∀ (B : Nat → Prop), KD B h w v2 r → Calls Tryz.prog 13 #[.agg #[.int .i64 k7, .int .i64 d7, .slice p7 n7 cap7, .slice q7 m7 cq7], v2] w fun e w' => e = .returned (.bool true) ∧ W6.grownBy w' none) := fun w v2 g B hk => (HSa.out _ B w _ v2 (Hk5.out.mono (gt_trans g56 g (.inl rfl))) hk).mono fun e w' ⟨he, hg⟩ => ⟨he, gt_trans g hg (.inl rfl)⟩
            rw [← hW6]
            clear hW6 x0 x1 x2 y0 y1 y2 u0 u1 u2
            have hgd : W6.grownBy W6.drew none := gt_drew_r (gt_refl _ _)
            go_region_held3 (fun w' => (w'.cell? ⟨w5.heap.size, 0, none⟩ = some (.int .i64 k7) ∧ w'.cell? ⟨w5.heap.size, 1, none⟩ = some (.int .i64 d7) ∧ w'.cell? ⟨w5.heap.size, 2, none⟩ = some (.slice p7 n7 cap7) ∧ w'.cell? ⟨w5.heap.size, 3, none⟩ = some (.slice q7 m7 cq7)) ∧ w'.cell? ⟨W.heap.size, 0, none⟩ = some (.int .i64 4) ∧ w'.cell? ⟨W.heap.size, 1, none⟩ = some (.slice p n cap) ∧ w'.cell? ⟨W.heap.size, 2, none⟩ = some (.slice q m c))
              (first | (refine HS6.out _ ?_; assumption))
              (first
                | (go_at_call 12; (with_reducible refine (HFg6.out _ ?_).mono ?_); assumption; rintro e w7 ⟨k8, d8, p8, n8, cap8, q8, m8, cq8, rfl, hk7, hg7⟩; have Hk7 := Lib.hid hk7; clear hk7)
                | (go_at_call 13; (with_reducible refine (HSa6.out _ _ ?_ _ Hk7.out).mono ?_); assumption; rintro e w8 ⟨rfl, hg8⟩))
            all_goals
              go_wp2_with fail
              go_ret
              exact ⟨rfl, gt_trans G6.out hg8 (.inl rfl)⟩
        · have hsi : (200 : Int) < (sz : Int) := by omega
          clear hSz hFg hSi hsz hzm
          go_enter Tryz.func3, Tryz.ntmps3
          go_wp2_with (first
    | (go_at_call 8; refine (HZ.out _ HG.out).mono ?_; rintro e w1 ⟨rfl, hg1⟩; have G1 := gt_trans HG.out hg1 (.inl rfl); obtain ⟨x0, x1, x2⟩ := HC.out _ hg1)
    | (go_at_call 9; refine (HF.out _ G1).mono ?_; rintro e w2 ⟨rfl, hg2⟩; have G2 := gt_trans G1 hg2 (.inl rfl); have g12 := gt_trans hg1 hg2 (.inl rfl); obtain ⟨y0, y1, y2⟩ := HC.out _ g12)
    | (go_at_call 10; refine (HSz.out _ G2).mono ?_; rintro e w3 ⟨rfl, hg3⟩; have G3 := gt_trans G2 hg3 (.inl rfl); have g13 := gt_trans g12 hg3 (.inl rfl); obtain ⟨u0, u1, u2⟩ := HC.out _ g13))
          go_ret
          exact ⟨rfl, G3⟩
end Go.Proofs.YtlpaecafpbbbkaaGreatDoor
namespace Go.Proofs.YtlpaecafpbbbkaaGreatDoor
open Go.RowKit

theorem KS.pos {h : Nat} {W : World} {v : Value} {t : Shp} (hk : KS h W v t) : 1 ≤ h := by
  cases h with
  | zero => exact hk.elim
  | succ h => omega
theorem SiPost.of {h d : Nat} {r : Raw} {W : World} {e : Ending} {w' : World} (hd : d ≤ h) (H : ∃ v', e = .returned (.tuple #[v', .bool true]) ∧ KD (Fr W w') d w' v' r ∧ W.grownBy w' none) : SiPost h r W e w' := by
  obtain ⟨v', he, hk, hg⟩ := H
  obtain ⟨k6, d6, n6, f6, kids6, p6, cap6, q6, cq6, _, hv⟩ := hk.form
  subst hv
  exact ⟨k6, d6, p6, n6, cap6, q6, _, cq6, he, hk.le hd, hg⟩
set_option maxRecDepth 100000 in
set_option maxHeartbeats 1000000 in
theorem simp_other (W : World) (k : Int) (p q : Option Addr) (n cap m c th : Nat) (h1 : ¬ k = 1) (h4 : ¬ k = 4) :
    Calls Tryz.prog 3 #[.agg #[.int .i64 k, .slice p n cap, .slice q m c], .float .f64 th] W fun e w' => e = .returned (.bool true) ∧ W.grownBy w' none := by
  have HG := Lib.hid (World.grownBy_alloc W (.cells #[.int .i64 k, .slice p n cap, .slice q m c] 25) none)
  have HC : Hid (∀ w', (W.alloc (.cells #[.int .i64 k, .slice p n cap, .slice q m c] 25)).grownBy w' none → w'.cell? ⟨W.heap.size, 0, none⟩ = some (.int .i64 k) ∧ w'.cell? ⟨W.heap.size, 1, none⟩ = some (.slice p n cap) ∧ w'.cell? ⟨W.heap.size, 2, none⟩ = some (.slice q m c)) := fun w g => ⟨g.cell (by simp) (by simp), g.cell (by simp) (by simp), g.cell (by simp) (by simp)⟩
  obtain ⟨z, hz⟩ : ∃ z, z = (decide (n ≤ 2147483647) && decide (m ≤ 2147483647)) := ⟨_, rfl⟩
  have HZ : Hid (∀ w, Calls Tryz.prog 8 #[.agg #[.int .i64 k, .slice p n cap, .slice q m c]] w (EPost w z)) := fun w => by rw [hz]; exact zzFits1_any k p q n cap m c w
  have b1 : (k == 1) = false := by rw [beq_eq_false_iff_ne]; exact h1
  have b4 : (k == 4) = false := by rw [beq_eq_false_iff_ne]; exact h4
  have b1' : (k != 1) = true := by unfold bne; rw [b1]; rfl
  have b4' : (k != 4) = true := by unfold bne; rw [b4]; rfl
  clear hz h1 h4
  cases z
  all_goals
    go_enter Tryz.func3, Tryz.ntmps3
    go_wp2_with (first
      | (go_at_call 8; refine (HZ.out _).mono ?_; rintro e w1 ⟨rfl, hg1⟩; have G1 := gt_trans HG.out hg1 (.inl rfl); obtain ⟨x0, x1, x2⟩ := HC.out _ hg1))
    go_ret
    exact ⟨rfl, G1⟩
theorem simp_deep (h : Nat) (hpos : 2 ≤ h) (W : World) (v : Value) (t : Shp) (th : Nat) (hk : KS h W v t) :
    Calls Tryz.prog 3 #[v, .float .f64 th] W fun e w' => e = .returned (.bool true) ∧ W.grownBy w' none := by
  obtain ⟨k, pts, kids, p, cap, q, c, rfl, rfl⟩ := hk.form
  by_cases h1 : k = 1
  · subst h1
    refine simp_core h W 1 p q _ cap _ c th (fm1 (.mk 1 pts kids)) (szP (.mk 1 pts kids)) (rawS (.mk 1 pts kids)) (rawS (.mk 1 pts kids)) (.inl rfl) (fun w g => ?_) (fun hb _ w g => ?_) (fun hb _ w g => ?_) (fun hb _ B w v hkd => ?_) (SameT.refl _)
    · exact formed_of _ _ _ _ _ _ _ _ w fun w2 g2 => formed_pt h w2 _ pts kids ((hk.mono g).mono g2) 100 (by omega)
    · exact size_of _ _ _ _ _ _ _ _ w fun w2 g2 => size_pt h w2 _ _ ((hk.mono g).mono g2) (fm1_pt hb rfl) 100
    · exact figure_any h w 1 p q _ cap _ c _ (hk.mono g) (okS_pt (fm1_pt hb rfl))
    · have hw := wt_pt (fm1_pt hb rfl)
      exact (simp_pt h B w v _ (fm1_pt hb rfl) th hkd (by omega)).mono fun e w' H => SiPost.of (by omega) H
  · by_cases h4 : k = 4
    · subst h4
      by_cases hb : fm4 (.mk 4 pts kids) = true
      · obtain ⟨k', kids', e, hpt⟩ := fm4_mp hb
        injection e with e1 e2 e3
        subst e2 e3
        refine simp_core h W 4 p q _ cap _ c th true (1 + szL kids) (rawS (.mk 4 [] kids)) (.mk 4 0 0 (fun _ => 0) (rawSs kids)) (.inr rfl) (fun w g => ?_) (fun _ hm w g => ?_) (fun _ hs w g => ?_) (fun _ hs B w v hkd => ?_) ?_
        · have := formed_of _ _ _ _ _ _ _ _ w fun w2 g2 => formed_mp h w2 _ [] kids ((hk.mono g).mono g2) 100 (by omega) (by omega)
          rw [hb] at this
          exact this
        · exact size_of _ _ _ _ _ _ _ _ w fun w2 g2 => size_mp h w2 _ _ ((hk.mono g).mono g2) kids rfl hpt hm 100 (by omega) (by omega)
        · have hl := szL_ge kids
          exact figure_any h w 4 p q _ cap _ c _ (hk.mono g) (by unfold okS; exact ⟨by simp, by omega, okSs_pt hpt⟩)
        · have hl := szL_ge kids
          have hw := wts_pt hpt
          exact (simp_mp h B w v kids hpt (by omega) th hkd (by unfold rawS wt; simp; omega)).mono fun e w' H => SiPost.of hpos H
        · unfold rawS
          exact .mk (fun i hi => absurd hi (by omega)) rfl (fun i t t' h h' => by rw [h] at h'; injection h' with e; subst e; exact SameT.refl t)
      · have hb' : fm4 (.mk 4 pts kids) = false := by simpa using hb
        refine simp_core h W 4 p q _ cap _ c th false 0 (rawS (.mk 4 pts kids)) (rawS (.mk 4 pts kids)) (.inr rfl) (fun w g => ?_) (fun h => by cases h) (fun h => by cases h) (fun h => by cases h) (SameT.refl _)
        have := formed_of _ _ _ _ _ _ _ _ w fun w2 g2 => formed_mp h w2 _ pts kids ((hk.mono g).mono g2) 100 (by omega) (by omega)
        rw [hb'] at this
        exact this
    · exact simp_other W k p q _ cap _ c th h1 h4
theorem FnSimplifyPoints_any (h : Nat) (W : World) (v : Value) (t : Shp) (th : Nat) (hk : KS h W v t) :
    Calls Tryz.prog 3 #[v, .float .f64 th] W fun e w' => e = .returned (.bool true) ∧ W.grownBy w' none := simp_deep (h + 2) (by omega) W v t th (hk.le (Nat.le_add_right h 2))
end Go.Proofs.YtlpaecafpbbbkaaGreatDoor
