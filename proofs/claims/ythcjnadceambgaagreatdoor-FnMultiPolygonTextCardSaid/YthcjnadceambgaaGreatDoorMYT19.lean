/- FnMultiPolygonText: the package's side. FnLineText, walked whole: whatever the geometry, it answers true. FnMultiPolygonText, walked whole: whatever the geometry, it answers true. What was handed in reads as it did, behind a call that only makes new memory. The two tables of strconv, out of what a row lists. -/
import Derived.Deep.RegionHeld3
import Derived.Test.YthcjnadceambgaaGreatDoorRows
import Derived.ReadAgain
import Derived.Below
import Derived.ChangeBears
import Derived.ChangeReads
import Derived.Lib.LaidU8
import Derived.OpenShut
import Derived.ProofKit
import Derived.Test.YthcjnadceambgaaGreatDoorMYT18
namespace Go.Proofs.YthcjnadceambgaaGreatDoor
open Go.RowKit

theorem PgIC (T : Nat → Int) (hT : ∀ i, U64 (T i)) : IC DPg 122 T (itemT T false) := PgBody_of DLine.dk DLine.form T (LineIC T hT)
theorem MpAC (T : Nat → Int) (hT : ∀ i, U64 (T i)) : AC DMp 67 T := MpAppend_of DPg.dk DNode.form T (PgIC T hT)
theorem MlAC (T : Nat → Int) (hT : ∀ i, U64 (T i)) : AC DMl 141 T := MlAppend_of DLine.dk DLine.form T (LineIC T hT)
theorem new_pl (t : Raw) (h : wt t ≤ 2000) : pl (newT t) ≤ 2000 := Nat.le_trans (pl_new t) h
theorem Tabs.bsd {T : Nat → Int} {W : World} (ht : Tabs T W) : Bsd T W.heap.size W := ⟨ht, ht.lt3, ht.lt2, Nat.le_refl _⟩

set_option maxRecDepth 100000 in
set_option maxHeartbeats 1000000 in
theorem MpAsText (T : Nat → Int) (hT : ∀ i, U64 (T i)) (B : Nat → Prop) (W : World) (v : Value) (t : Raw) (hd : DMp B W v t) (hok : okT t) (hpl : pl t ≤ 2000) (hB : ∀ b, B b → b < W.heap.size) (ht : Tabs T W) :
    Calls Tryz.prog 36 #[v] W fun e w' => e = .returned (.string ⟨(textT T t).toArray⟩) ∧ W.grownBy w' none := by
  obtain ⟨p, n, c, r, rfl⟩ := hd.form
  have HG := Lib.hid (World.grownBy_alloc W (.cells #[.slice p n c, .int .u8 r] 57) none)
  have HA := Lib.hid (fun w (g : W.grownBy w none) => MpAC T hT B w _ t [] w.heap.size (.slice none 0 0) (DMp.dk.mono g hd) hok (World.ownsRow_nil _ _ _ _) (ht.mono g (by simp) (by simp)).bsd (by simp; omega) (fun b hb => Nat.lt_of_lt_of_le (hB b hb) g.size))
  generalize textT T t = tx at HA ⊢
  clear hd ht hok hB hpl
  go_enter Tryz.func36, Tryz.ntmps36
  go_wp2_with (first
    | (go_at_call 67; refine (HA.out _ HG.out).mono ?_; rintro e w' ⟨v', rfl, H⟩; have hcv := own_str (P := Tryz.prog) (src := 33) (dst := 9) (et := 5) Tryz.underlying33 Tryz.underlying5 Tryz.underlying9 H.own))
  go_ret
  exact ⟨rfl, gt_trans HG.out H.grown (.inl rfl)⟩

set_option maxRecDepth 100000 in
set_option maxHeartbeats 1000000 in
theorem MultiPolygonWKT_any (T : Nat → Int) (hT : ∀ i, U64 (T i)) (h : Nat) (B : Nat → Prop) (W : World) (d : Int) (p q : Option Addr) (n cap m c2 : Nat) (f : Nat → Nat) (kids : List Raw)
    (hk : KD B h W (.agg #[.int .i64 6, .int .i64 d, .slice p n cap, .slice q m c2]) (.mk 6 d n f kids)) (hw : wt (.mk 6 d n f kids) ≤ 2000) (ht : Tabs T W) :
    Calls Tryz.prog 14 #[.agg #[.int .i64 6, .int .i64 d, .slice p n cap, .slice q m c2]] W fun e w' => e = .returned (.string ⟨(textT T (newT (.mk 6 d n f kids))).toArray⟩) ∧ W.grownBy w' none := by
  have HG := Lib.hid (World.grownBy_alloc W (.cells #[.int .i64 6, .int .i64 d, .slice p n cap, .slice q m c2] 25) none)
  have HL := Lib.hid (fun w (g : W.grownBy w none) => MpBC h B w _ _ (hk.mono g) hw rfl)
  have hok := new_ok _ hw
  have hpl := new_pl _ hw
  have HM := Lib.hid (fun v w w0 (g : W.grownBy w none) (hv : DMp (Fr w0 w) w v (newT (.mk 6 d n f kids))) => MpAsText T hT (Fr w0 w) w v _ hv hok hpl (fun b hb => hb.2) (ht.mono g (by simp) (by simp)))
  generalize newT (.mk 6 d n f kids) = tn at HL HM ⊢
  clear hk hw ht hok hpl
  go_enter Tryz.func14, Tryz.ntmps14
  go_wp2_with (first
    | (go_at_call 35; refine (HL.out _ HG.out).mono ?_; rintro e w' ⟨v, rfl, hv, hg1⟩; have Hv := Lib.hid hv; clear hv)
    | (go_at_call 36; refine (HM.out _ _ _ (gt_trans HG.out hg1 (.inl rfl)) Hv.out).mono ?_; rintro e w'' ⟨rfl, hg2⟩))
  go_ret
  exact ⟨rfl, gt_trans (gt_trans HG.out hg1 (.inl rfl)) hg2 (.inl rfl)⟩
end Go.Proofs.YthcjnadceambgaaGreatDoor
namespace Go.Proofs.YthcjnadceambgaaGreatDoor
open Go.RowKit

set_option maxRecDepth 100000 in
set_option maxHeartbeats 2000000 in
theorem FnLineText_any (T : Nat → Int) (hT : ∀ i, U64 (T i)) (h : Nat) (B : Nat → Prop) (W : World) (v : Value) (t : Raw) (hk : KD B h W v t) (ht : Tabs T W) :
    Calls Tryz.prog 3 #[v] W fun e w' => e = .returned (.bool true) ∧ W.grownBy w' none := by
  cases h with
  | zero => exact hk.elim
  | succ h =>
  have hk0 := hk
  obtain ⟨k, d, n, f, kids⟩ := t
  obtain ⟨p, cap, q, c2, rfl, hf, h1, h2, h3, _⟩ := hk
  obtain ⟨r, hr⟩ : ∃ r : Nat, d % 4 = r := ⟨(d % 4).toNat, by omega⟩
  obtain ⟨W1, hW1⟩ : ∃ W1, W1 = W.alloc (.cells #[.int .i64 k, .int .i64 d, .slice p n cap, .slice q kids.length c2] 25) := ⟨_, rfl⟩
  have hg1 : W.grownBy W1 none := by rw [hW1]; exact World.grownBy_alloc _ _ _
  have HZ := Lib.hid (fun w => zzFits2_any w k d p q n cap kids.length c2)
  obtain ⟨kb, hkb⟩ : ∃ kb, kb = (decide (k = 2) && (decide (wt (.mk k d n f kids) ≤ 2000) && allT (.mk k d n f kids))) := ⟨_, rfl⟩
  have HK := Lib.hid (fun w (g : W1.grownBy w none) => ((kIsD (h + 1) w k d p q n cap kids.length c2 _ (hk0.mono (gt_trans hg1 g (.inl rfl))) 2 kb hkb).mono (fun e w' ⟨he, hg⟩ => ⟨he, gt_trans g hg (.inl rfl)⟩) : Calls Tryz.prog 9 #[.agg #[.int .i64 k, .int .i64 d, .slice p n cap, .slice q kids.length c2], .int .i64 2] w fun e w' => e = .returned (.bool kb) ∧ W1.grownBy w' none))
  have HS : Hid (∀ W', W1.grownBy W' none → W'.cell? ⟨W.heap.size, 0, none⟩ = some (.int .i64 k) ∧ W'.cell? ⟨W.heap.size, 1, none⟩ = some (.int .i64 d) ∧ W'.cell? ⟨W.heap.size, 2, none⟩ = some (.slice p n cap) ∧ W'.cell? ⟨W.heap.size, 3, none⟩ = some (.slice q kids.length c2)) := fun W' g => by
    rw [hW1] at g
    exact ⟨g.cell (by simp) (by simp), g.cell (by simp) (by simp), g.cell (by simp) (by simp), g.cell (by simp) (by simp)⟩
  have HG1 := Lib.hid hg1
  have HLW := Lib.hid (fun (hk2 : k = 2) (hn : n ≤ 2000) w (g : W1.grownBy w none) => ((by
    subst hk2
    rw [← line_text T d r n hr (by omega) f kids]
    exact (LineWKT_any T hT d r hr p q n cap kids.length c2 f hn w (hf.mono (gt_trans hg1 g (.inl rfl))) (ht.mono (gt_trans hg1 g (.inl rfl)) (by simp) (by simp))).mono (fun e w' ⟨he, hg⟩ => ⟨he, gt_trans g hg (.inl rfl)⟩)) :
    Calls Tryz.prog 10 #[.agg #[.int .i64 k, .int .i64 d, .slice p n cap, .slice q kids.length c2]] w fun e w' => e = .returned (.string ⟨(textT T (newT (.mk k d n f kids))).toArray⟩) ∧ W1.grownBy w' none))
  have HN := Lib.hid (fun (hw : wt (.mk k d n f kids) ≤ 2000) w (g : W1.grownBy w none) => (NewD (h + 1) B w _ _ (hk0.mono (gt_trans hg1 g (.inl rfl))) hw).mono (fun e w' ⟨v', he, hk', hg⟩ => (⟨v', he, hk', gt_trans g hg (.inl rfl)⟩ : ∃ v', e = Ending.returned v' ∧ KD (Fr w w') (h + 1) w' v' (newT (.mk k d n f kids)) ∧ W1.grownBy w' none)))
  have HT := Lib.hid (fun (hw : wt (.mk k d n f kids) ≤ 2000) B' w v' (g : W1.grownBy w none) (hk' : KD B' (h + 1) w v' (newT (.mk k d n f kids))) => (textOk T hT (h + 1) B' w v' _ hk' (dims_new _) (Nat.le_trans (pl_new _) hw) (ht.mono (gt_trans hg1 g (.inl rfl)) (by simp) (by simp))).mono (fun e w' ⟨he, hg⟩ => (⟨he, gt_trans g hg (.inl rfl)⟩ : e = Ending.returned (.string ⟨(textT T (newT (.mk k d n f kids))).toArray⟩) ∧ W1.grownBy w' none)))
  obtain ⟨J, hJ⟩ : ∃ J : ByteArray, J = ⟨(textT T (newT (.mk k d n f kids))).toArray⟩ := ⟨_, rfl⟩
  rw [← hJ] at HLW HT
  cases kb
  · clear hk0 hkb hf ht hr HLW HN HT hJ
    generalize kids.length = m at HZ HK HS hW1 ⊢
    go_enter Tryz.func3, Tryz.ntmps3
    go_wp2_with (go_at_call 8; refine (HZ.out _).mono ?_; rintro e w1 ⟨b1, rfl, _, hg⟩; rw [← hW1] at hg; obtain ⟨x0, x1, x2, x3⟩ := HS.out _ hg)
    · go_ret
      exact ⟨rfl, gt_trans HG1.out hg (.inl rfl)⟩
    · have HS2 : Hid (∀ W', W1.grownBy W' none → W'.cell? ⟨W.heap.size, 0, none⟩ = some (.int .i64 k) ∧ W'.cell? ⟨W.heap.size, 1, none⟩ = some (.int .i64 d) ∧ W'.cell? ⟨W.heap.size, 2, none⟩ = some (.slice p n cap) ∧ W'.cell? ⟨W.heap.size, 3, none⟩ = some (.slice q m c2)) := HS
      have hgd := gt_drew_r hg
      clear hW1
      go_region_with (first
          | (go_at_call 9; refine (HK.out _ ?_).mono ?_; assumption; rintro e w2 ⟨rfl, hg2⟩))
      all_goals
        go_wp2_with fail
        go_ret
        exact ⟨rfl, gt_trans HG1.out hg2 (.inl rfl)⟩
  · have hk2 : k = 2 ∧ wt (.mk k d n f kids) ≤ 2000 := by
      have h9 := hkb.symm
      simp only [Bool.and_eq_true, decide_eq_true_eq] at h9
      exact ⟨h9.1, h9.2.1⟩
    have hn : n ≤ 2000 := by have := hk2.2; unfold wt at this; omega
    have HLW1 := Lib.hid (HLW.out hk2.1 hn)
    have HN1 := Lib.hid (HN.out hk2.2)
    have HT1 := Lib.hid (HT.out hk2.2)
    clear hk0 hkb hf ht hr HLW HN HT hJ hk2 hn
    generalize newT (.mk k d n f kids) = tn at HN1 HT1
    generalize kids.length = m at HZ HK HS hW1 HLW1 HN1 ⊢
    go_enter Tryz.func3, Tryz.ntmps3
    go_wp2_with (go_at_call 8; refine (HZ.out _).mono ?_; rintro e w1 ⟨b1, rfl, _, hg⟩; rw [← hW1] at hg; obtain ⟨x0, x1, x2, x3⟩ := HS.out _ hg)
    · go_ret
      exact ⟨rfl, gt_trans HG1.out hg (.inl rfl)⟩
    · have HS2 : Hid (∀ W', W1.grownBy W' none → W'.cell? ⟨W.heap.size, 0, none⟩ = some (.int .i64 k) ∧ W'.cell? ⟨W.heap.size, 1, none⟩ = some (.int .i64 d) ∧ W'.cell? ⟨W.heap.size, 2, none⟩ = some (.slice p n cap) ∧ W'.cell? ⟨W.heap.size, 3, none⟩ = some (.slice q m c2)) := HS
      have hgd := gt_drew_r hg
      clear hW1
      go_region_held3 (fun w' => w'.cell? ⟨W.heap.size, 0, none⟩ = some (.int .i64 k) ∧ w'.cell? ⟨W.heap.size, 1, none⟩ = some (.int .i64 d) ∧ w'.cell? ⟨W.heap.size, 2, none⟩ = some (.slice p n cap) ∧ w'.cell? ⟨W.heap.size, 3, none⟩ = some (.slice q m c2))
        (first | (refine HS2.out _ ?_; assumption))
        (first
          | (go_at_call 9; (with_reducible refine (HK.out _ ?_).mono ?_); assumption; rintro e w2 ⟨rfl, hg2⟩)
          | (go_at_call 10; (with_reducible refine (HLW1.out _ ?_).mono ?_); assumption; rintro e w3 ⟨rfl, hg3⟩)
          | (go_at_call 12; (with_reducible refine (HN1.out _ ?_).mono ?_); assumption; rintro e w4 ⟨v4, rfl, hk4, hg4⟩; have Hk4 := Lib.hid hk4; clear hk4)
          | (go_at_call 11; (with_reducible refine (HT1.out _ _ _ ?_ Hk4.out).mono ?_); assumption; rintro e w5 ⟨rfl, hg5⟩))
      all_goals
        go_wp2_with fail
        go_ret
        exact ⟨rfl, gt_trans HG1.out hg5 (.inl rfl)⟩
end Go.Proofs.YthcjnadceambgaaGreatDoor
namespace Go.Proofs.YthcjnadceambgaaGreatDoor
open Go.RowKit

set_option maxRecDepth 100000 in
set_option maxHeartbeats 2000000 in
theorem FnMultiPolygonText_any (T : Nat → Int) (hT : ∀ i, U64 (T i)) (h : Nat) (B : Nat → Prop) (W : World) (v : Value) (t : Raw) (hk : KD B h W v t) (ht : Tabs T W) :
    Calls Tryz.prog 5 #[v] W fun e w' => e = .returned (.bool true) ∧ W.grownBy w' none := by
  cases h with
  | zero => exact hk.elim
  | succ h =>
  have hk0 := hk
  obtain ⟨k, d, n, f, kids⟩ := t
  obtain ⟨p, cap, q, c2, rfl, hf, h1, h2, h3, _⟩ := hk
  obtain ⟨r, hr⟩ : ∃ r : Nat, d % 4 = r := ⟨(d % 4).toNat, by omega⟩
  obtain ⟨W1, hW1⟩ : ∃ W1, W1 = W.alloc (.cells #[.int .i64 k, .int .i64 d, .slice p n cap, .slice q kids.length c2] 25) := ⟨_, rfl⟩
  have hg1 : W.grownBy W1 none := by rw [hW1]; exact World.grownBy_alloc _ _ _
  have HZ := Lib.hid (fun w => zzFits2_any w k d p q n cap kids.length c2)
  obtain ⟨kb, hkb⟩ : ∃ kb, kb = (decide (k = 6) && (decide (wt (.mk k d n f kids) ≤ 2000) && allT (.mk k d n f kids))) := ⟨_, rfl⟩
  have HK := Lib.hid (fun w (g : W1.grownBy w none) => ((kIsD (h + 1) w k d p q n cap kids.length c2 _ (hk0.mono (gt_trans hg1 g (.inl rfl))) 6 kb hkb).mono (fun e w' ⟨he, hg⟩ => ⟨he, gt_trans g hg (.inl rfl)⟩) : Calls Tryz.prog 9 #[.agg #[.int .i64 k, .int .i64 d, .slice p n cap, .slice q kids.length c2], .int .i64 6] w fun e w' => e = .returned (.bool kb) ∧ W1.grownBy w' none))
  have HS : Hid (∀ W', W1.grownBy W' none → W'.cell? ⟨W.heap.size, 0, none⟩ = some (.int .i64 k) ∧ W'.cell? ⟨W.heap.size, 1, none⟩ = some (.int .i64 d) ∧ W'.cell? ⟨W.heap.size, 2, none⟩ = some (.slice p n cap) ∧ W'.cell? ⟨W.heap.size, 3, none⟩ = some (.slice q kids.length c2)) := fun W' g => by
    rw [hW1] at g
    exact ⟨g.cell (by simp) (by simp), g.cell (by simp) (by simp), g.cell (by simp) (by simp), g.cell (by simp) (by simp)⟩
  have HG1 := Lib.hid hg1
  have HLW := Lib.hid (fun (hk2 : k = 6) (hw : wt (.mk k d n f kids) ≤ 2000) w (g : W1.grownBy w none) => ((by
    subst hk2
    exact (MultiPolygonWKT_any T hT (h + 1) B w d p q n cap kids.length c2 f kids (hk0.mono (gt_trans hg1 g (.inl rfl))) hw (ht.mono (gt_trans hg1 g (.inl rfl)) (by simp) (by simp))).mono (fun e w' ⟨he, hg⟩ => ⟨he, gt_trans g hg (.inl rfl)⟩)) :
    Calls Tryz.prog 14 #[.agg #[.int .i64 k, .int .i64 d, .slice p n cap, .slice q kids.length c2]] w fun e w' => e = .returned (.string ⟨(textT T (newT (.mk k d n f kids))).toArray⟩) ∧ W1.grownBy w' none))
  have HN := Lib.hid (fun (hw : wt (.mk k d n f kids) ≤ 2000) w (g : W1.grownBy w none) => (NewD (h + 1) B w _ _ (hk0.mono (gt_trans hg1 g (.inl rfl))) hw).mono (fun e w' ⟨v', he, hk', hg⟩ => (⟨v', he, hk', gt_trans g hg (.inl rfl)⟩ : ∃ v', e = Ending.returned v' ∧ KD (Fr w w') (h + 1) w' v' (newT (.mk k d n f kids)) ∧ W1.grownBy w' none)))
  have HT := Lib.hid (fun (hw : wt (.mk k d n f kids) ≤ 2000) B' w v' (g : W1.grownBy w none) (hk' : KD B' (h + 1) w v' (newT (.mk k d n f kids))) => (textOk T hT (h + 1) B' w v' _ hk' (dims_new _) (Nat.le_trans (pl_new _) hw) (ht.mono (gt_trans hg1 g (.inl rfl)) (by simp) (by simp))).mono (fun e w' ⟨he, hg⟩ => (⟨he, gt_trans g hg (.inl rfl)⟩ : e = Ending.returned (.string ⟨(textT T (newT (.mk k d n f kids))).toArray⟩) ∧ W1.grownBy w' none)))
  obtain ⟨J, hJ⟩ : ∃ J : ByteArray, J = ⟨(textT T (newT (.mk k d n f kids))).toArray⟩ := ⟨_, rfl⟩
  rw [← hJ] at HLW HT
  cases kb
  · clear hk0 hkb hf ht hr HLW HN HT hJ
    generalize kids.length = m at HZ HK HS hW1 ⊢
    go_enter Tryz.func5, Tryz.ntmps5
    go_wp2_with (go_at_call 8; refine (HZ.out _).mono ?_; rintro e w1 ⟨b1, rfl, _, hg⟩; rw [← hW1] at hg; obtain ⟨x0, x1, x2, x3⟩ := HS.out _ hg)
    · go_ret
      exact ⟨rfl, gt_trans HG1.out hg (.inl rfl)⟩
    · have HS2 : Hid (∀ W', W1.grownBy W' none → W'.cell? ⟨W.heap.size, 0, none⟩ = some (.int .i64 k) ∧ W'.cell? ⟨W.heap.size, 1, none⟩ = some (.int .i64 d) ∧ W'.cell? ⟨W.heap.size, 2, none⟩ = some (.slice p n cap) ∧ W'.cell? ⟨W.heap.size, 3, none⟩ = some (.slice q m c2)) := HS
      have hgd := gt_drew_r hg
      clear hW1
      go_region_with (first
          | (go_at_call 9; refine (HK.out _ ?_).mono ?_; assumption; rintro e w2 ⟨rfl, hg2⟩))
      all_goals
        go_wp2_with fail
        go_ret
        exact ⟨rfl, gt_trans HG1.out hg2 (.inl rfl)⟩
  · have hk2 : k = 6 ∧ wt (.mk k d n f kids) ≤ 2000 := by
      have h9 := hkb.symm
      simp only [Bool.and_eq_true, decide_eq_true_eq] at h9
      exact ⟨h9.1, h9.2.1⟩
    have HLW1 := Lib.hid (HLW.out hk2.1 hk2.2)
    have HN1 := Lib.hid (HN.out hk2.2)
    have HT1 := Lib.hid (HT.out hk2.2)
    clear hk0 hkb hf ht hr HLW HN HT hJ hk2
    generalize newT (.mk k d n f kids) = tn at HN1 HT1
    generalize kids.length = m at HZ HK HS hW1 HLW1 HN1 ⊢
    go_enter Tryz.func5, Tryz.ntmps5
    go_wp2_with (go_at_call 8; refine (HZ.out _).mono ?_; rintro e w1 ⟨b1, rfl, _, hg⟩; rw [← hW1] at hg; obtain ⟨x0, x1, x2, x3⟩ := HS.out _ hg)
    · go_ret
      exact ⟨rfl, gt_trans HG1.out hg (.inl rfl)⟩
    · have HS2 : Hid (∀ W', W1.grownBy W' none → W'.cell? ⟨W.heap.size, 0, none⟩ = some (.int .i64 k) ∧ W'.cell? ⟨W.heap.size, 1, none⟩ = some (.int .i64 d) ∧ W'.cell? ⟨W.heap.size, 2, none⟩ = some (.slice p n cap) ∧ W'.cell? ⟨W.heap.size, 3, none⟩ = some (.slice q m c2)) := HS
      have hgd := gt_drew_r hg
      clear hW1
      go_region_held3 (fun w' => w'.cell? ⟨W.heap.size, 0, none⟩ = some (.int .i64 k) ∧ w'.cell? ⟨W.heap.size, 1, none⟩ = some (.int .i64 d) ∧ w'.cell? ⟨W.heap.size, 2, none⟩ = some (.slice p n cap) ∧ w'.cell? ⟨W.heap.size, 3, none⟩ = some (.slice q m c2))
        (first | (refine HS2.out _ ?_; assumption))
        (first
          | (go_at_call 9; (with_reducible refine (HK.out _ ?_).mono ?_); assumption; rintro e w2 ⟨rfl, hg2⟩)
          | (go_at_call 14; (with_reducible refine (HLW1.out _ ?_).mono ?_); assumption; rintro e w3 ⟨rfl, hg3⟩)
          | (go_at_call 12; (with_reducible refine (HN1.out _ ?_).mono ?_); assumption; rintro e w4 ⟨v4, rfl, hk4, hg4⟩; have Hk4 := Lib.hid hk4; clear hk4)
          | (go_at_call 11; (with_reducible refine (HT1.out _ _ _ ?_ Hk4.out).mono ?_); assumption; rintro e w5 ⟨rfl, hg5⟩))
      all_goals
        go_wp2_with fail
        go_ret
        exact ⟨rfl, gt_trans HG1.out hg5 (.inl rfl)⟩
end Go.Proofs.YthcjnadceambgaaGreatDoor
namespace Go.Proofs.YthcjnadceambgaaGreatDoor
open Go.Joins Go.ChangeShapes Go.WideShapes Go.RowKit Go.Deep Go.ChangeAt

theorem kids_all : Kids Tryz.prog (· < Tryz.prog.types.size) := kids_rows (by kernel_rfl) (by kernel_rfl)
theorem full_all : ∀ t e, t < Tryz.prog.types.size → Tryz.prog.underlying t = some (.slice e) → 0 < Tryz.prog.cellsOf e := slices_full_of Tryz.prog (by kernel_rfl)

section
variable {H : Type} {enc : TypeId × Value → H} {P : Program} {W W' : World} {base : Nat} {spare : Nat → Bool} {held : Bool}
theorem trodAll_carry : ∀ {ts : List TypeId} {vs : List Value} {ds : List (DataW H)} {ps : List MemPlace}, DataW.TrodAll enc P W base spare held ts vs ds ps → (∀ p ∈ ps, W.sameAt W' p) → DataW.TrodAll enc P W' base spare held ts vs ds ps
  | [], [], [], _, h, _ => h
  | _ :: _, _ :: _, _ :: _, _, ⟨p, q, ⟨n, h1⟩, h2, e⟩, hs =>
    ⟨p, q, ⟨n, DataW.trod_carry n _ _ _ h1 (fun x hx => hs x (by rw [e]; exact List.mem_append_left _ hx))⟩, trodAll_carry h2 (fun x hx => hs x (by rw [e]; exact List.mem_append_right _ hx)), e⟩
end
section
variable {H : Type} {enc : TypeId × Value → H} {W W' : World}
theorem args_below {ts : List TypeId} {vs : List Value} {ds : List (DataW H)} {ps : List MemPlace} (hts : ∀ t ∈ ts, t < Tryz.prog.types.size) (hA : DataW.TrodAll enc Tryz.prog W 0 (fun _ => true) true ts vs ds ps) (hb : Below W.heap.size W W') :
    DataW.TrodAll enc Tryz.prog W' 0 (fun b => decide (b < W.heap.size)) true ts vs ds ps :=
  (trodAll_carry hA fun p hp => hb.same (hA.lt p hp)).respare kids_all full_all hts fun p hp => by simpa using hA.lt p hp
end
end Go.Proofs.YthcjnadceambgaaGreatDoor
namespace Go.Proofs.YthcjnadceambgaaGreatDoor
open Go.RowKit Go.ChangeShapes

def pval : Option Value → Int
  | some (.int _ n) => n
  | _ => 0

theorem p10_of_reads {W : World} (h : Lib.VarReads Tryz.prog W "internal/strconv.pow10Tab" Go.Pinned.pow10Tab) : ∃ T : Nat → Int, (∀ i, U64 (T i)) ∧ P10 T W := by
  obtain ⟨g, t, cs, fuel, p, h1, h2, h3, h4⟩ := h
  obtain rfl : g = 3 := Option.some.inj (h1.symm.trans (by kernel_rfl))
  obtain rfl : t = 208 := Option.some.inj (h2.symm.trans (by kernel_rfl))
  obtain ⟨xs, m, _, _, hl, _, hall⟩ := DataW.trod_array (n := 696) (e := 207) (by kernel_rfl) h4
  have hc2 : Tryz.prog.cellsOf 207 = 2 := by kernel_rfl
  have hlen : cs.toList.length = 1392 := hl.trans (by kernel_rfl)
  have key : ∀ i : Nat, i < 1392 → ∃ n : Int, cs[i]? = some (.int .u64 n) ∧ U64 n := by
    intro i hi
    have hj := hall (i / 2) (by omega)
    rw [hc2] at hj
    have hx : ∃ x, xs[i / 2]? = some x := ⟨xs[i / 2]'(by omega), List.getElem?_eq_getElem (by omega)⟩
    obtain ⟨x, hx⟩ := hx
    rw [hx] at hj
    obtain ⟨y0, y1, n, _, _, ha, hb⟩ := trod_struct2 Tryz.underlying207 hj
    have hu : Tryz.prog.underlying 137 = some (.int .u64) := by kernel_rfl
    obtain ⟨a, hca, _, wa⟩ := DataW.trod_int hu ha
    obtain ⟨b, hcb, _, wb⟩ := DataW.trod_int hu hb
    have hca' := congrArg (·[0]?) hca
    have hcb' := congrArg (·[0]?) hcb
    have hcu : Tryz.prog.cellsOf 137 = 1 := by kernel_rfl
    simp only [hcu, List.drop_zero, List.getElem?_take, List.getElem?_drop, List.getElem?_cons_zero, Nat.zero_lt_one, if_true, Nat.add_zero] at hca' hcb'
    rcases Nat.mod_two_eq_zero_or_one i with e | e
    · refine ⟨a, ?_, .of_wf wa⟩
      simp at hca'
      rw [show i / 2 * 2 = i by omega] at hca'
      exact hca'
    · refine ⟨b, ?_, .of_wf wb⟩
      simp at hcb'
      rw [show i / 2 * 2 + 1 = i by omega] at hcb'
      exact hcb'
  refine ⟨fun i => pval cs[i]?, fun i => ?_, fun i hi => ?_⟩
  · by_cases hi : i < 1392
    · obtain ⟨n, hn, hu⟩ := key i hi
      show U64 (pval cs[i]?)
      rw [hn]; exact hu
    · have : cs[i]? = none := Array.getElem?_eq_none (by simpa using (by omega : cs.toList.length ≤ i))
      show U64 (pval cs[i]?)
      rw [this]; exact ⟨by decide, by decide⟩
  · obtain ⟨n, hn, hu⟩ := key i hi
    have e : W.cell? ⟨3, i, none⟩ = cs[i]? := World.var?_cell h1 h3 i
    show W.cell? ⟨3, i, none⟩ = some (.int .u64 (pval cs[i]?))
    rw [e, hn]
    rfl

theorem u10_of_reads {W : World} (h : Lib.VarReads Tryz.prog W "internal/strconv.uint64pow10" Rows.laid_internal_strconv_uint64pow10) : Lib.TabIs Tryz.prog W "internal/strconv.uint64pow10" .u64 Lib.pow10Tab := by
  obtain ⟨g, t, cs, fuel, p, h1, h2, h3, h4⟩ := h
  obtain rfl : t = 199 := by
    obtain rfl : g = 2 := Option.some.inj (h1.symm.trans (by kernel_rfl))
    exact Option.some.inj (h2.symm.trans (by kernel_rfl))
  have hd : (Rows.laid_internal_strconv_uint64pow10 : DataW Unit) = Lib.tabData .u64 Lib.pow10Tab := by kernel_rfl
  rw [hd] at h4
  have := Lib.cells_of_tab (n := 20) (e := 137) (by kernel_rfl) (by kernel_rfl) (by kernel_rfl) (by kernel_rfl) h4
  unfold Lib.TabIs
  rw [h3, ← this]

/-- The facts of the tables, out of the row's condition. -/
theorem tabs_of_laid {W : World} {laid : List (String × DataW Unit)} (hL : laidMet Tryz.prog laid W) (m1 : ("internal/strconv.pow10Tab", Go.Pinned.pow10Tab) ∈ laid) (m2 : ("internal/strconv.uint64pow10", Rows.laid_internal_strconv_uint64pow10) ∈ laid) :
    ∃ T : Nat → Int, (∀ i, U64 (T i)) ∧ Tabs T W := by
  obtain ⟨T, hT, hp⟩ := p10_of_reads (Lib.laidMet.reads hL m1)
  exact ⟨T, hT, hp, u10_of_reads (Lib.laidMet.reads hL m2)⟩
end Go.Proofs.YthcjnadceambgaaGreatDoor
