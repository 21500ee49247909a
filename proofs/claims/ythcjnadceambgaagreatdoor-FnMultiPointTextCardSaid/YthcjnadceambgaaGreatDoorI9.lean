/- FnMultiPointText, walked whole: whatever the geometry, it answers true. -/
import Derived.Test.YthcjnadceambgaaGreatDoorI8
import Derived.Deep.RegionHeld3
namespace Go.Proofs.YthcjnadceambgaaGreatDoor
open Go.RowKit

set_option maxRecDepth 100000 in
set_option maxHeartbeats 2000000 in
theorem FnMultiPointText_any (T : Nat → Int) (hT : ∀ i, U64 (T i)) (h : Nat) (B : Nat → Prop) (W : World) (v : Value) (t : Raw) (hk : KD B h W v t) (ht : Tabs T W) :
    Calls Tryz.prog 4 #[v] W fun e w' => e = .returned (.bool true) ∧ W.grownBy w' none := by
  cases h with
  | zero => exact hk.elim
  | succ h =>
  have hk0 := hk
  obtain ⟨k, d, n, f, kids⟩ := t
  obtain ⟨p, cap, q, c2, rfl, hf, h1, h2, h3, _⟩ := hk
  obtain ⟨r, hr⟩ : ∃ r : Nat, d % 4 = r := ⟨(d % 4).toNat, by omega⟩
  obtain ⟨W1, hW1⟩ : ∃ W1, W1 = W.alloc (.cells #[.int .i64 k, .int .i64 d, .slice p n cap, .slice q kids.length c2] 25) := ⟨_, rfl⟩
  have hg1 : W.grownBy W1 none := by rw [hW1]; exact World.grownBy_alloc _ _ _
  have HZ := Lib.hid (fun w => zzFits2_any w k d p q n cap kids.length c2)
  obtain ⟨kb, hkb⟩ : ∃ kb, kb = (decide (k = 4) && (decide (wt (.mk k d n f kids) ≤ 2000) && allT (.mk k d n f kids))) := ⟨_, rfl⟩
  have HK := Lib.hid (fun w (g : W1.grownBy w none) => ((kIsD (h + 1) w k d p q n cap kids.length c2 _ (hk0.mono (gt_trans hg1 g (.inl rfl))) 4 kb hkb).mono (fun e w' ⟨he, hg⟩ => ⟨he, gt_trans g hg (.inl rfl)⟩) : Calls Tryz.prog 9 #[.agg #[.int .i64 k, .int .i64 d, .slice p n cap, .slice q kids.length c2], .int .i64 4] w fun e w' => e = .returned (.bool kb) ∧ W1.grownBy w' none))
  have HS : Hid (∀ W', W1.grownBy W' none → W'.cell? ⟨W.heap.size, 0, none⟩ = some (.int .i64 k) ∧ W'.cell? ⟨W.heap.size, 1, none⟩ = some (.int .i64 d) ∧ W'.cell? ⟨W.heap.size, 2, none⟩ = some (.slice p n cap) ∧ W'.cell? ⟨W.heap.size, 3, none⟩ = some (.slice q kids.length c2)) := fun W' g => by
    rw [hW1] at g
    exact ⟨g.cell (by simp) (by simp), g.cell (by simp) (by simp), g.cell (by simp) (by simp), g.cell (by simp) (by simp)⟩
  have HG1 := Lib.hid hg1
  have HLW := Lib.hid (fun (hk2 : k = 4) (hw : wt (.mk k d n f kids) ≤ 2000) w (g : W1.grownBy w none) => ((by
    subst hk2
    rw [← mp_text T d r n hr (by omega) f kids]
    exact (MultiPointWKT_any T hT h B w d r hr p q n cap kids.length c2 f kids rfl (hk0.mono (gt_trans hg1 g (.inl rfl))) hw (ht.mono (gt_trans hg1 g (.inl rfl)) (by simp) (by simp))).mono (fun e w' ⟨he, hg⟩ => ⟨he, gt_trans g hg (.inl rfl)⟩)) :
    Calls Tryz.prog 13 #[.agg #[.int .i64 k, .int .i64 d, .slice p n cap, .slice q kids.length c2]] w fun e w' => e = .returned (.string ⟨(textT T (newT (.mk k d n f kids))).toArray⟩) ∧ W1.grownBy w' none))
  have HN := Lib.hid (fun (hw : wt (.mk k d n f kids) ≤ 2000) w (g : W1.grownBy w none) => (NewD (h + 1) B w _ _ (hk0.mono (gt_trans hg1 g (.inl rfl))) hw).mono (fun e w' ⟨v', he, hk', hg⟩ => (⟨v', he, hk', gt_trans g hg (.inl rfl)⟩ : ∃ v', e = Ending.returned v' ∧ KD (Fr w w') (h + 1) w' v' (newT (.mk k d n f kids)) ∧ W1.grownBy w' none)))
  have HT := Lib.hid (fun (hw : wt (.mk k d n f kids) ≤ 2000) B' w v' (g : W1.grownBy w none) (hk' : KD B' (h + 1) w v' (newT (.mk k d n f kids))) => (textOk T hT (h + 1) B' w v' _ hk' (dims_new _) (Nat.le_trans (pl_new _) hw) (ht.mono (gt_trans hg1 g (.inl rfl)) (by simp) (by simp))).mono (fun e w' ⟨he, hg⟩ => (⟨he, gt_trans g hg (.inl rfl)⟩ : e = Ending.returned (.string ⟨(textT T (newT (.mk k d n f kids))).toArray⟩) ∧ W1.grownBy w' none)))
  obtain ⟨J, hJ⟩ : ∃ J : ByteArray, J = ⟨(textT T (newT (.mk k d n f kids))).toArray⟩ := ⟨_, rfl⟩
  rw [← hJ] at HLW HT
  cases kb
  · clear hk0 hkb hf ht hr HLW HN HT hJ
    generalize kids.length = m at HZ HK HS hW1 ⊢
    go_enter Tryz.func4, Tryz.ntmps4
    go_wp2_with (go_at_call 8; refine (HZ.out _).mono ?_; rintro e w1 ⟨b1, rfl, _, hg⟩; rw [← hW1] at hg; obtain ⟨x0, x1, x2, x3⟩ := HS.out _ hg)
    · go_ret
      exact ⟨rfl, gt_trans HG1.out hg (.inl rfl)⟩
    · have HS2 : Hid (∀ W', W1.grownBy W' none → W'.cell? ⟨W.heap.size, 0, none⟩ = some (.int .i64 k) ∧ W'.cell? ⟨W.heap.size, 1, none⟩ = some (.int .i64 d) ∧ W'.cell? ⟨W.heap.size, 2, none⟩ = some (.slice p n cap) ∧ W'.cell? ⟨W.heap.size, 3, none⟩ = some (.slice q m c2)) := HS
      have hgd := gt_drew_r hg
      clear hW1
      go_region_with (first
          | (go_at_call 9; refine (HK.out _ ?_).mono ?_; assumption; rintro e w2 ⟨rfl, hg2⟩))
      all_goals
        go_wp2_with fail
        go_ret
        exact ⟨rfl, gt_trans HG1.out hg2 (.inl rfl)⟩
  · have hk2 : k = 4 ∧ wt (.mk k d n f kids) ≤ 2000 := by
      have h9 := hkb.symm
      simp only [Bool.and_eq_true, decide_eq_true_eq] at h9
      exact ⟨h9.1, h9.2.1⟩
    have HLW1 := Lib.hid (HLW.out hk2.1 hk2.2)
    have HN1 := Lib.hid (HN.out hk2.2)
    have HT1 := Lib.hid (HT.out hk2.2)
    clear hk0 hkb hf ht hr HLW HN HT hJ hk2
    generalize newT (.mk k d n f kids) = tn at HN1 HT1
    generalize kids.length = m at HZ HK HS hW1 HLW1 HN1 ⊢
    go_enter Tryz.func4, Tryz.ntmps4
    go_wp2_with (go_at_call 8; refine (HZ.out _).mono ?_; rintro e w1 ⟨b1, rfl, _, hg⟩; rw [← hW1] at hg; obtain ⟨x0, x1, x2, x3⟩ := HS.out _ hg)
    · go_ret
      exact ⟨rfl, gt_trans HG1.out hg (.inl rfl)⟩
    · have HS2 : Hid (∀ W', W1.grownBy W' none → W'.cell? ⟨W.heap.size, 0, none⟩ = some (.int .i64 k) ∧ W'.cell? ⟨W.heap.size, 1, none⟩ = some (.int .i64 d) ∧ W'.cell? ⟨W.heap.size, 2, none⟩ = some (.slice p n cap) ∧ W'.cell? ⟨W.heap.size, 3, none⟩ = some (.slice q m c2)) := HS
      have hgd := gt_drew_r hg
      clear hW1
      go_region_held3 (fun w' => w'.cell? ⟨W.heap.size, 0, none⟩ = some (.int .i64 k) ∧ w'.cell? ⟨W.heap.size, 1, none⟩ = some (.int .i64 d) ∧ w'.cell? ⟨W.heap.size, 2, none⟩ = some (.slice p n cap) ∧ w'.cell? ⟨W.heap.size, 3, none⟩ = some (.slice q m c2))
        (first | (refine HS2.out _ ?_; assumption))
        (first
          | (go_at_call 9; (with_reducible refine (HK.out _ ?_).mono ?_); assumption; rintro e w2 ⟨rfl, hg2⟩)
          | (go_at_call 13; (with_reducible refine (HLW1.out _ ?_).mono ?_); assumption; rintro e w3 ⟨rfl, hg3⟩)
          | (go_at_call 12; (with_reducible refine (HN1.out _ ?_).mono ?_); assumption; rintro e w4 ⟨v4, rfl, hk4, hg4⟩; have Hk4 := Lib.hid hk4; clear hk4)
          | (go_at_call 11; (with_reducible refine (HT1.out _ _ _ ?_ Hk4.out).mono ?_); assumption; rintro e w5 ⟨rfl, hg5⟩))
      all_goals
        go_wp2_with fail
        go_ret
        exact ⟨rfl, gt_trans HG1.out hg5 (.inl rfl)⟩
end Go.Proofs.YthcjnadceambgaaGreatDoor
