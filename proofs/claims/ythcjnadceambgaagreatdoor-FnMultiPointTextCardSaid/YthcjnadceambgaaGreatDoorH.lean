/- The questions of size and of finite numbers: each answers, and leaves all as it was. -/
import Derived.Test.YthcjnadceambgaaGreatDoorG
namespace Go.Proofs.YthcjnadceambgaaGreatDoor
open Go.RowKit

/-- An answer of yes or no, beside which nothing that was there changes. -/
def YN (W : World) (R : Bool → Prop) (e : Ending) (w' : World) : Prop := ∃ b, e = .returned (.bool b) ∧ R b ∧ W.grownBy w' none

set_option maxRecDepth 100000 in
set_option maxHeartbeats 1000000 in
theorem gSmall_any (h : Nat) (W : World) (a : Addr) (c0 c1 c2 c3 : Value) (hk : KG h W (.agg #[c0, c1, c2, c3])) (k0 : W.cell? a = some c0)
    (k1 : W.cell? ⟨a.block, a.off + 1, none⟩ = some c1) (k2 : W.cell? ⟨a.block, a.off + 2, none⟩ = some c2) (k3 : W.cell? ⟨a.block, a.off + 3, none⟩ = some c3) :
    Calls Tryz.prog 15 #[.slice (some a) 1 1] W (YN W fun b => b = true → numsLen (.agg #[c0, c1, c2, c3]) ≤ 2000) := by
  go_enter Tryz.func15, Tryz.ntmps15
  go_wp2_with fail
  go_loopw [3, 4] (fun l i wr => ∃ (r : Int) (j : Nat), l = .int .i64 r ∧ i = .int .i64 j ∧ j ≤ 1 ∧ -1 ≤ r ∧ r ≤ 2000 ∧ W.grownBy wr none ∧ (j = 1 → 0 ≤ r → numsLen (.agg #[c0, c1, c2, c3]) ≤ 2000)) (fun _ i _ => 1 - (intOf i).toNat)
  case atStart => exact ⟨2000, 0, rfl, rfl, by omega, by omega, by omega, gt_refl _ _, fun h => by omega⟩
  case round =>
    obtain ⟨r, j, rfl, rfl, hj, hr1, hr2, hg, hn⟩ := hrel
    rename World => wr
    by_cases hj0 : j = 0
    · subst hj0
      have q0 := hg.cell k0 (by simp)
      have q1 := hg.cell k1 (by simp)
      have q2 := hg.cell k2 (by simp)
      have q3 := hg.cell k3 (by simp)
      have IH := Lib.hid (gWeight_any h wr _ r (hk.mono hg) hr2)
      clear k0 k1 k2 k3
      by_cases hr0 : 0 ≤ r
      · go_wp2_with (go_at_call 37; refine IH.out.mono ?_; rintro e w' ⟨r', rfl, hr1', hr2', hn', hg'⟩)
        exact ⟨⟨r', 1, rfl, by go_num, by omega, hr1', hr2', gt_trans hg hg' (.inl rfl), fun _ => hn'⟩, by simp [intOf]⟩
      · go_wp2_with fail
        go_wp2_with fail
        go_ret
        exact ⟨_, rfl, fun h => by simp at h; try omega, hg⟩
    · obtain rfl : j = 1 := by omega
      go_wp2_with fail
      go_wp2_with fail
      go_ret
      exact ⟨_, rfl, fun h => hn trivial (by simpa using h), hg⟩

set_option maxHeartbeats 1000000 in
theorem isNaN_any (b : Nat) (W : World) : Calls Tryz.prog 38 #[.float .f64 b] W (YN W fun _ => True) := by
  go_enter Tryz.func38, Tryz.ntmps38
  go_wp2_with fail
  go_ret
  exact ⟨_, rfl, trivial, gt_refl _ _⟩

set_option maxHeartbeats 1000000 in
theorem abs_any (b : Nat) (W : World) : Calls Tryz.prog 68 #[.float .f64 b] W fun e w' => (∃ b', e = .returned (.float .f64 b')) ∧ w' = W := by
  have hfb : ∀ w : World, (callFunc 124 #[.float .f64 b]).run Tryz.prog w = .ok (.value (.int .u64 b)) w := fun w => by kernel_rfl
  have hff : ∀ (w : World) (n : Int), (callFunc 123 #[.int .u64 n]).run Tryz.prog w = .ok (.value (.float .f64 n.toNat)) w := fun w n => by kernel_rfl
  go_enter Tryz.func68, Tryz.ntmps68
  go_wp2_with fail
  go_ret
  exact ⟨⟨_, rfl⟩, rfl⟩

set_option maxHeartbeats 1000000 in
theorem isInf_any (b : Nat) (W : World) : Calls Tryz.prog 39 #[.float .f64 b, .int .i64 0] W (YN W fun _ => True) := by
  go_enter Tryz.func39, Tryz.ntmps39
  go_wp2_with (go_at_call 68; refine (abs_any b _).mono ?_; rintro e w' ⟨⟨b', rfl⟩, rfl⟩)
  go_ret
  exact ⟨_, rfl, trivial, gt_refl _ _⟩

set_option maxRecDepth 100000 in
set_option maxHeartbeats 1000000 in
theorem gFinite_any (b : Nat) (W : World) : Calls Tryz.prog 17 #[.float .f64 b] W (YN W fun _ => True) := by
  go_enter Tryz.func17, Tryz.ntmps17
  go_wp2_with (first
    | (go_at_call 38; refine (isNaN_any b _).mono ?_; rintro e w' ⟨b1, rfl, _, hg1⟩)
    | (go_at_call 39; refine (isInf_any b _).mono ?_; rintro e w'' ⟨b2, rfl, _, hg2⟩))
  · go_ret
    exact ⟨_, rfl, trivial, hg1⟩
  · go_ret
    exact ⟨_, rfl, trivial, gt_trans hg1 hg2 (.inl rfl)⟩

set_option maxRecDepth 100000 in
set_option maxHeartbeats 1000000 in
/-- gAll, with gFinite: whatever it answers, nothing that was there changes. -/
theorem gAll_any : ∀ (h : Nat) (W : World) (v : Value), KG h W v → Calls Tryz.prog 16 #[v, .func (.func 17) #[] #[]] W (YN W fun _ => True) := by
  intro h
  induction h with
  | zero => intro W v hk; cases hk
  | succ h ih =>
    intro W v hk
    obtain ⟨k, d, p, n, cap, q, m, c2, rfl, hf, hm1, hm2, hm3, hm4⟩ := hk
    have HM := Lib.hid hm4
    have HM3 := Lib.hid hm3
    have HF := Lib.hid hf
    clear hm4 hm3 hf
    have hmax : maxLen = 9223372036854775807 := rfl
    have hcap := HF.out.most
    have hncap := HF.out.le
    have H1 := World.grownBy_alloc W (.cells #[.int .i64 k, .int .i64 d, .slice p n cap, .slice q m c2] 25) none
    have HB : Hid (∀ W', (W.alloc (.cells #[.int .i64 k, .int .i64 d, .slice p n cap, .slice q m c2] 25)).grownBy W' none → W'.cell? ⟨W.heap.size, 3, none⟩ = some (.slice q m c2)) := fun W' g => g.cell (by simp) (by simp)
    go_enter Tryz.func16, Tryz.ntmps16
    go_wp2_with fail
    go_loopw [12] (fun i wr => ∃ (j : Nat), i = .int .i64 j ∧ j ≤ n ∧ (W.alloc (.cells #[.int .i64 k, .int .i64 d, .slice p n cap, .slice q m c2] 25)).grownBy wr none) (fun i _ => n - (intOf i).toNat)
    case atStart => exact ⟨0, rfl, by omega, gt_refl _ _⟩
    case round =>
      obtain ⟨j, rfl, hj, hg⟩ := hrel
      rename World => wr
      have hbox := HB.out wr hg
      by_cases hjn : j < n
      · obtain ⟨a, rfl⟩ := HF.out.some_ (by omega)
        obtain ⟨b, hb1, hb2⟩ := HF.out.at_ a rfl j hjn
        have G := gt_trans H1 hg (.inl rfl)
        have q1 := G.cell hb1 (by simp)
        have IH := Lib.hid (gFinite_any b wr)
        clear hb1
        go_wp2_with (go_at_call 17; refine IH.out.mono ?_; rintro e w' ⟨r', rfl, _, hg'⟩)
        · go_ret
          exact ⟨_, rfl, trivial, gt_trans G hg' (.inl rfl)⟩
        · exact ⟨⟨j + 1, by go_num, by omega, gt_trans hg hg' (.inl rfl)⟩, by simp [intOf]; omega⟩
      · go_wp2_with fail
        have H0 := gt_trans H1 hg (.inl rfl)
        clear hg
        go_loopw [24] (fun i w2 => ∃ (j : Nat), i = .int .i64 j ∧ j ≤ m ∧ W.grownBy w2 none) (fun i _ => m - (intOf i).toNat)
        case atStart => exact ⟨0, rfl, by omega, H0⟩
        case round =>
          obtain ⟨e, rfl, he, hg⟩ := hrel
          rename World => w2
          by_cases hem : e < m
          · obtain ⟨a, rfl⟩ := HM3.out (by omega)
            obtain ⟨c0, c1, c2, c3, k0, k1, k2, k3, k4⟩ := HM.out a rfl e hem
            obtain ⟨k', d', p', n', cap', q', m', c', rfl, rfl, rfl, rfl⟩ := k0.form4
            have q1 := hg.cell k1 (by simp)
            have q2 := hg.cell k2 (by simp)
            have q3 := hg.cell k3 (by simp)
            have q4 := hg.cell k4 (by simp)
            have IH := Lib.hid (fun w (g : W.grownBy w none) => ih w _ (k0.mono g))
            have HG := Lib.hid hg
            clear k0 k1 k2 k3 k4 hg
            go_wp2_with (go_at_call 16; refine (IH.out _ (gt_alloc_r HG.out _)).mono ?_; rintro e w' ⟨r', rfl, _, hg'⟩)
            · go_ret
              exact ⟨_, rfl, trivial, gt_trans (gt_alloc_r HG.out _) hg' (.inl rfl)⟩
            · exact ⟨⟨e + 1, by go_num, by omega, gt_trans (gt_alloc_r HG.out _) hg' (.inl rfl)⟩, by simp [intOf]; omega⟩
          · go_wp2_with fail
            go_wp2_with fail
            go_ret
            exact ⟨_, rfl, trivial, hg⟩

set_option maxRecDepth 100000 in
set_option maxHeartbeats 1000000 in
theorem kIs_any (h : Nat) (W : World) (k d : Int) (p q : Option Addr) (n cap m c2 : Nat) (hk : KG h W (.agg #[.int .i64 k, .int .i64 d, .slice p n cap, .slice q m c2])) (kind : Int) :
    Calls Tryz.prog 9 #[.agg #[.int .i64 k, .int .i64 d, .slice p n cap, .slice q m c2], .int .i64 kind] W (YN W fun b => b = true → k = kind ∧ n ≤ 2000) := by
  have IS := Lib.hid (fun W' (g : W.grownBy W' none) (k0 : W'.cell? ⟨W.heap.size + 1, 0, none⟩ = some (.int .i64 k)) (k1 : W'.cell? ⟨W.heap.size + 1, 0 + 1, none⟩ = some (.int .i64 d)) (k2 : W'.cell? ⟨W.heap.size + 1, 0 + 2, none⟩ = some (.slice p n cap)) (k3 : W'.cell? ⟨W.heap.size + 1, 0 + 3, none⟩ = some (.slice q m c2)) =>
    gSmall_any h W' ⟨W.heap.size + 1, 0, none⟩ _ _ _ _ (hk.mono g) k0 k1 k2 k3)
  have IA := Lib.hid (fun W' (g : W.grownBy W' none) => gAll_any h W' _ (hk.mono g))
  clear hk
  by_cases hkk : k = kind
  · subst hkk
    have HG := Lib.hid (gt_alloc_r (World.grownBy_alloc W (.cells #[.int .i64 k, .int .i64 d, .slice p n cap, .slice q m c2] 25) none) (.cells #[.int .i64 k, .int .i64 d, .slice p n cap, .slice q m c2] 25))
    have HB : Hid (∀ W', ((W.alloc (.cells #[.int .i64 k, .int .i64 d, .slice p n cap, .slice q m c2] 25)).alloc (.cells #[.int .i64 k, .int .i64 d, .slice p n cap, .slice q m c2] 25)).grownBy W' none → W'.cell? ⟨W.heap.size, 0, none⟩ = some (.int .i64 k) ∧ W'.cell? ⟨W.heap.size, 1, none⟩ = some (.int .i64 d) ∧ W'.cell? ⟨W.heap.size, 2, none⟩ = some (.slice p n cap) ∧ W'.cell? ⟨W.heap.size, 3, none⟩ = some (.slice q m c2)) :=
      fun W' g => ⟨g.cell (by simp) (by simp), g.cell (by simp) (by simp), g.cell (by simp) (by simp), g.cell (by simp) (by simp)⟩
    go_enter Tryz.func9, Tryz.ntmps9
    go_wp2_with (first
      | (go_at_call 15; refine (IS.out _ HG.out (by simp) (by simp) (by simp) (by simp)).mono ?_; rintro e w' ⟨b1, rfl, hb1, hg1⟩; obtain ⟨x0, x1, x2, x3⟩ := HB.out _ hg1)
      | (go_at_call 16; refine (IA.out _ (gt_trans HG.out hg1 (.inl rfl))).mono ?_; rintro e w'' ⟨b2, rfl, _, hg2⟩))
    · go_ret
      exact ⟨_, rfl, fun _ => ⟨by simp, hb1 (by assumption)⟩, gt_trans (gt_trans HG.out hg1 (.inl rfl)) hg2 (.inl rfl)⟩
    · go_ret
      exact ⟨false, rfl, fun h => absurd h (by simp), gt_trans HG.out hg1 (.inl rfl)⟩
  · have hB : (k == kind) = false := by simpa using hkk
    go_enter Tryz.func9, Tryz.ntmps9
    go_wp2_with fail
    go_ret
    exact ⟨false, rfl, fun h => absurd h (by simp), World.grownBy_alloc _ _ _⟩

end Go.Proofs.YthcjnadceambgaaGreatDoor
