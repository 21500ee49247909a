/- The questions of size, with what they tell of the tree. FnLineText, walked whole. FnMultiPointText: the package's side. -/
import Derived.Test.YthcjnadceambgaaGreatDoorJST10
namespace Go.Proofs.YthcjnadceambgaaGreatDoor
open Go.RowKit

theorem ret_bool {a b : Bool} (h : a = b) : Ending.returned (.bool a) = .returned (.bool b) := by rw [h]
def WPostD (W : World) (t : Raw) (left : Int) (e : Ending) (w' : World) : Prop := ∃ r : Int, e = .returned (.int .i64 r) ∧ -1 ≤ r ∧ r ≤ 2000 ∧ (0 ≤ r → (wt t : Int) + r = left) ∧ ((wt t : Int) ≤ left → 0 ≤ r) ∧ W.grownBy w' none

set_option maxRecDepth 100000 in
set_option maxHeartbeats 1000000 in
theorem gWeightD {B : Nat → Prop} : ∀ (h : Nat) (W : World) (v : Value) (t : Raw) (left : Int), KD B h W v t → left ≤ 2000 → Calls Tryz.prog 37 #[v, .int .i64 left] W (WPostD W t left) := by
  intro h
  induction h with
  | zero => intro W v t left hk; exact hk.elim
  | succ h ih =>
    intro W v t left hk hleft
    obtain ⟨k, d, n, f, kids⟩ := t
    obtain ⟨p, cap, q, c2, rfl, hf, h1, h2, h3, hm1, hm2, hm3, hm4, _⟩ := hk
    have HM := Lib.hid hm4
    have HM3 := Lib.hid hm3
    have HT := Lib.hid (fun j t (hj : kids[j]? = some t) => wts_take_succ kids j t hj)
    have HWl : Hid (kids.length ≤ wts kids) := wts_len kids
    have HTk : Hid (∀ j, wts (kids.take j) ≤ wts kids) := fun j => by
      have := wts_append (kids.take j) (kids.drop j)
      rw [List.take_append_drop] at this
      omega
    have HE : Hid (wts (kids.take kids.length) = wts kids) := by rw [List.take_length]; rfl
    have HW : Hid ((wt (.mk k d n f kids) : Int) = 1 + n + wts kids) := by unfold wt; push_cast; rfl
    obtain ⟨m, hm⟩ : ∃ m, m = kids.length := ⟨_, rfl⟩
    have HG : Hid (∀ j, j < m → ∃ t, kids[j]? = some t) := fun j hj => ⟨kids[j]'(by omega), List.getElem?_eq_getElem (by omega)⟩
    rw [← hm] at HE HWl hm1 ⊢
    clear hm4 hm3 hm
    have hmax : maxLen = 9223372036854775807 := rfl
    by_cases hb : left < 1 ∨ left < n ∨ left < m
    · go_enter Tryz.func37, Tryz.ntmps37
      go_wp2_with fail
      all_goals first
        | (exfalso; omega)
        | (go_ret; exact ⟨-1, rfl, by omega, by omega, fun h => by omega, fun h => by rw [HW.out] at h; have := HWl.out; omega, World.grownBy_alloc _ _ _⟩)
    · obtain ⟨b1, b2, b3⟩ : 1 ≤ left ∧ (n : Int) ≤ left ∧ (m : Int) ≤ left := by omega
      clear hb
      go_enter Tryz.func37, Tryz.ntmps37
      go_wp2_with fail
      have H1 := World.grownBy_alloc W (.cells #[.int .i64 k, .int .i64 d, .slice p n cap, .slice q m c2] 25) none
      have HB : Hid (∀ W', (W.alloc (.cells #[.int .i64 k, .int .i64 d, .slice p n cap, .slice q m c2] 25)).grownBy W' none → W'.cell? ⟨W.heap.size, 3, none⟩ = some (.slice q m c2)) := fun W' g => g.cell (by simp) (by simp)
      go_loopw [1, 5] (fun l i wr => ∃ (r : Int) (j : Nat), l = .int .i64 r ∧ i = .int .i64 j ∧ j ≤ m ∧ -1 ≤ r ∧ r ≤ 2000 ∧ (0 ≤ r → 1 + (n : Int) + wts (kids.take j) + r = left) ∧ (1 + (n : Int) + wts kids ≤ left → 0 ≤ r) ∧ (W.alloc (.cells #[.int .i64 k, .int .i64 d, .slice p n cap, .slice q m c2] 25)).grownBy wr none) (fun _ i _ => m - (intOf i).toNat)
      case atStart => exact ⟨_, 0, rfl, rfl, by omega, by omega, by omega, fun _ => by simp [wts]; omega, fun _ => by omega, gt_refl _ _⟩
      case round =>
        obtain ⟨r, j, rfl, rfl, hj, hr1, hr2, hsum, hpos, hg⟩ := hrel
        rename World => wr
        have hbox := HB.out wr hg
        have HS := Lib.hid hsum
        have HP := Lib.hid hpos
        clear hsum hpos
        by_cases hjm : j < m
        · by_cases hr0 : 0 ≤ r
          · obtain ⟨t, ht⟩ := HG.out j hjm
            obtain ⟨a, rfl⟩ : ∃ a, q = some a := by
              cases q with
              | none => have := HM3.out rfl; omega
              | some a => exact ⟨a, rfl⟩
            obtain ⟨c0, c1, c2, c3, k0, k1, k2, k3, k4⟩ := HM.out a rfl j t ht
            have G := gt_trans H1 hg (.inl rfl)
            have q1 := G.cell k1 (by simp)
            have q2 := G.cell k2 (by simp)
            have q3 := G.cell k3 (by simp)
            have q4 := G.cell k4 (by simp)
            have IH := Lib.hid (ih wr _ t r (k0.mono G) hr2)
            have HTj := Lib.hid (HT.out j t ht)
            clear k0 k1 k2 k3 k4 ht
            go_wp2_with (go_at_call 37; refine IH.out.mono ?_; rintro e w' ⟨r', rfl, hr1', hr2', hs', hp', hg'⟩)
            exact ⟨⟨r', j + 1, rfl, by go_num, by omega, hr1', hr2', fun h0 => by rw [HTj.out]; have e1 := hs' h0; have e2 := HS.out hr0; push_cast; omega, fun h0 => hp' (by have e2 := HS.out hr0; have e3 := HTk.out (j + 1); rw [HTj.out] at e3; omega), gt_trans hg hg' (.inr (.inl rfl))⟩, by simp [intOf]; omega⟩
          · go_wp2_with fail
            go_wp2_with fail
            go_ret
            exact ⟨r, rfl, hr1, hr2, fun h => by omega, fun h => HP.out (by rw [HW.out] at h; exact h), gt_trans H1 hg (.inl rfl)⟩
        · obtain rfl : j = m := by omega
          go_wp2_with fail
          go_wp2_with fail
          go_ret
          exact ⟨r, rfl, hr1, hr2, fun h0 => by have e := HS.out h0; rw [HE.out] at e; rw [HW.out]; omega, fun h => HP.out (by rw [HW.out] at h; exact h), gt_trans H1 hg (.inl rfl)⟩

set_option maxRecDepth 100000 in
set_option maxHeartbeats 1000000 in
theorem gSmallD1 {B : Nat → Prop} (h : Nat) (W : World) (a : Addr) (c0 c1 c2 c3 : Value) (t : Raw) (hk : KD B h W (.agg #[c0, c1, c2, c3]) t) (k0 : W.cell? a = some c0)
    (k1 : W.cell? ⟨a.block, a.off + 1, none⟩ = some c1) (k2 : W.cell? ⟨a.block, a.off + 2, none⟩ = some c2) (k3 : W.cell? ⟨a.block, a.off + 3, none⟩ = some c3) :
    Calls Tryz.prog 15 #[.slice (some a) 1 1] W (fun e w' => e = .returned (.bool (decide (wt t ≤ 2000))) ∧ W.grownBy w' none) := by
  go_enter Tryz.func15, Tryz.ntmps15
  go_wp2_with fail
  go_loopw [3, 4] (fun l i wr => ∃ (r : Int) (j : Nat), l = .int .i64 r ∧ i = .int .i64 j ∧ j ≤ 1 ∧ -1 ≤ r ∧ r ≤ 2000 ∧ W.grownBy wr none ∧ (j = 0 → r = 2000) ∧ (j = 1 → (0 ≤ r ↔ wt t ≤ 2000))) (fun _ i _ => 1 - (intOf i).toNat)
  case atStart => exact ⟨2000, 0, rfl, rfl, by omega, by omega, by omega, gt_refl _ _, fun _ => rfl, fun h => by omega⟩
  case round =>
    obtain ⟨r, j, rfl, rfl, hj, hr1, hr2, hg, hn0, hn⟩ := hrel
    rename World => wr
    by_cases hj0 : j = 0
    · subst hj0
      have q0 := hg.cell k0 (by simp)
      have q1 := hg.cell k1 (by simp)
      have q2 := hg.cell k2 (by simp)
      have q3 := hg.cell k3 (by simp)
      have IH := Lib.hid (gWeightD h wr _ t r (hk.mono hg) hr2)
      clear k0 k1 k2 k3
      obtain rfl := hn0 rfl
      clear hn0
      go_wp2_with (go_at_call 37; refine IH.out.mono ?_; rintro e w' ⟨r', rfl, hr1', hr2', hn', hp', hg'⟩)
      exact ⟨⟨r', 1, rfl, by go_num, by omega, hr1', hr2', gt_trans hg hg' (.inl rfl), fun h => by omega, fun _ => ⟨fun h0 => by have := hn' h0; omega, fun h0 => hp' (by omega)⟩⟩, by simp [intOf]⟩
    · obtain rfl : j = 1 := by omega
      have hn1 := hn rfl
      have he : decide (wt t ≤ 2000) = decide (0 ≤ r) := by rw [decide_eq_decide]; exact hn1.symm
      have HE := Lib.hid he
      clear hn hn0 hn1 he
      go_wp2_with fail
      go_wp2_with fail
      go_ret
      exact ⟨ret_bool HE.out.symm, hg⟩

theorem nan_ex (b : Nat) : ∃ r : Bool, ∀ W, Calls Tryz.prog 38 #[.float .f64 b] W fun e w' => e = .returned (.bool r) ∧ W.grownBy w' none := by
  apply Exists.intro
  · intro W
    go_enter Tryz.func38, Tryz.ntmps38
    go_wp2_with fail
    go_ret
    exact ⟨rfl, gt_refl _ _⟩
theorem abs_ex (b : Nat) : ∃ b' : Nat, ∀ W, Calls Tryz.prog 68 #[.float .f64 b] W fun e w' => e = .returned (.float .f64 b') ∧ w' = W := by
  have hfb : ∀ w : World, (callFunc 124 #[.float .f64 b]).run Tryz.prog w = .ok (.value (.int .u64 b)) w := fun w => by kernel_rfl
  have hff : ∀ (w : World) (n : Int), (callFunc 123 #[.int .u64 n]).run Tryz.prog w = .ok (.value (.float .f64 n.toNat)) w := fun w n => by kernel_rfl
  apply Exists.intro
  · intro W
    go_enter Tryz.func68, Tryz.ntmps68
    go_wp2_with fail
    go_ret
    exact ⟨rfl, rfl⟩
set_option maxHeartbeats 1000000 in
theorem inf_ex (b : Nat) : ∃ r : Bool, ∀ W, Calls Tryz.prog 39 #[.float .f64 b, .int .i64 0] W fun e w' => e = .returned (.bool r) ∧ W.grownBy w' none := by
  obtain ⟨b', hb'⟩ := abs_ex b
  have HA := Lib.hid hb'
  clear hb'
  apply Exists.intro
  · intro W
    go_enter Tryz.func39, Tryz.ntmps39
    go_wp2_with (go_at_call 68; refine (HA.out _).mono ?_; rintro e w' ⟨rfl, rfl⟩)
    go_ret
    exact ⟨rfl, gt_refl _ _⟩
set_option maxRecDepth 100000 in
set_option maxHeartbeats 1000000 in
theorem fin_ex (b : Nat) : ∃ r : Bool, ∀ W, Calls Tryz.prog 17 #[.float .f64 b] W fun e w' => e = .returned (.bool r) ∧ W.grownBy w' none := by
  obtain ⟨b1, h1⟩ := nan_ex b
  obtain ⟨b2, h2⟩ := inf_ex b
  have H1 := Lib.hid h1
  have H2 := Lib.hid h2
  clear h1 h2
  refine ⟨!b1 && !b2, fun W => ?_⟩
  cases b1
  · go_enter Tryz.func17, Tryz.ntmps17
    go_wp2_with (first
      | (go_at_call 38; refine (H1.out _).mono ?_; rintro e w' ⟨rfl, hg1⟩)
      | (go_at_call 39; refine (H2.out _).mono ?_; rintro e w'' ⟨rfl, hg2⟩))
    go_ret
    exact ⟨by simp, gt_trans hg1 hg2 (.inl rfl)⟩
  · go_enter Tryz.func17, Tryz.ntmps17
    go_wp2_with (first
      | (go_at_call 38; refine (H1.out _).mono ?_; rintro e w' ⟨rfl, hg1⟩)
      | (go_at_call 39; refine (H2.out _).mono ?_; rintro e w'' ⟨rfl, hg2⟩))
    go_ret
    exact ⟨by simp, hg1⟩
/-- Whether a number is finite. -/
noncomputable def finB (b : Nat) : Bool := Classical.choose (fin_ex b)
theorem gFiniteD (b : Nat) (W : World) : Calls Tryz.prog 17 #[.float .f64 b] W fun e w' => e = .returned (.bool (finB b)) ∧ W.grownBy w' none := Classical.choose_spec (fin_ex b) W

mutual
noncomputable def allT : Raw → Bool
  | .mk _ _ n f kids => ((List.range n).all fun i => finB (f i)) && allTs kids
noncomputable def allTs : List Raw → Bool
  | [] => true
  | t :: ts => allT t && allTs ts
end
theorem allTs_take (kids : List Raw) (l : Nat) (t : Raw) (h : kids[l]? = some t) : allTs (kids.take (l + 1)) = (allTs (kids.take l) && allT t) := by
  have key : ∀ (a : List Raw) (t : Raw), allTs (a ++ [t]) = (allTs a && allT t) := by
    intro a t
    induction a with
    | nil => simp [allTs]
    | cons s a ih => simp only [List.cons_append, allTs, ih, Bool.and_assoc]
  obtain ⟨hlt, rfl⟩ := List.getElem?_eq_some_iff.1 h
  rw [List.take_succ_eq_append_getElem hlt, key]
theorem allTs_le (kids : List Raw) (l : Nat) (h : allTs (kids.take l) = false) : allTs kids = false := by
  have key : ∀ (a b : List Raw), allTs (a ++ b) = (allTs a && allTs b) := by
    intro a b
    induction a with
    | nil => simp [allTs]
    | cons s a ih => simp only [List.cons_append, allTs, ih, Bool.and_assoc]
  have := key (kids.take l) (kids.drop l)
  rw [List.take_append_drop, h] at this
  exact this

set_option maxRecDepth 100000 in
set_option maxHeartbeats 1000000 in
theorem gAllD : ∀ (h : Nat) (B : Nat → Prop) (W : World) (v : Value) (t : Raw), KD B h W v t → Calls Tryz.prog 16 #[v, .func (.func 17) #[] #[]] W fun e w' => e = .returned (.bool (allT t)) ∧ W.grownBy w' none := by
  intro h
  induction h with
  | zero => intro B W v t hk; exact hk.elim
  | succ h ih =>
    intro B W v t hk
    obtain ⟨k, d, n, f, kids⟩ := t
    obtain ⟨p, cap, q, c2, rfl, hf, h1, h2, h3, hm1, hm2, hm3, hm4, _⟩ := hk
    have HM := Lib.hid hm4
    have HM3 := Lib.hid hm3
    have HF := Lib.hid hf
    have hmax : maxLen = 9223372036854775807 := rfl
    have HAF : Hid (∀ j, j < n → finB (f j) = false → allT (.mk k d n f kids) = false) := fun j hj hb => by
      unfold allT
      have : ((List.range n).all fun i => finB (f i)) = false := by
        rw [List.all_eq_false]
        exact ⟨j, by simpa using hj, by simp [hb]⟩
      rw [this]; rfl
    have HAT : Hid ((∀ j, j < n → finB (f j) = true) → allT (.mk k d n f kids) = allTs kids) := fun hall => by
      unfold allT
      have : ((List.range n).all fun i => finB (f i)) = true := by
        rw [List.all_eq_true]
        intro i hi
        exact hall i (by simpa using hi)
      rw [this]; rfl
    have HTk := Lib.hid (fun l t (hl : kids[l]? = some t) => allTs_take kids l t hl)
    have HTl := Lib.hid (fun l (hl : allTs (kids.take l) = false) => allTs_le kids l hl)
    have HTE : Hid (allTs (kids.take kids.length) = allTs kids) := by rw [List.take_length]; exact rfl
    have HG : Hid (∀ j, j < kids.length → ∃ t, kids[j]? = some t) := fun j hj => ⟨kids[j]'(by omega), List.getElem?_eq_getElem (by omega)⟩
    generalize kids.length = m at HG HTE hm1 ⊢
    clear hm4 hm3 hf
    have H1 := World.grownBy_alloc W (.cells #[.int .i64 k, .int .i64 d, .slice p n cap, .slice q m c2] 25) none
    have HB : Hid (∀ W', (W.alloc (.cells #[.int .i64 k, .int .i64 d, .slice p n cap, .slice q m c2] 25)).grownBy W' none → W'.cell? ⟨W.heap.size, 3, none⟩ = some (.slice q m c2)) := fun W' g => g.cell (by simp) (by simp)
    go_enter Tryz.func16, Tryz.ntmps16
    go_wp2_with fail
    go_loopw [12] (fun i wr => ∃ (j : Nat), i = .int .i64 j ∧ j ≤ n ∧ (∀ i, i < j → finB (f i) = true) ∧ (W.alloc (.cells #[.int .i64 k, .int .i64 d, .slice p n cap, .slice q m c2] 25)).grownBy wr none) (fun i _ => n - (intOf i).toNat)
    case atStart => exact ⟨0, rfl, by omega, fun i hi => by omega, gt_refl _ _⟩
    case round =>
      obtain ⟨j, rfl, hj, hfin, hg⟩ := hrel
      rename World => wr
      have hbox := HB.out wr hg
      have HFin := Lib.hid hfin
      clear hfin
      by_cases hjn : j < n
      · obtain ⟨a, rfl⟩ := HF.out.some_ (by omega)
        have hb1 := HF.out.at_ a rfl j hjn
        have G := gt_trans H1 hg (.inl rfl)
        have q1 := G.cell hb1 (by simp)
        have IH := Lib.hid (gFiniteD (f j) wr)
        have HFj := Lib.hid (HAF.out j hjn)
        obtain ⟨fb, hfb⟩ : ∃ fb, fb = finB (f j) := ⟨_, rfl⟩
        rw [← hfb] at IH HFj
        have Hfb := Lib.hid hfb
        clear hb1 hfb
        cases fb
        · have HFj2 := Lib.hid (HFj.out rfl)
          go_wp2_with (go_at_call 17; refine IH.out.mono ?_; rintro e w' ⟨rfl, hg'⟩)
          go_ret
          exact ⟨ret_bool HFj2.out.symm, gt_trans G hg' (.inl rfl)⟩
        · go_wp2_with (go_at_call 17; refine IH.out.mono ?_; rintro e w' ⟨rfl, hg'⟩)
          exact ⟨⟨j + 1, by go_num, by omega, fun i hi => by
            by_cases he : i = j
            · subst he; exact Hfb.out.symm
            · exact HFin.out i (by omega), gt_trans hg hg' (.inl rfl)⟩, by simp [intOf]; omega⟩
      · obtain rfl : j = n := by omega
        go_wp2_with fail
        have H0 := gt_trans H1 hg (.inl rfl)
        have HA0 := Lib.hid (HAT.out HFin.out)
        clear hg
        go_loopw [24] (fun i w2 => ∃ (l : Nat), i = .int .i64 l ∧ l ≤ m ∧ allTs (kids.take l) = true ∧ W.grownBy w2 none) (fun i _ => m - (intOf i).toNat)
        case atStart => exact ⟨0, rfl, by omega, by simp [allTs], H0⟩
        case round =>
          obtain ⟨e, rfl, he, hall, hg⟩ := hrel
          rename World => w2
          have HAll := Lib.hid hall
          clear hall
          by_cases hem : e < m
          · obtain ⟨t, ht⟩ := HG.out e hem
            obtain ⟨a, rfl⟩ : ∃ a, q = some a := by
              cases q with
              | none => have := HM3.out rfl; omega
              | some a => exact ⟨a, rfl⟩
            obtain ⟨c0, c1, c2, c3, k0, k1, k2, k3, k4⟩ := HM.out a rfl e t ht
            obtain ⟨k', d', n', f', kids', p', cap', q', c', hte, rfl, rfl, rfl, rfl⟩ := k0.form4
            clear hte
            generalize kids'.length = m' at k0 k4
            have q1 := hg.cell k1 (by simp)
            have q2 := hg.cell k2 (by simp)
            have q3 := hg.cell k3 (by simp)
            have q4 := hg.cell k4 (by simp)
            have IH := Lib.hid (fun w (g : W.grownBy w none) => ih B w _ t (k0.mono g))
            have HTt := Lib.hid (HTk.out e t ht)
            have HG2 := Lib.hid hg
            obtain ⟨ab, hab⟩ : ∃ ab, ab = allT t := ⟨_, rfl⟩
            rw [← hab, HAll.out] at HTt
            rw [← hab] at IH
            clear k0 k1 k2 k3 k4 hg ht hab
            cases ab
            · have hf2 := HTl.out (e + 1) HTt.out
              have HA1 : Hid (allT (.mk k d j f kids) = false) := by rw [HA0.out]; exact hf2
              clear hf2
              go_wp2_with (go_at_call 16; refine (IH.out _ (gt_alloc_r HG2.out _)).mono ?_; rintro e w' ⟨rfl, hg'⟩)
              go_ret
              exact ⟨ret_bool HA1.out.symm, gt_trans (gt_alloc_r HG2.out _) hg' (.inl rfl)⟩
            · go_wp2_with (go_at_call 16; refine (IH.out _ (gt_alloc_r HG2.out _)).mono ?_; rintro e w' ⟨rfl, hg'⟩)
              exact ⟨⟨e + 1, by go_num, by omega, HTt.out, gt_trans (gt_alloc_r HG2.out _) hg' (.inl rfl)⟩, by simp [intOf]; omega⟩
          · obtain rfl : e = m := by omega
            have HA1 : Hid (allT (.mk k d j f kids) = true) := by rw [HA0.out, ← HTE.out]; exact HAll.out
            go_wp2_with fail
            go_wp2_with fail
            go_ret
            exact ⟨ret_bool HA1.out.symm, hg⟩

set_option maxRecDepth 100000 in
set_option maxHeartbeats 1000000 in
theorem kIsD {B : Nat → Prop} (h : Nat) (W : World) (k d : Int) (p q : Option Addr) (n cap m c2 : Nat) (t : Raw) (hk : KD B h W (.agg #[.int .i64 k, .int .i64 d, .slice p n cap, .slice q m c2]) t) (kind : Int) (b : Bool) (hb : b = (decide (k = kind) && (decide (wt t ≤ 2000) && allT t))) :
    Calls Tryz.prog 9 #[.agg #[.int .i64 k, .int .i64 d, .slice p n cap, .slice q m c2], .int .i64 kind] W fun e w' => e = .returned (.bool b) ∧ W.grownBy w' none := by
  have IS := Lib.hid (fun W' (g : W.grownBy W' none) (k0 : W'.cell? ⟨W.heap.size + 1, 0, none⟩ = some (.int .i64 k)) (k1 : W'.cell? ⟨W.heap.size + 1, 0 + 1, none⟩ = some (.int .i64 d)) (k2 : W'.cell? ⟨W.heap.size + 1, 0 + 2, none⟩ = some (.slice p n cap)) (k3 : W'.cell? ⟨W.heap.size + 1, 0 + 3, none⟩ = some (.slice q m c2)) =>
    gSmallD1 h W' ⟨W.heap.size + 1, 0, none⟩ _ _ _ _ t (hk.mono g) k0 k1 k2 k3)
  have IA := Lib.hid (fun W' (g : W.grownBy W' none) => gAllD h B W' _ t (hk.mono g))
  clear hk
  by_cases hkk : k = kind
  · subst hkk
    rw [decide_eq_true rfl, Bool.true_and] at hb
    generalize decide (wt t ≤ 2000) = s at IS hb
    generalize allT t = al at IA hb
    have HG := Lib.hid (gt_alloc_r (World.grownBy_alloc W (.cells #[.int .i64 k, .int .i64 d, .slice p n cap, .slice q m c2] 25) none) (.cells #[.int .i64 k, .int .i64 d, .slice p n cap, .slice q m c2] 25))
    have HB : Hid (∀ W', ((W.alloc (.cells #[.int .i64 k, .int .i64 d, .slice p n cap, .slice q m c2] 25)).alloc (.cells #[.int .i64 k, .int .i64 d, .slice p n cap, .slice q m c2] 25)).grownBy W' none → W'.cell? ⟨W.heap.size, 0, none⟩ = some (.int .i64 k) ∧ W'.cell? ⟨W.heap.size, 1, none⟩ = some (.int .i64 d) ∧ W'.cell? ⟨W.heap.size, 2, none⟩ = some (.slice p n cap) ∧ W'.cell? ⟨W.heap.size, 3, none⟩ = some (.slice q m c2)) :=
      fun W' g => ⟨g.cell (by simp) (by simp), g.cell (by simp) (by simp), g.cell (by simp) (by simp), g.cell (by simp) (by simp)⟩
    cases s
    · rw [Bool.false_and] at hb
      subst hb
      go_enter Tryz.func9, Tryz.ntmps9
      go_wp2_with (first
        | (go_at_call 15; refine (IS.out _ HG.out (by simp) (by simp) (by simp) (by simp)).mono ?_; rintro e w' ⟨rfl, hg1⟩; obtain ⟨x0, x1, x2, x3⟩ := HB.out _ hg1))
      go_ret
      exact ⟨rfl, gt_trans HG.out hg1 (.inl rfl)⟩
    · rw [Bool.true_and] at hb
      subst hb
      go_enter Tryz.func9, Tryz.ntmps9
      go_wp2_with (first
        | (go_at_call 15; refine (IS.out _ HG.out (by simp) (by simp) (by simp) (by simp)).mono ?_; rintro e w' ⟨rfl, hg1⟩; obtain ⟨x0, x1, x2, x3⟩ := HB.out _ hg1)
        | (go_at_call 16; refine (IA.out _ (gt_trans HG.out hg1 (.inl rfl))).mono ?_; rintro e w'' ⟨rfl, hg2⟩))
      go_ret
      exact ⟨rfl, gt_trans (gt_trans HG.out hg1 (.inl rfl)) hg2 (.inl rfl)⟩
  · have hB : (k == kind) = false := by simpa using hkk
    rw [decide_eq_false hkk, Bool.false_and] at hb
    subst hb
    go_enter Tryz.func9, Tryz.ntmps9
    go_wp2_with fail
    go_ret
    exact ⟨rfl, World.grownBy_alloc _ _ _⟩
end Go.Proofs.YthcjnadceambgaaGreatDoor
namespace Go.Proofs.YthcjnadceambgaaGreatDoor
open Go.RowKit

theorem line_text (T : Nat → Int) (d : Int) (r n : Nat) (hr : d % 4 = r) (hr4 : r < 4) (f : Nat → Nat) (kids : List Raw) : lineW T r (n - n % widN r) f = textT T (newT (.mk 2 d n f kids)) := by
  have hw := widN_le r hr4
  have hN : n - n % widN r = n / widN r * widN r := by
    have := Nat.mod_add_div n (widN r)
    rw [Nat.mul_comm]; omega
  have hrt : (d % 4).toNat = r := by rw [hr]; rfl
  have e : newT (.mk 2 d n f kids) = .mk 2 (d % 4) (n / widN (d % 4).toNat * widN (d % 4).toNat) f [] := by
    unfold newT
    rw [if_neg (by decide), if_pos (by decide)]
  rw [e, hrt, hN]
  unfold textT lineW lineB
  rw [hrt, Nat.mul_div_cancel _ (by omega : 0 < widN r)]
  generalize n / widN r = L
  have e0 : bodyTs T (decide ((2 : Int) = 0)) [] = [] := by unfold bodyTs; rfl
  rw [e0, List.append_nil]
  have en : nameT 2 = nLINE := rfl
  rw [en]
  by_cases hL : L = 0
  · subst hL
    have ep : plTs T r f 0 = [] := by simp [plTs]
    rw [if_pos rfl, ep, if_pos rfl]
    unfold wrapP
    rw [if_pos rfl]
    by_cases hr0 : r = 0
    · subst hr0; rfl
    · rw [if_neg hr0, if_neg hr0]
      have : wE 32 = EMPTY := by decide
      rw [this]
  · have hne : ¬ plTs T r f L = [] := fun h => hL (by have := plTs_len T r f L; rw [h] at this; exact this.symm)
    rw [if_neg hL, if_neg hne]
    unfold wrapP
    rw [if_neg hne]
    have ej : joinC (plTs T r f L) = wSeq T false r f L := by
      unfold joinC wSeq
      rw [plTs_len]
      refine cTo_congr fun i hi => ?_
      simp [plTs, hi, List.getD_eq_getElem?_getD, par]
    rw [ej]
    by_cases hr0 : r = 0
    · subst hr0; rfl
    · rw [if_neg hr0]

set_option maxRecDepth 100000 in
set_option maxHeartbeats 1000000 in
theorem LineAsText_any (T : Nat → Int) (hT : ∀ i, U64 (T i)) (r n : Nat) (v : Value) (f : Nat → Nat) (hr : r < 4) (hn : n ≤ 2000) (W : World) (hv : SeqIs W v r n f) (ht : Tabs T W) :
    Calls Tryz.prog 25 #[v] W fun e w' => e = .returned (.string ⟨(lineW T r n f).toArray⟩) ∧ W.grownBy w' none := by
  obtain ⟨a, rfl, hf, hb⟩ := hv
  have HG := Lib.hid (World.grownBy_alloc W (.cells #[.int .u8 r, .slice (some a) n n] 45) none)
  have HA := Lib.hid (fun w (g : W.grownBy w none) => LineAppendWKT_nil T hT r n a f hr hn w (hf.mono g) (Nat.lt_of_lt_of_le hb g.size) (ht.mono g (by simp) (by simp)))
  clear hf ht
  go_enter Tryz.func25, Tryz.ntmps25
  go_wp2_with (first
    | (go_at_call 57; refine (HA.out _ HG.out).mono ?_; rintro e w' ⟨v', rfl, H⟩; have hcv := own_str (P := Tryz.prog) (src := 33) (dst := 9) (et := 5) Tryz.underlying33 Tryz.underlying5 Tryz.underlying9 H.own))
  go_ret
  exact ⟨rfl, gt_trans HG.out H.grown (.inl rfl)⟩

set_option maxRecDepth 100000 in
set_option maxHeartbeats 1000000 in
theorem LineWKT_any (T : Nat → Int) (hT : ∀ i, U64 (T i)) (d : Int) (r : Nat) (hr : d % 4 = r) (p q : Option Addr) (n cap m c2 : Nat) (f : Nat → Nat) (hn : n ≤ 2000) (W : World) (hf : FVal W p n f) (ht : Tabs T W) :
    Calls Tryz.prog 10 #[.agg #[.int .i64 2, .int .i64 d, .slice p n cap, .slice q m c2]] W fun e w' => e = .returned (.string ⟨(lineW T r (n - n % widN r) f).toArray⟩) ∧ W.grownBy w' none := by
  have HG := Lib.hid (World.grownBy_alloc W (.cells #[.int .i64 2, .int .i64 d, .slice p n cap, .slice q m c2] 25) none)
  have HL := Lib.hid (fun w (g : W.grownBy w none) => line_any d r hr p q n cap m c2 f hn w (hf.mono g))
  have HM := Lib.hid (fun v w (g : W.grownBy w none) (h : SeqIs w v r (n - n % widN r) f) => LineAsText_any T hT r (n - n % widN r) v f (by omega) (by omega) w h (ht.mono g (by simp) (by simp)))
  generalize n - n % widN r = N at HL HM ⊢
  clear hr hf ht
  go_enter Tryz.func10, Tryz.ntmps10
  go_wp2_with (first
    | (go_at_call 24; refine (HL.out _ HG.out).mono ?_; rintro e w' ⟨v, rfl, hv, hg1⟩)
    | (go_at_call 25; refine (HM.out _ _ (gt_trans HG.out hg1 (.inl rfl)) hv).mono ?_; rintro e w'' ⟨rfl, hg2⟩))
  go_ret
  exact ⟨rfl, gt_trans (gt_trans HG.out hg1 (.inl rfl)) hg2 (.inl rfl)⟩

set_option maxRecDepth 100000 in
set_option maxHeartbeats 1000000 in
theorem zzFits2_any (W : World) (k d : Int) (p q : Option Addr) (n cap m c2 : Nat) :
    Calls Tryz.prog 8 #[.agg #[.int .i64 k, .int .i64 d, .slice p n cap, .slice q m c2]] W (YN W fun _ => True) := by
  go_enter Tryz.func8, Tryz.ntmps8
  go_wp2_with fail
  all_goals (go_ret; exact ⟨_, rfl, trivial, World.grownBy_alloc _ _ _⟩)
end Go.Proofs.YthcjnadceambgaaGreatDoor
namespace Go.Proofs.YthcjnadceambgaaGreatDoor
open Go.RowKit

set_option maxRecDepth 100000 in
set_option maxHeartbeats 1000000 in
theorem MPAsText_any (T : Nat → Int) (hT : ∀ i, U64 (T i)) (r : Nat) (v : Value) (ps : List Pt) (hn : ps.length ≤ 2000) (W : World) (hv : MPIs W v r ps) (ht : Tabs T W) :
    Calls Tryz.prog 34 #[v] W fun e w' => e = .returned (.string ⟨(mpW T r ps).toArray⟩) ∧ W.grownBy w' none := by
  obtain ⟨hr, hok, p, c, rfl, hp⟩ := hv
  obtain ⟨n, hpn⟩ : ∃ n, ps.length = n := ⟨_, rfl⟩
  rw [hpn] at hn ⊢
  have HG := Lib.hid (World.grownBy_alloc W (.cells #[.slice p n c, .int .u8 r] 53) none)
  have HA := Lib.hid (fun w (g : W.grownBy w none) => MPAppendWKT_nil T hT r n c hr p ps hpn w (hp.mono g) hok hn (ht.mono g (by simp) (by simp)))
  clear hp ht hok hpn
  go_enter Tryz.func34, Tryz.ntmps34
  go_wp2_with (first
    | (go_at_call 64; refine (HA.out _ HG.out).mono ?_; rintro e w' ⟨v', rfl, H⟩; have hcv := own_str (P := Tryz.prog) (src := 33) (dst := 9) (et := 5) Tryz.underlying33 Tryz.underlying5 Tryz.underlying9 H.own))
  go_ret
  exact ⟨rfl, gt_trans HG.out H.grown (.inl rfl)⟩

set_option maxRecDepth 100000 in
set_option maxHeartbeats 1000000 in
theorem MultiPointWKT_any (T : Nat → Int) (hT : ∀ i, U64 (T i)) (h : Nat) (B : Nat → Prop) (W : World) (d : Int) (r : Nat) (hr : d % 4 = r) (p q : Option Addr) (n cap m c2 : Nat) (f : Nat → Nat) (kids : List Raw) (hm : kids.length = m)
    (hk : KD B (h + 1) W (.agg #[.int .i64 4, .int .i64 d, .slice p n cap, .slice q m c2]) (.mk 4 d n f kids)) (hw : wt (.mk 4 d n f kids) ≤ 2000) (ht : Tabs T W) :
    Calls Tryz.prog 13 #[.agg #[.int .i64 4, .int .i64 d, .slice p n cap, .slice q m c2]] W fun e w' => e = .returned (.string ⟨(mpW T (mpR r (ptsOf kids)) ((ptsOf kids).map fun t => t.force (dimsP (ptsOf kids)))).toArray⟩) ∧ W.grownBy w' none := by
  have HG := Lib.hid (World.grownBy_alloc W (.cells #[.int .i64 4, .int .i64 d, .slice p n cap, .slice q m c2] 25) none)
  have hl : ((ptsOf kids).map fun t => t.force (dimsP (ptsOf kids))).length ≤ 2000 := by
    have h1 := ptsOf_len kids
    have h2 := wts_len kids
    rw [List.length_map]
    unfold wt at hw
    omega
  have HL := Lib.hid (fun w (g : W.grownBy w none) => multiPoint_any h B w d r hr p q n cap m c2 f kids hm (hk.mono g) hw)
  have HM := Lib.hid (fun v w (g : W.grownBy w none) (hv : MPIs w v (mpR r (ptsOf kids)) ((ptsOf kids).map fun t => t.force (dimsP (ptsOf kids)))) => MPAsText_any T hT _ v _ hl w hv (ht.mono g (by simp) (by simp)))
  generalize ((ptsOf kids).map fun t => t.force (dimsP (ptsOf kids))) = ps at HL HM ⊢
  generalize mpR r (ptsOf kids) = rr at HL HM ⊢
  clear hr hk hw ht hl hm
  go_enter Tryz.func13, Tryz.ntmps13
  go_wp2_with (first
    | (go_at_call 33; refine (HL.out _ HG.out).mono ?_; rintro e w' ⟨v, rfl, hv, hg1⟩; have Hv := Lib.hid hv; clear hv)
    | (go_at_call 34; refine (HM.out _ _ (gt_trans HG.out hg1 (.inl rfl)) Hv.out).mono ?_; rintro e w'' ⟨rfl, hg2⟩))
  go_ret
  exact ⟨rfl, gt_trans (gt_trans HG.out hg1 (.inl rfl)) hg2 (.inl rfl)⟩


theorem kindOf_new (t : Raw) : kindOf (newT t) = kindN (kindOf t) := by
  obtain ⟨k, d, n, f, kids⟩ := t
  unfold newT
  split
  · next h => exact h.symm
  · split
    · next h => exact h.symm
    · unfold nodeT
      split
      · rfl
      · rfl
theorem keep4 (t : Raw) : keepT 4 (newT t) = decide (kindOf t = 1) := by
  unfold keepT
  rw [kindOf_new]
  have e : kidOf 4 = 1 := by unfold kidOf; rw [if_pos rfl]
  rw [e]
  have e2 : decide ((1 : Int) < 0) = false := by decide
  rw [e2, Bool.false_or]
  apply decide_eq_decide.2
  unfold kindN
  split
  · omega
  · omega
theorem kept4 : ∀ kids : List Raw, (newTs kids).filter (keepT 4) = (kids.filter fun t => decide (kindOf t = 1)).map newT
  | [] => rfl
  | t :: ts => by
    have h := kept4 ts
    have hk := keep4 t
    unfold newTs
    by_cases hp : kindOf t = 1
    · rw [List.filter_cons_of_pos (by rw [hk]; simpa using hp), List.filter_cons_of_pos (by simpa using hp), h]; rfl
    · rw [List.filter_cons_of_neg (by rw [hk]; simpa using hp), List.filter_cons_of_neg (by simpa using hp), h]
theorem ptOf_r (r n : Nat) (f : Nat → Nat) : (ptOf r n f).r = r := by unfold ptOf; split <;> rfl
theorem new1 (d : Int) (n : Nat) (f : Nat → Nat) (kids : List Raw) : newT (.mk 1 d n f kids) = .mk 1 (d % 4) (min (n / widN (d % 4).toNat) 1 * widN (d % 4).toNat) f [] := by
  unfold newT
  rw [if_pos (by decide)]
theorem dims4 : ∀ ts : List Raw, (∀ t ∈ ts, kindOf t = 1) → dimsOf (ts.map newT) = dimsP (ts.map ptR)
  | [], _ => rfl
  | t :: ts, h => by
    have h1 := dims4 ts (fun s hs => h s (List.mem_cons_of_mem _ hs))
    have hk := h t List.mem_cons_self
    obtain ⟨k, d, n, f, kids⟩ := t
    have hk : k = 1 := hk
    subst hk
    show dimR (newT _) &&& dimsOf (ts.map newT) = (ptR _).r &&& dimsP (ts.map ptR)
    rw [h1, new1]
    show (d % 4).toNat &&& _ = (ptOf _ _ _).r &&& _
    rw [ptOf_r]
theorem fF_place (r D : Nat) (hr : r < 4) (hD : D < 4) (f : Nat → Nat) : plX D (fF r D f) 0 = plX r f 0 ∧ plY D (fF r D f) 0 = plY r f 0 ∧ plZ D (fF r D f) 0 = (if r % 2 = D % 2 then plZ r f 0 else 0) ∧ plM D (fF r D f) 0 = (if r / 2 = D / 2 then plM r f 0 else 0) := by
  rcases (by omega : r = 0 ∨ r = 1 ∨ r = 2 ∨ r = 3) with rfl | rfl | rfl | rfl <;> rcases (by omega : D = 0 ∨ D = 1 ∨ D = 2 ∨ D = 3) with rfl | rfl | rfl | rfl <;> simp [plX, plY, plZ, plM, fF, widN]
theorem joinC_one (x : List UInt8) : joinC [x] = x := by
  have h := joinC_snoc [] x
  rw [List.nil_append] at h
  rw [h]
  simp [joinC, cTo]
theorem body1 (T : Nat → Int) (t : Raw) (hk : kindOf t = 1) (D : Nat) (hD : D < 4) : bodyT T (forceT D (newT t)) = ptB T 40 ((ptR t).force D) := by
  obtain ⟨k, d, n, f, kids⟩ := t
  have hk : k = 1 := hk
  subst hk
  rw [new1]
  show _ = ptB T 40 ((ptOf (d % 4).toNat n f).force D)
  obtain ⟨r, hr, hr4⟩ : ∃ r : Nat, (d % 4).toNat = r ∧ r < 4 := ⟨_, rfl, by omega⟩
  rw [hr]
  unfold forceT bodyT
  rw [hr]
  have hw := widN_le r hr4
  have hwD := widN_le D hD
  have e0 : bodyTs T (decide ((1 : Int) = 0)) (forceTs D []) = [] := by unfold forceTs bodyTs; rfl
  rw [e0, List.append_nil, Nat.mul_div_cancel _ (by omega : 0 < widN r), Int.toNat_natCast, Nat.mul_div_cancel _ (by omega : 0 < widN D)]
  by_cases hL : n / widN r = 0
  · have e1 : ptOf r n f = ptE r := by unfold ptOf; rw [if_pos hL]
    have e2 : (ptE r).force D = ptE D := by unfold Pt.force; rw [if_neg (by simp [ptE])]
    rw [e1, e2, hL]
    have e3 : plTs T D (fF r D f) (min 0 1) = [] := by simp [plTs]
    rw [e3]
    unfold wrapP ptB
    rw [if_pos rfl, if_neg (by simp [ptE])]
    rfl
  · have e1 : ptOf r n f = ⟨plX r f 0, plY r f 0, plZ r f 0, plM r f 0, r, true⟩ := by unfold ptOf; rw [if_neg hL]
    have hmin : min (n / widN r) 1 = 1 := by have := Nat.one_le_iff_ne_zero.2 hL; omega
    rw [e1, hmin]
    obtain ⟨p1, p2, p3, p4⟩ := fF_place r D hr4 hD f
    have e3 : plTs T D (fF r D f) 1 = [wktPl T (plX r f 0) (plY r f 0) (if r % 2 = D % 2 then plZ r f 0 else 0) (if r / 2 = D / 2 then plM r f 0 else 0) D] := by
      rw [← p1, ← p2, ← p3, ← p4]
      simp [plTs]
    rw [e3]
    unfold wrapP Pt.force
    rw [if_neg (by simp), if_pos rfl, joinC_one]
    unfold ptB
    rw [if_pos rfl]
theorem bodies4 (T : Nat → Int) (D : Nat) (hD : D < 4) : ∀ ts : List Raw, (∀ t ∈ ts, kindOf t = 1) → bodyTs T false (forceTs D (ts.map newT)) = ((ts.map ptR).map fun t => t.force D).map (ptB T 40)
  | [], _ => by simp [forceTs, bodyTs]
  | t :: ts, h => by
    have h1 := bodies4 T D hD ts (fun s hs => h s (List.mem_cons_of_mem _ hs))
    have h2 := body1 T t (h t List.mem_cons_self) D hD
    simp only [List.map_cons, forceTs, bodyTs, cond_false]
    rw [h2, h1]
theorem mp_text (T : Nat → Int) (d : Int) (r n : Nat) (hr : d % 4 = r) (hr4 : r < 4) (f : Nat → Nat) (kids : List Raw) : mpW T (mpR r (ptsOf kids)) ((ptsOf kids).map fun t => t.force (dimsP (ptsOf kids))) = textT T (newT (.mk 4 d n f kids)) := by
  have hrt : (d % 4).toNat = r := by rw [hr]; rfl
  have e : newT (.mk 4 d n f kids) = nodeT 4 r f ((kids.filter fun t => decide (kindOf t = 1)).map newT) := by
    unfold newT
    rw [if_neg (by decide), if_neg (by decide), hrt]
    have : kindN 4 = 4 := by decide
    rw [this, kept4]
  rw [e]
  have hmem : ∀ t ∈ (kids.filter fun t => decide (kindOf t = 1)), kindOf t = 1 := fun t ht => by simpa using (List.mem_filter.1 ht).2
  unfold ptsOf
  generalize (kids.filter fun t => decide (kindOf t = 1)) = ks at hmem
  have hw := widN_le r hr4
  have hn4 : nameT 4 = nMP := by decide
  by_cases hks : ks = []
  · subst hks
    show mpW T r [] = textT T (nodeT 4 r f [])
    unfold nodeT
    rw [if_pos rfl]
    unfold textT mpW
    have e1 : plTs T (r : Int).toNat f (0 / widN (r : Int).toNat) = [] := by rw [Nat.zero_div]; simp [plTs]
    have e2 : bodyTs T (decide ((4 : Int) = 0)) [] = [] := by unfold bodyTs; rfl
    rw [e1, e2, List.append_nil, if_pos (show ([] : List Pt).length = 0 from rfl), Int.toNat_natCast, hn4]
    by_cases hr0 : r = 0
    · subst hr0; rfl
    · rw [if_neg hr0, if_neg hr0]
      have : wE 32 = EMPTY := by decide
      rw [this]
      rfl
  · have hne : ¬ ks.map newT = [] := by simpa using hks
    have hne2 : ¬ ks.map ptR = [] := by simpa using hks
    have hD4 := dimsP_lt (ks.map ptR)
    unfold nodeT mpR
    rw [if_neg hne, if_neg hne2, dims4 ks hmem]
    generalize dimsP (ks.map ptR) = D at hD4
    unfold forceT textT mpW
    have eb : decide ((4 : Int) = 0) = false := by decide
    rw [eb, bodies4 T D hD4 ks hmem]
    have e1 : plTs T (D : Int).toNat (fF (r : Int).toNat D f) (0 / widN (r : Int).toNat * widN D / widN (D : Int).toNat) = [] := by rw [Nat.zero_div, Nat.zero_mul, Nat.zero_div]; simp [plTs]
    rw [e1, List.nil_append, Int.toNat_natCast, hn4]
    have hl : ¬ (((ks.map ptR).map fun t => t.force D)).length = 0 := by simpa using hks
    have hl2 : ¬ ((ks.map ptR).map fun t => t.force D).map (ptB T 40) = [] := by simpa using hks
    rw [if_neg hl, if_neg hl2]
    unfold wrapP
    rw [if_neg hl2]
    by_cases hD0 : D = 0
    · subst hD0; rfl
    · rw [if_neg hD0]
end Go.Proofs.YthcjnadceambgaaGreatDoor
