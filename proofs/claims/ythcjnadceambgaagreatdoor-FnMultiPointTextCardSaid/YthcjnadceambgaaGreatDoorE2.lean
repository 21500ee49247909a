/- The questions of size, with what they tell of the tree. -/
import Derived.Test.YthcjnadceambgaaGreatDoorE1
namespace Go.Proofs.YthcjnadceambgaaGreatDoor
open Go.RowKit

theorem ret_bool {a b : Bool} (h : a = b) : Ending.returned (.bool a) = .returned (.bool b) := by rw [h]
def WPostD (W : World) (t : Raw) (left : Int) (e : Ending) (w' : World) : Prop := ∃ r : Int, e = .returned (.int .i64 r) ∧ -1 ≤ r ∧ r ≤ 2000 ∧ (0 ≤ r → (wt t : Int) + r = left) ∧ ((wt t : Int) ≤ left → 0 ≤ r) ∧ W.grownBy w' none

set_option maxRecDepth 100000 in
set_option maxHeartbeats 1000000 in
theorem gWeightD {B : Nat → Prop} : ∀ (h : Nat) (W : World) (v : Value) (t : Raw) (left : Int), KD B h W v t → left ≤ 2000 → Calls Tryz.prog 37 #[v, .int .i64 left] W (WPostD W t left) := by
  intro h
  induction h with
  | zero => intro W v t left hk; exact hk.elim
  | succ h ih =>
    intro W v t left hk hleft
    obtain ⟨k, d, n, f, kids⟩ := t
    obtain ⟨p, cap, q, c2, rfl, hf, h1, h2, h3, hm1, hm2, hm3, hm4, _⟩ := hk
    have HM := Lib.hid hm4
    have HM3 := Lib.hid hm3
    have HT := Lib.hid (fun j t (hj : kids[j]? = some t) => wts_take_succ kids j t hj)
    have HWl : Hid (kids.length ≤ wts kids) := wts_len kids
    have HTk : Hid (∀ j, wts (kids.take j) ≤ wts kids) := fun j => by
      have := wts_append (kids.take j) (kids.drop j)
      rw [List.take_append_drop] at this
      omega
    have HE : Hid (wts (kids.take kids.length) = wts kids) := by rw [List.take_length]; rfl
    have HW : Hid ((wt (.mk k d n f kids) : Int) = 1 + n + wts kids) := by unfold wt; push_cast; rfl
    obtain ⟨m, hm⟩ : ∃ m, m = kids.length := ⟨_, rfl⟩
    have HG : Hid (∀ j, j < m → ∃ t, kids[j]? = some t) := fun j hj => ⟨kids[j]'(by omega), List.getElem?_eq_getElem (by omega)⟩
    rw [← hm] at HE HWl hm1 ⊢
    clear hm4 hm3 hm
    have hmax : maxLen = 9223372036854775807 := rfl
    by_cases hb : left < 1 ∨ left < n ∨ left < m
    · go_enter Tryz.func37, Tryz.ntmps37
      go_wp2_with fail
      all_goals first
        | (exfalso; omega)
        | (go_ret; exact ⟨-1, rfl, by omega, by omega, fun h => by omega, fun h => by rw [HW.out] at h; have := HWl.out; omega, World.grownBy_alloc _ _ _⟩)
    · obtain ⟨b1, b2, b3⟩ : 1 ≤ left ∧ (n : Int) ≤ left ∧ (m : Int) ≤ left := by omega
      clear hb
      go_enter Tryz.func37, Tryz.ntmps37
      go_wp2_with fail
      have H1 := World.grownBy_alloc W (.cells #[.int .i64 k, .int .i64 d, .slice p n cap, .slice q m c2] 25) none
      have HB : Hid (∀ W', (W.alloc (.cells #[.int .i64 k, .int .i64 d, .slice p n cap, .slice q m c2] 25)).grownBy W' none → W'.cell? ⟨W.heap.size, 3, none⟩ = some (.slice q m c2)) := fun W' g => g.cell (by simp) (by simp)
      go_loopw [1, 5] (fun l i wr => ∃ (r : Int) (j : Nat), l = .int .i64 r ∧ i = .int .i64 j ∧ j ≤ m ∧ -1 ≤ r ∧ r ≤ 2000 ∧ (0 ≤ r → 1 + (n : Int) + wts (kids.take j) + r = left) ∧ (1 + (n : Int) + wts kids ≤ left → 0 ≤ r) ∧ (W.alloc (.cells #[.int .i64 k, .int .i64 d, .slice p n cap, .slice q m c2] 25)).grownBy wr none) (fun _ i _ => m - (intOf i).toNat)
      case atStart => exact ⟨_, 0, rfl, rfl, by omega, by omega, by omega, fun _ => by simp [wts]; omega, fun _ => by omega, gt_refl _ _⟩
      case round =>
        obtain ⟨r, j, rfl, rfl, hj, hr1, hr2, hsum, hpos, hg⟩ := hrel
        rename World => wr
        have hbox := HB.out wr hg
        have HS := Lib.hid hsum
        have HP := Lib.hid hpos
        clear hsum hpos
        by_cases hjm : j < m
        · by_cases hr0 : 0 ≤ r
          · obtain ⟨t, ht⟩ := HG.out j hjm
            obtain ⟨a, rfl⟩ : ∃ a, q = some a := by
              cases q with
              | none => have := HM3.out rfl; omega
              | some a => exact ⟨a, rfl⟩
            obtain ⟨c0, c1, c2, c3, k0, k1, k2, k3, k4⟩ := HM.out a rfl j t ht
            have G := gt_trans H1 hg (.inl rfl)
            have q1 := G.cell k1 (by simp)
            have q2 := G.cell k2 (by simp)
            have q3 := G.cell k3 (by simp)
            have q4 := G.cell k4 (by simp)
            have IH := Lib.hid (ih wr _ t r (k0.mono G) hr2)
            have HTj := Lib.hid (HT.out j t ht)
            clear k0 k1 k2 k3 k4 ht
            go_wp2_with (go_at_call 37; refine IH.out.mono ?_; rintro e w' ⟨r', rfl, hr1', hr2', hs', hp', hg'⟩)
            exact ⟨⟨r', j + 1, rfl, by go_num, by omega, hr1', hr2', fun h0 => by rw [HTj.out]; have e1 := hs' h0; have e2 := HS.out hr0; push_cast; omega, fun h0 => hp' (by have e2 := HS.out hr0; have e3 := HTk.out (j + 1); rw [HTj.out] at e3; omega), gt_trans hg hg' (.inr (.inl rfl))⟩, by simp [intOf]; omega⟩
          · go_wp2_with fail
            go_wp2_with fail
            go_ret
            exact ⟨r, rfl, hr1, hr2, fun h => by omega, fun h => HP.out (by rw [HW.out] at h; exact h), gt_trans H1 hg (.inl rfl)⟩
        · obtain rfl : j = m := by omega
          go_wp2_with fail
          go_wp2_with fail
          go_ret
          exact ⟨r, rfl, hr1, hr2, fun h0 => by have e := HS.out h0; rw [HE.out] at e; rw [HW.out]; omega, fun h => HP.out (by rw [HW.out] at h; exact h), gt_trans H1 hg (.inl rfl)⟩

set_option maxRecDepth 100000 in
set_option maxHeartbeats 1000000 in
theorem gSmallD1 {B : Nat → Prop} (h : Nat) (W : World) (a : Addr) (c0 c1 c2 c3 : Value) (t : Raw) (hk : KD B h W (.agg #[c0, c1, c2, c3]) t) (k0 : W.cell? a = some c0)
    (k1 : W.cell? ⟨a.block, a.off + 1, none⟩ = some c1) (k2 : W.cell? ⟨a.block, a.off + 2, none⟩ = some c2) (k3 : W.cell? ⟨a.block, a.off + 3, none⟩ = some c3) :
    Calls Tryz.prog 15 #[.slice (some a) 1 1] W (fun e w' => e = .returned (.bool (decide (wt t ≤ 2000))) ∧ W.grownBy w' none) := by
  go_enter Tryz.func15, Tryz.ntmps15
  go_wp2_with fail
  go_loopw [3, 4] (fun l i wr => ∃ (r : Int) (j : Nat), l = .int .i64 r ∧ i = .int .i64 j ∧ j ≤ 1 ∧ -1 ≤ r ∧ r ≤ 2000 ∧ W.grownBy wr none ∧ (j = 0 → r = 2000) ∧ (j = 1 → (0 ≤ r ↔ wt t ≤ 2000))) (fun _ i _ => 1 - (intOf i).toNat)
  case atStart => exact ⟨2000, 0, rfl, rfl, by omega, by omega, by omega, gt_refl _ _, fun _ => rfl, fun h => by omega⟩
  case round =>
    obtain ⟨r, j, rfl, rfl, hj, hr1, hr2, hg, hn0, hn⟩ := hrel
    rename World => wr
    by_cases hj0 : j = 0
    · subst hj0
      have q0 := hg.cell k0 (by simp)
      have q1 := hg.cell k1 (by simp)
      have q2 := hg.cell k2 (by simp)
      have q3 := hg.cell k3 (by simp)
      have IH := Lib.hid (gWeightD h wr _ t r (hk.mono hg) hr2)
      clear k0 k1 k2 k3
      obtain rfl := hn0 rfl
      clear hn0
      go_wp2_with (go_at_call 37; refine IH.out.mono ?_; rintro e w' ⟨r', rfl, hr1', hr2', hn', hp', hg'⟩)
      exact ⟨⟨r', 1, rfl, by go_num, by omega, hr1', hr2', gt_trans hg hg' (.inl rfl), fun h => by omega, fun _ => ⟨fun h0 => by have := hn' h0; omega, fun h0 => hp' (by omega)⟩⟩, by simp [intOf]⟩
    · obtain rfl : j = 1 := by omega
      have hn1 := hn rfl
      have he : decide (wt t ≤ 2000) = decide (0 ≤ r) := by rw [decide_eq_decide]; exact hn1.symm
      have HE := Lib.hid he
      clear hn hn0 hn1 he
      go_wp2_with fail
      go_wp2_with fail
      go_ret
      exact ⟨ret_bool HE.out.symm, hg⟩

theorem nan_ex (b : Nat) : ∃ r : Bool, ∀ W, Calls Tryz.prog 38 #[.float .f64 b] W fun e w' => e = .returned (.bool r) ∧ W.grownBy w' none := by
  apply Exists.intro
  · intro W
    go_enter Tryz.func38, Tryz.ntmps38
    go_wp2_with fail
    go_ret
    exact ⟨rfl, gt_refl _ _⟩
theorem abs_ex (b : Nat) : ∃ b' : Nat, ∀ W, Calls Tryz.prog 68 #[.float .f64 b] W fun e w' => e = .returned (.float .f64 b') ∧ w' = W := by
  have hfb : ∀ w : World, (callFunc 124 #[.float .f64 b]).run Tryz.prog w = .ok (.value (.int .u64 b)) w := fun w => by kernel_rfl
  have hff : ∀ (w : World) (n : Int), (callFunc 123 #[.int .u64 n]).run Tryz.prog w = .ok (.value (.float .f64 n.toNat)) w := fun w n => by kernel_rfl
  apply Exists.intro
  · intro W
    go_enter Tryz.func68, Tryz.ntmps68
    go_wp2_with fail
    go_ret
    exact ⟨rfl, rfl⟩
set_option maxHeartbeats 1000000 in
theorem inf_ex (b : Nat) : ∃ r : Bool, ∀ W, Calls Tryz.prog 39 #[.float .f64 b, .int .i64 0] W fun e w' => e = .returned (.bool r) ∧ W.grownBy w' none := by
  obtain ⟨b', hb'⟩ := abs_ex b
  have HA := Lib.hid hb'
  clear hb'
  apply Exists.intro
  · intro W
    go_enter Tryz.func39, Tryz.ntmps39
    go_wp2_with (go_at_call 68; refine (HA.out _).mono ?_; rintro e w' ⟨rfl, rfl⟩)
    go_ret
    exact ⟨rfl, gt_refl _ _⟩
set_option maxRecDepth 100000 in
set_option maxHeartbeats 1000000 in
theorem fin_ex (b : Nat) : ∃ r : Bool, ∀ W, Calls Tryz.prog 17 #[.float .f64 b] W fun e w' => e = .returned (.bool r) ∧ W.grownBy w' none := by
  obtain ⟨b1, h1⟩ := nan_ex b
  obtain ⟨b2, h2⟩ := inf_ex b
  have H1 := Lib.hid h1
  have H2 := Lib.hid h2
  clear h1 h2
  refine ⟨!b1 && !b2, fun W => ?_⟩
  cases b1
  · go_enter Tryz.func17, Tryz.ntmps17
    go_wp2_with (first
      | (go_at_call 38; refine (H1.out _).mono ?_; rintro e w' ⟨rfl, hg1⟩)
      | (go_at_call 39; refine (H2.out _).mono ?_; rintro e w'' ⟨rfl, hg2⟩))
    go_ret
    exact ⟨by simp, gt_trans hg1 hg2 (.inl rfl)⟩
  · go_enter Tryz.func17, Tryz.ntmps17
    go_wp2_with (first
      | (go_at_call 38; refine (H1.out _).mono ?_; rintro e w' ⟨rfl, hg1⟩)
      | (go_at_call 39; refine (H2.out _).mono ?_; rintro e w'' ⟨rfl, hg2⟩))
    go_ret
    exact ⟨by simp, hg1⟩
/-- Whether a number is finite. -/
noncomputable def finB (b : Nat) : Bool := Classical.choose (fin_ex b)
theorem gFiniteD (b : Nat) (W : World) : Calls Tryz.prog 17 #[.float .f64 b] W fun e w' => e = .returned (.bool (finB b)) ∧ W.grownBy w' none := Classical.choose_spec (fin_ex b) W

mutual
noncomputable def allT : Raw → Bool
  | .mk _ _ n f kids => ((List.range n).all fun i => finB (f i)) && allTs kids
noncomputable def allTs : List Raw → Bool
  | [] => true
  | t :: ts => allT t && allTs ts
end
theorem allTs_take (kids : List Raw) (l : Nat) (t : Raw) (h : kids[l]? = some t) : allTs (kids.take (l + 1)) = (allTs (kids.take l) && allT t) := by
  have key : ∀ (a : List Raw) (t : Raw), allTs (a ++ [t]) = (allTs a && allT t) := by
    intro a t
    induction a with
    | nil => simp [allTs]
    | cons s a ih => simp only [List.cons_append, allTs, ih, Bool.and_assoc]
  obtain ⟨hlt, rfl⟩ := List.getElem?_eq_some_iff.1 h
  rw [List.take_succ_eq_append_getElem hlt, key]
theorem allTs_le (kids : List Raw) (l : Nat) (h : allTs (kids.take l) = false) : allTs kids = false := by
  have key : ∀ (a b : List Raw), allTs (a ++ b) = (allTs a && allTs b) := by
    intro a b
    induction a with
    | nil => simp [allTs]
    | cons s a ih => simp only [List.cons_append, allTs, ih, Bool.and_assoc]
  have := key (kids.take l) (kids.drop l)
  rw [List.take_append_drop, h] at this
  exact this

set_option maxRecDepth 100000 in
set_option maxHeartbeats 1000000 in
theorem gAllD : ∀ (h : Nat) (B : Nat → Prop) (W : World) (v : Value) (t : Raw), KD B h W v t → Calls Tryz.prog 16 #[v, .func (.func 17) #[] #[]] W fun e w' => e = .returned (.bool (allT t)) ∧ W.grownBy w' none := by
  intro h
  induction h with
  | zero => intro B W v t hk; exact hk.elim
  | succ h ih =>
    intro B W v t hk
    obtain ⟨k, d, n, f, kids⟩ := t
    obtain ⟨p, cap, q, c2, rfl, hf, h1, h2, h3, hm1, hm2, hm3, hm4, _⟩ := hk
    have HM := Lib.hid hm4
    have HM3 := Lib.hid hm3
    have HF := Lib.hid hf
    have hmax : maxLen = 9223372036854775807 := rfl
    have HAF : Hid (∀ j, j < n → finB (f j) = false → allT (.mk k d n f kids) = false) := fun j hj hb => by
      unfold allT
      have : ((List.range n).all fun i => finB (f i)) = false := by
        rw [List.all_eq_false]
        exact ⟨j, by simpa using hj, by simp [hb]⟩
      rw [this]; rfl
    have HAT : Hid ((∀ j, j < n → finB (f j) = true) → allT (.mk k d n f kids) = allTs kids) := fun hall => by
      unfold allT
      have : ((List.range n).all fun i => finB (f i)) = true := by
        rw [List.all_eq_true]
        intro i hi
        exact hall i (by simpa using hi)
      rw [this]; rfl
    have HTk := Lib.hid (fun l t (hl : kids[l]? = some t) => allTs_take kids l t hl)
    have HTl := Lib.hid (fun l (hl : allTs (kids.take l) = false) => allTs_le kids l hl)
    have HTE : Hid (allTs (kids.take kids.length) = allTs kids) := by rw [List.take_length]; exact rfl
    have HG : Hid (∀ j, j < kids.length → ∃ t, kids[j]? = some t) := fun j hj => ⟨kids[j]'(by omega), List.getElem?_eq_getElem (by omega)⟩
    generalize kids.length = m at HG HTE hm1 ⊢
    clear hm4 hm3 hf
    have H1 := World.grownBy_alloc W (.cells #[.int .i64 k, .int .i64 d, .slice p n cap, .slice q m c2] 25) none
    have HB : Hid (∀ W', (W.alloc (.cells #[.int .i64 k, .int .i64 d, .slice p n cap, .slice q m c2] 25)).grownBy W' none → W'.cell? ⟨W.heap.size, 3, none⟩ = some (.slice q m c2)) := fun W' g => g.cell (by simp) (by simp)
    go_enter Tryz.func16, Tryz.ntmps16
    go_wp2_with fail
    go_loopw [12] (fun i wr => ∃ (j : Nat), i = .int .i64 j ∧ j ≤ n ∧ (∀ i, i < j → finB (f i) = true) ∧ (W.alloc (.cells #[.int .i64 k, .int .i64 d, .slice p n cap, .slice q m c2] 25)).grownBy wr none) (fun i _ => n - (intOf i).toNat)
    case atStart => exact ⟨0, rfl, by omega, fun i hi => by omega, gt_refl _ _⟩
    case round =>
      obtain ⟨j, rfl, hj, hfin, hg⟩ := hrel
      rename World => wr
      have hbox := HB.out wr hg
      have HFin := Lib.hid hfin
      clear hfin
      by_cases hjn : j < n
      · obtain ⟨a, rfl⟩ := HF.out.some_ (by omega)
        have hb1 := HF.out.at_ a rfl j hjn
        have G := gt_trans H1 hg (.inl rfl)
        have q1 := G.cell hb1 (by simp)
        have IH := Lib.hid (gFiniteD (f j) wr)
        have HFj := Lib.hid (HAF.out j hjn)
        obtain ⟨fb, hfb⟩ : ∃ fb, fb = finB (f j) := ⟨_, rfl⟩
        rw [← hfb] at IH HFj
        have Hfb := Lib.hid hfb
        clear hb1 hfb
        cases fb
        · have HFj2 := Lib.hid (HFj.out rfl)
          go_wp2_with (go_at_call 17; refine IH.out.mono ?_; rintro e w' ⟨rfl, hg'⟩)
          go_ret
          exact ⟨ret_bool HFj2.out.symm, gt_trans G hg' (.inl rfl)⟩
        · go_wp2_with (go_at_call 17; refine IH.out.mono ?_; rintro e w' ⟨rfl, hg'⟩)
          exact ⟨⟨j + 1, by go_num, by omega, fun i hi => by
            by_cases he : i = j
            · subst he; exact Hfb.out.symm
            · exact HFin.out i (by omega), gt_trans hg hg' (.inl rfl)⟩, by simp [intOf]; omega⟩
      · obtain rfl : j = n := by omega
        go_wp2_with fail
        have H0 := gt_trans H1 hg (.inl rfl)
        have HA0 := Lib.hid (HAT.out HFin.out)
        clear hg
        go_loopw [24] (fun i w2 => ∃ (l : Nat), i = .int .i64 l ∧ l ≤ m ∧ allTs (kids.take l) = true ∧ W.grownBy w2 none) (fun i _ => m - (intOf i).toNat)
        case atStart => exact ⟨0, rfl, by omega, by simp [allTs], H0⟩
        case round =>
          obtain ⟨e, rfl, he, hall, hg⟩ := hrel
          rename World => w2
          have HAll := Lib.hid hall
          clear hall
          by_cases hem : e < m
          · obtain ⟨t, ht⟩ := HG.out e hem
            obtain ⟨a, rfl⟩ : ∃ a, q = some a := by
              cases q with
              | none => have := HM3.out rfl; omega
              | some a => exact ⟨a, rfl⟩
            obtain ⟨c0, c1, c2, c3, k0, k1, k2, k3, k4⟩ := HM.out a rfl e t ht
            obtain ⟨k', d', n', f', kids', p', cap', q', c', hte, rfl, rfl, rfl, rfl⟩ := k0.form4
            clear hte
            generalize kids'.length = m' at k0 k4
            have q1 := hg.cell k1 (by simp)
            have q2 := hg.cell k2 (by simp)
            have q3 := hg.cell k3 (by simp)
            have q4 := hg.cell k4 (by simp)
            have IH := Lib.hid (fun w (g : W.grownBy w none) => ih B w _ t (k0.mono g))
            have HTt := Lib.hid (HTk.out e t ht)
            have HG2 := Lib.hid hg
            obtain ⟨ab, hab⟩ : ∃ ab, ab = allT t := ⟨_, rfl⟩
            rw [← hab, HAll.out] at HTt
            rw [← hab] at IH
            clear k0 k1 k2 k3 k4 hg ht hab
            cases ab
            · have hf2 := HTl.out (e + 1) HTt.out
              have HA1 : Hid (allT (.mk k d j f kids) = false) := by rw [HA0.out]; exact hf2
              clear hf2
              go_wp2_with (go_at_call 16; refine (IH.out _ (gt_alloc_r HG2.out _)).mono ?_; rintro e w' ⟨rfl, hg'⟩)
              go_ret
              exact ⟨ret_bool HA1.out.symm, gt_trans (gt_alloc_r HG2.out _) hg' (.inl rfl)⟩
            · go_wp2_with (go_at_call 16; refine (IH.out _ (gt_alloc_r HG2.out _)).mono ?_; rintro e w' ⟨rfl, hg'⟩)
              exact ⟨⟨e + 1, by go_num, by omega, HTt.out, gt_trans (gt_alloc_r HG2.out _) hg' (.inl rfl)⟩, by simp [intOf]; omega⟩
          · obtain rfl : e = m := by omega
            have HA1 : Hid (allT (.mk k d j f kids) = true) := by rw [HA0.out, ← HTE.out]; exact HAll.out
            go_wp2_with fail
            go_wp2_with fail
            go_ret
            exact ⟨ret_bool HA1.out.symm, hg⟩

set_option maxRecDepth 100000 in
set_option maxHeartbeats 1000000 in
theorem kIsD {B : Nat → Prop} (h : Nat) (W : World) (k d : Int) (p q : Option Addr) (n cap m c2 : Nat) (t : Raw) (hk : KD B h W (.agg #[.int .i64 k, .int .i64 d, .slice p n cap, .slice q m c2]) t) (kind : Int) (b : Bool) (hb : b = (decide (k = kind) && (decide (wt t ≤ 2000) && allT t))) :
    Calls Tryz.prog 9 #[.agg #[.int .i64 k, .int .i64 d, .slice p n cap, .slice q m c2], .int .i64 kind] W fun e w' => e = .returned (.bool b) ∧ W.grownBy w' none := by
  have IS := Lib.hid (fun W' (g : W.grownBy W' none) (k0 : W'.cell? ⟨W.heap.size + 1, 0, none⟩ = some (.int .i64 k)) (k1 : W'.cell? ⟨W.heap.size + 1, 0 + 1, none⟩ = some (.int .i64 d)) (k2 : W'.cell? ⟨W.heap.size + 1, 0 + 2, none⟩ = some (.slice p n cap)) (k3 : W'.cell? ⟨W.heap.size + 1, 0 + 3, none⟩ = some (.slice q m c2)) =>
    gSmallD1 h W' ⟨W.heap.size + 1, 0, none⟩ _ _ _ _ t (hk.mono g) k0 k1 k2 k3)
  have IA := Lib.hid (fun W' (g : W.grownBy W' none) => gAllD h B W' _ t (hk.mono g))
  clear hk
  by_cases hkk : k = kind
  · subst hkk
    rw [decide_eq_true rfl, Bool.true_and] at hb
    generalize decide (wt t ≤ 2000) = s at IS hb
    generalize allT t = al at IA hb
    have HG := Lib.hid (gt_alloc_r (World.grownBy_alloc W (.cells #[.int .i64 k, .int .i64 d, .slice p n cap, .slice q m c2] 25) none) (.cells #[.int .i64 k, .int .i64 d, .slice p n cap, .slice q m c2] 25))
    have HB : Hid (∀ W', ((W.alloc (.cells #[.int .i64 k, .int .i64 d, .slice p n cap, .slice q m c2] 25)).alloc (.cells #[.int .i64 k, .int .i64 d, .slice p n cap, .slice q m c2] 25)).grownBy W' none → W'.cell? ⟨W.heap.size, 0, none⟩ = some (.int .i64 k) ∧ W'.cell? ⟨W.heap.size, 1, none⟩ = some (.int .i64 d) ∧ W'.cell? ⟨W.heap.size, 2, none⟩ = some (.slice p n cap) ∧ W'.cell? ⟨W.heap.size, 3, none⟩ = some (.slice q m c2)) :=
      fun W' g => ⟨g.cell (by simp) (by simp), g.cell (by simp) (by simp), g.cell (by simp) (by simp), g.cell (by simp) (by simp)⟩
    cases s
    · rw [Bool.false_and] at hb
      subst hb
      go_enter Tryz.func9, Tryz.ntmps9
      go_wp2_with (first
        | (go_at_call 15; refine (IS.out _ HG.out (by simp) (by simp) (by simp) (by simp)).mono ?_; rintro e w' ⟨rfl, hg1⟩; obtain ⟨x0, x1, x2, x3⟩ := HB.out _ hg1))
      go_ret
      exact ⟨rfl, gt_trans HG.out hg1 (.inl rfl)⟩
    · rw [Bool.true_and] at hb
      subst hb
      go_enter Tryz.func9, Tryz.ntmps9
      go_wp2_with (first
        | (go_at_call 15; refine (IS.out _ HG.out (by simp) (by simp) (by simp) (by simp)).mono ?_; rintro e w' ⟨rfl, hg1⟩; obtain ⟨x0, x1, x2, x3⟩ := HB.out _ hg1)
        | (go_at_call 16; refine (IA.out _ (gt_trans HG.out hg1 (.inl rfl))).mono ?_; rintro e w'' ⟨rfl, hg2⟩))
      go_ret
      exact ⟨rfl, gt_trans (gt_trans HG.out hg1 (.inl rfl)) hg2 (.inl rfl)⟩
  · have hB : (k == kind) = false := by simpa using hkk
    rw [decide_eq_false hkk, Bool.false_and] at hb
    subst hb
    go_enter Tryz.func9, Tryz.ntmps9
    go_wp2_with fail
    go_ret
    exact ⟨rfl, World.grownBy_alloc _ _ _⟩
end Go.Proofs.YthcjnadceambgaaGreatDoor
