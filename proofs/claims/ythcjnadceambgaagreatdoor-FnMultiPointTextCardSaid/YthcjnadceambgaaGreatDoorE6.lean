/- The reference's New of points and of line strings. -/
import Derived.Test.YthcjnadceambgaaGreatDoorE4
namespace Go.Proofs.YthcjnadceambgaaGreatDoor
open Go.RowKit

def fCells (f : Nat → Nat) (k : Nat) : List Value := (List.range k).map fun i => .float .f64 (f i)
set_option maxRecDepth 100000 in
set_option maxHeartbeats 1000000 in
theorem Leaf_any (k : Int) (b : Bool) (h : ((k = 1 ∨ k = 2) ∧ b = true) ∨ (¬ k = 1 ∧ ¬ k = 2 ∧ b = false)) (w : World) : Calls Tryz.prog 29 #[.int .i64 k] w fun e w' => e = .returned (.bool b) ∧ w' = w := by
  rcases h with ⟨rfl | rfl, rfl⟩ | ⟨h1, h2, rfl⟩
  · go_enter Tryz.func29, Tryz.ntmps29
    go_wp2_with fail
    go_ret
    exact ⟨rfl, rfl⟩
  · go_enter Tryz.func29, Tryz.ntmps29
    go_wp2_with fail
    go_ret
    exact ⟨rfl, rfl⟩
  · have e1 : (k == 1) = false := by simpa using h1
    have e2 : (k == 2) = false := by simpa using h2
    go_enter Tryz.func29, Tryz.ntmps29
    go_wp2_with fail
    go_ret
    exact ⟨rfl, rfl⟩

set_option maxRecDepth 100000 in
set_option maxHeartbeats 2000000 in
theorem NewLeaf_1 (h : Nat) (d : Int) (p q : Option Addr) (n cap m c2 : Nat) (f : Nat → Nat) (hn : n ≤ 2000) (hcap : n ≤ cap) (hnil : p = none → cap = 0) (W : World) (hf : FVal W p n f) :
    Calls Tryz.prog 12 #[.agg #[.int .i64 1, .int .i64 d, .slice p n cap, .slice q m c2]] W fun e w' => ∃ v', e = .returned v' ∧ KD (Fr W w') (h + 1) w' v' (.mk 1 (d % 4) (min (n / widN (d % 4).toNat) 1 * widN (d % 4).toNat) f []) ∧ W.grownBy w' none := by
  obtain ⟨r, hr⟩ : ∃ r : Nat, d % 4 = r := ⟨(d % 4).toNat, by omega⟩
  have hd3 : bits .and .i64 d 3 = (r : Int) := by rw [i64_and3, hr]
  have hrt : (d % 4).toNat = r := by rw [hr]; rfl
  rw [hrt, hr]
  have hk4 : 2 ≤ widN r ∧ widN r ≤ 4 := by unfold widN; omega
  have HSR : Hid (∀ N, N ≤ n → ∀ w', W.grownBy w' none → (Value.slice p N cap = .slice none 0 0 ∧ N = 0 ∨ ∃ ad c, Value.slice p N cap = .slice (some ad) N c ∧ ∀ j u, (fCells f N)[j]? = some u → w'.cell? (ad.add j) = some u)) := by
    intro N hN w' g
    cases p with
    | none =>
      have := hnil rfl
      subst this
      obtain rfl : N = 0 := by omega
      exact .inl ⟨rfl, rfl⟩
    | some a =>
      refine .inr ⟨a, cap, rfl, fun j u hj => ?_⟩
      by_cases hjN : j < N
      · simp [fCells, hjN] at hj
        subst hj
        exact g.cell (hf.at_ a rfl j (by omega)) (by simp)
      · simp [fCells, hjN] at hj
  have HWd := Lib.hid (fun w => Width_any r (by omega) w)
  have HLf := Lib.hid (fun w => Leaf_any 1 true (.inl ⟨by omega, rfl⟩) w)
  have HFl := Lib.hid hf.lt
  revert HWd
  generalize widN r = k at hk4 ⊢
  intro HWd
  obtain ⟨hk2, hk4⟩ := hk4
  obtain ⟨L0, hL0⟩ : ∃ L0, L0 = n / k := ⟨_, rfl⟩
  obtain ⟨L, hL⟩ : ∃ L, L = min (n / k) 1 := ⟨_, rfl⟩
  obtain ⟨N, hN⟩ : ∃ N, N = L * k := ⟨_, rfl⟩
  have hLL : L ≤ L0 := by rw [hL, hL0]; exact Nat.min_le_left _ _
  have hNn : N ≤ n := by
    rw [hN]
    refine Nat.le_trans (Nat.mul_le_mul_right k hLL) ?_
    rw [hL0]
    exact Nat.div_mul_le_self n k
  have hLn : L0 ≤ n := by rw [hL0]; exact Nat.div_le_self _ _
  have hdiv : IntKind.i64.wrap ((n : Int) / (k : Int)) = (L0 : Int) := by
    have e : (n : Int) / (k : Int) = (L0 : Int) := by rw [hL0]; push_cast; rfl
    rw [e, IntKind.wrap_i64]; omega
  have hmul : IntKind.i64.wrap ((L : Int) * (k : Int)) = (N : Int) := by
    have e : (L : Int) * (k : Int) = (N : Int) := by rw [hN]; push_cast; rfl
    rw [e, IntKind.wrap_i64]; omega
  have hmin : min (L0 : Int) 1 = (L : Int) := by rw [hL, ← hL0]; omega
  rw [← hL, ← hN]
  have hk0 : ¬ ((k : Int) = 0) := by omega
  have hNcap : N ≤ cap := by omega

  clear hr hL hN hf hcap hnil hrt hL0
  go_enter Tryz.func12, Tryz.ntmps12
  go_wp2_with (first
    | (go_at_call 29; refine (HLf.out _).mono ?_; rintro e w' ⟨rfl, hw⟩; obtain rfl := hw.symm))
  go_quiet ((go_at_call 30; exact Calls.quiet_of_same (HWd.out _)))
  go_wp2_with fail
  have hpre := Pre.of W ((W3 W (.int .i64 1) (.int .i64 d) (.slice p n cap) (.slice q m c2) 1 r 25).drewN nq).drew (.int .i64 1) (.int .i64 d) (.slice p n cap) (.slice q m c2) 1 r 25 (gt_drew_r (gt_drewN_r (gt_refl _ _) nq))
  refine wp_region_still_tail 10 (by kernel_rfl) (by kernel_rfl) ?_
  simp only [List.take_succ_cons, List.take_zero, List.drop_succ_cons, List.drop_zero]
  change wpStill _ _ ((W3 W (.int .i64 1) (.int .i64 d) (.slice p n cap) (.slice q m c2) 1 r 25).drewN nq).drew (fun a' => wpList _ _ _ _ a' ((W3 W (.int .i64 1) (.int .i64 d) (.slice p n cap) (.slice q m c2) 1 r 25).drewN nq).drew) _ _
  revert hpre
  generalize ((W3 W (.int .i64 1) (.int .i64 d) (.slice p n cap) (.slice q m c2) 1 r 25).drewN nq).drew = W4
  intro hpre
  have HPk : Hid (∀ w1, W4.grownBy w1 none → Pre W w1 (.int .i64 1) (.int .i64 d) (.slice p n cap) (.slice q m c2) 1 r) := fun w1 g => hpre.kept g
  have HG4 := hpre.g
  have a2 := hpre.a2
  have o1 := hpre.o1
  have o2 := hpre.o2
  have hbig := hpre.big
  clear hpre
  repeat still_step
  still_call (HWd.out _)
  repeat still_step
  refine wpStill_nil ?_
  go_wp2_with (at_builtin; refine app_src rfl _ _ _ rfl Tryz.underlying22 (.float .f64 0) 8 infoF rfl (by omega) (AppV.nil W4 60 1 W4.heap.size) rfl _ rfl N (fCells f N) (by simp [fCells]) (by simp [fCells, Value.oneCell']) (HSR.out N hNn _ HG4) (Nat.le_refl _) (by omega) (by omega) ?_; intro v5 w1 H1; simp only [Nat.zero_add, List.nil_append] at H1; obtain ⟨p5, c5, rfl⟩ := H1.slice; have hq := HPk.out _ H1.grown0; clear o1 o2 a2; obtain ⟨_, _, _, _, _, _, o0, o1, o2, o3, of_, r0, r1, r2, r3, rf⟩ := hq; have of2 := of_ 2; have rf0 := rf 0; have rf1 := rf 1; have rf2 := rf 2; have rf3 := rf 3; clear of_ rf)
  obtain ⟨p5', c5', e9, h1, h2, h3, hob⟩ := own_form H1.own
  obtain ⟨rfl, rfl⟩ : p5 = p5' ∧ c5 = c5' := by injection e9 with e9 e10 e11; exact ⟨e9, e11⟩
  have hlt := H1.own.lt
  have hst := (HPk.out _ H1.grown0).start h (H1.fval HFl.out (fun i hi => by simp [fCells, hi])) h1 h2 h3 (fun a ha => by have := hlt _ (hob a ha); omega)
  have hend := hst.end_
  clear hst hlt hob e9
  refine bodyPost_ret (by simp [results, Tryz.results12, go_sem, r0, r1, r2, r3]; try rfl) rfl ?_
  exact ⟨_, rfl, hend.1, hend.2⟩

set_option maxRecDepth 100000 in
set_option maxHeartbeats 2000000 in
theorem NewLeaf_2 (h : Nat) (d : Int) (p q : Option Addr) (n cap m c2 : Nat) (f : Nat → Nat) (hn : n ≤ 2000) (hcap : n ≤ cap) (hnil : p = none → cap = 0) (W : World) (hf : FVal W p n f) :
    Calls Tryz.prog 12 #[.agg #[.int .i64 2, .int .i64 d, .slice p n cap, .slice q m c2]] W fun e w' => ∃ v', e = .returned v' ∧ KD (Fr W w') (h + 1) w' v' (.mk 2 (d % 4) (n / widN (d % 4).toNat * widN (d % 4).toNat) f []) ∧ W.grownBy w' none := by
  obtain ⟨r, hr⟩ : ∃ r : Nat, d % 4 = r := ⟨(d % 4).toNat, by omega⟩
  have hd3 : bits .and .i64 d 3 = (r : Int) := by rw [i64_and3, hr]
  have hrt : (d % 4).toNat = r := by rw [hr]; rfl
  rw [hrt, hr]
  have hk4 : 2 ≤ widN r ∧ widN r ≤ 4 := by unfold widN; omega
  have HSR : Hid (∀ N, N ≤ n → ∀ w', W.grownBy w' none → (Value.slice p N cap = .slice none 0 0 ∧ N = 0 ∨ ∃ ad c, Value.slice p N cap = .slice (some ad) N c ∧ ∀ j u, (fCells f N)[j]? = some u → w'.cell? (ad.add j) = some u)) := by
    intro N hN w' g
    cases p with
    | none =>
      have := hnil rfl
      subst this
      obtain rfl : N = 0 := by omega
      exact .inl ⟨rfl, rfl⟩
    | some a =>
      refine .inr ⟨a, cap, rfl, fun j u hj => ?_⟩
      by_cases hjN : j < N
      · simp [fCells, hjN] at hj
        subst hj
        exact g.cell (hf.at_ a rfl j (by omega)) (by simp)
      · simp [fCells, hjN] at hj
  have HWd := Lib.hid (fun w => Width_any r (by omega) w)
  have HLf := Lib.hid (fun w => Leaf_any 2 true (.inl ⟨by omega, rfl⟩) w)
  have HFl := Lib.hid hf.lt
  revert HWd
  generalize widN r = k at hk4 ⊢
  intro HWd
  obtain ⟨hk2, hk4⟩ := hk4
  obtain ⟨L0, hL0⟩ : ∃ L0, L0 = n / k := ⟨_, rfl⟩
  obtain ⟨L, hL⟩ : ∃ L, L = n / k := ⟨_, rfl⟩
  obtain ⟨N, hN⟩ : ∃ N, N = L * k := ⟨_, rfl⟩
  have hLL : L ≤ L0 := by rw [hL, hL0]; exact Nat.le_refl _
  have hNn : N ≤ n := by
    rw [hN]
    refine Nat.le_trans (Nat.mul_le_mul_right k hLL) ?_
    rw [hL0]
    exact Nat.div_mul_le_self n k
  have hLn : L0 ≤ n := by rw [hL0]; exact Nat.div_le_self _ _
  have hdiv : IntKind.i64.wrap ((n : Int) / (k : Int)) = (L0 : Int) := by
    have e : (n : Int) / (k : Int) = (L0 : Int) := by rw [hL0]; push_cast; rfl
    rw [e, IntKind.wrap_i64]; omega
  have hmul : IntKind.i64.wrap ((L : Int) * (k : Int)) = (N : Int) := by
    have e : (L : Int) * (k : Int) = (N : Int) := by rw [hN]; push_cast; rfl
    rw [e, IntKind.wrap_i64]; omega
  rw [← hL, ← hN]
  have hk0 : ¬ ((k : Int) = 0) := by omega
  have hNcap : N ≤ cap := by omega
  obtain rfl : L = L0 := by rw [hL, hL0]
  clear hr hL hN hf hcap hnil hrt hL0
  go_enter Tryz.func12, Tryz.ntmps12
  go_wp2_with (first
    | (go_at_call 29; refine (HLf.out _).mono ?_; rintro e w' ⟨rfl, hw⟩; obtain rfl := hw.symm))
  go_quiet ((go_at_call 30; exact Calls.quiet_of_same (HWd.out _)))
  go_wp2_with fail
  have hpre := Pre.of W ((W3 W (.int .i64 2) (.int .i64 d) (.slice p n cap) (.slice q m c2) 2 r 25).drewN nq).drew (.int .i64 2) (.int .i64 d) (.slice p n cap) (.slice q m c2) 2 r 25 (gt_drew_r (gt_drewN_r (gt_refl _ _) nq))
  refine wp_region_still_tail 10 (by kernel_rfl) (by kernel_rfl) ?_
  simp only [List.take_succ_cons, List.take_zero, List.drop_succ_cons, List.drop_zero]
  change wpStill _ _ ((W3 W (.int .i64 2) (.int .i64 d) (.slice p n cap) (.slice q m c2) 2 r 25).drewN nq).drew (fun a' => wpList _ _ _ _ a' ((W3 W (.int .i64 2) (.int .i64 d) (.slice p n cap) (.slice q m c2) 2 r 25).drewN nq).drew) _ _
  revert hpre
  generalize ((W3 W (.int .i64 2) (.int .i64 d) (.slice p n cap) (.slice q m c2) 2 r 25).drewN nq).drew = W4
  intro hpre
  have HPk : Hid (∀ w1, W4.grownBy w1 none → Pre W w1 (.int .i64 2) (.int .i64 d) (.slice p n cap) (.slice q m c2) 2 r) := fun w1 g => hpre.kept g
  have HG4 := hpre.g
  have a2 := hpre.a2
  have o1 := hpre.o1
  have o2 := hpre.o2
  have hbig := hpre.big
  clear hpre
  repeat still_step
  still_call (HWd.out _)
  repeat still_step
  refine wpStill_nil ?_
  go_wp2_with (at_builtin; refine app_src rfl _ _ _ rfl Tryz.underlying22 (.float .f64 0) 8 infoF rfl (by omega) (AppV.nil W4 60 1 W4.heap.size) rfl _ rfl N (fCells f N) (by simp [fCells]) (by simp [fCells, Value.oneCell']) (HSR.out N hNn _ HG4) (Nat.le_refl _) (by omega) (by omega) ?_; intro v5 w1 H1; simp only [Nat.zero_add, List.nil_append] at H1; obtain ⟨p5, c5, rfl⟩ := H1.slice; have hq := HPk.out _ H1.grown0; clear o1 o2 a2; obtain ⟨_, _, _, _, _, _, o0, o1, o2, o3, of_, r0, r1, r2, r3, rf⟩ := hq; have of2 := of_ 2; have rf0 := rf 0; have rf1 := rf 1; have rf2 := rf 2; have rf3 := rf 3; clear of_ rf)
  obtain ⟨p5', c5', e9, h1, h2, h3, hob⟩ := own_form H1.own
  obtain ⟨rfl, rfl⟩ : p5 = p5' ∧ c5 = c5' := by injection e9 with e9 e10 e11; exact ⟨e9, e11⟩
  have hlt := H1.own.lt
  have hst := (HPk.out _ H1.grown0).start h (H1.fval HFl.out (fun i hi => by simp [fCells, hi])) h1 h2 h3 (fun a ha => by have := hlt _ (hob a ha); omega)
  have hend := hst.end_
  clear hst hlt hob e9
  refine bodyPost_ret (by simp [results, Tryz.results12, go_sem, r0, r1, r2, r3]; try rfl) rfl ?_
  exact ⟨_, rfl, hend.1, hend.2⟩
end Go.Proofs.YthcjnadceambgaaGreatDoor
