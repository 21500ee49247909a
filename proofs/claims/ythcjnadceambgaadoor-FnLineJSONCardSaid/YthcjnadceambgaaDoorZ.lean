/- The reference's New of a line string. -/
import Derived.Test.YthcjnadceambgaaDoorY2
import Derived.Test.YthcjnadceambgaaDoorV2
import Derived.StillTailTactics
namespace Go.Proofs.YthcjnadceambgaaDoor
open Go.RowKit

theorem cell_new_at (X : World) (cs : Array Value) (e b j : Nat) (hb : b = X.heap.size) : (X.alloc (.cells cs e)).cell? ⟨b, j, none⟩ = cs[j]? := by
  subst hb
  exact World.cell?_alloc_new _ cs e j
theorem frozen_new_at (X : World) (cs : Array Value) (e b j : Nat) (hb : b = X.heap.size) : (X.alloc (.cells cs e)).frozen? ⟨b, j, none⟩ = false := by
  subst hb
  simp

theorem FVal.set' {w : World} {p : Option Addr} {q : Addr} {n : Nat} {f : Nat → Nat} (h : FVal w p n f) (hq : ∀ a, p = some a → a.block ≠ q.block) (x : Value) : FVal (w.setCell q x) p n f := by
  cases p with
  | none => exact ⟨h.some_, (fun b hb => by cases hb), h.lt⟩
  | some a => exact h.set (hq a rfl) x
def fCells (f : Nat → Nat) (k : Nat) : List Value := (List.range k).map fun i => .float .f64 (f i)
set_option maxRecDepth 100000 in
set_option maxHeartbeats 2000000 in
theorem New_2 (d : Int) (r : Nat) (hr : d % 4 = r) (p q : Option Addr) (n cap m c2 : Nat) (f : Nat → Nat) (hn : n ≤ 2000) (hcap : n ≤ cap) (hnil : p = none → cap = 0) (W : World) (hf : FVal W p n f) :
    Calls Tryd.prog 11 #[.agg #[.int .i64 2, .int .i64 d, .slice p n cap, .slice q m c2]] W fun e w' => ∃ p' c', e = .returned (.agg #[.int .i64 2, .int .i64 r, .slice p' (n - n % widN r) c', .slice none 0 0]) ∧ FVal w' p' (n - n % widN r) f ∧ W.grownBy w' none := by
  have hd3 : bits .and .i64 d 3 = (r : Int) := by rw [i64_and3, hr]
  have hk4 : 2 ≤ widN r ∧ widN r ≤ 4 := by unfold widN; omega
  have HSR : Hid (∀ N, N ≤ n → ∀ w', W.grownBy w' none → (Value.slice p N cap = .slice none 0 0 ∧ N = 0 ∨ ∃ ad c, Value.slice p N cap = .slice (some ad) N c ∧ ∀ j u, (fCells f N)[j]? = some u → w'.cell? (ad.add j) = some u)) := by
    intro N hN w' g
    cases p with
    | none =>
      have := hnil rfl
      subst this
      obtain rfl : N = 0 := by omega
      exact .inl ⟨rfl, rfl⟩
    | some a =>
      refine .inr ⟨a, cap, rfl, fun j u hj => ?_⟩
      by_cases hjN : j < N
      · simp [fCells, hjN] at hj
        subst hj
        exact g.cell (hf.at_ a rfl j (by omega)) (by simp)
      · simp [fCells, hjN] at hj
  have HWd := Lib.hid (fun w => Width_any r (by omega) w)
  have HLf := Lib.hid (fun w => Leaf_2 w)
  revert HWd
  generalize widN r = k at hk4 ⊢
  intro HWd
  obtain ⟨hk2, hk4⟩ := hk4
  obtain ⟨L, hL⟩ : ∃ L, L = n / k := ⟨_, rfl⟩
  obtain ⟨N, hN⟩ : ∃ N, N = n - n % k := ⟨_, rfl⟩
  have hLN : L * k = N := by
    have := Nat.mod_add_div n k
    rw [hL, hN, Nat.mul_comm]
    omega
  have hNn : N ≤ n := by omega
  have hLn : L ≤ n := by rw [hL]; exact Nat.div_le_self _ _
  have hdiv : IntKind.i64.wrap ((n : Int) / (k : Int)) = (L : Int) := by
    have e : (n : Int) / (k : Int) = (L : Int) := by rw [hL]; push_cast; rfl
    rw [e, IntKind.wrap_i64]; omega
  have hmul : IntKind.i64.wrap ((L : Int) * (k : Int)) = (N : Int) := by
    have e : (L : Int) * (k : Int) = (N : Int) := by rw [← hLN]; push_cast; rfl
    rw [e, IntKind.wrap_i64]; omega
  rw [← hN]
  have hk0 : ¬ ((k : Int) = 0) := by omega
  have hNcap : N ≤ cap := by omega
  clear hr hL hN hLN
  go_enter Tryd.func11, Tryd.ntmps11
  go_wp2_with (first
    | (go_at_call 23; refine (HLf.out _).mono ?_; rintro e w' ⟨rfl, hw⟩; obtain rfl := hw.symm))
  go_quiet ((go_at_call 24; exact Calls.quiet_of_same (HWd.out _)))
  go_wp2_with fail
  have HG3 := gt_alloc_r (gt_alloc_r (World.grownBy_alloc W (.cells #[.int .i64 2, .int .i64 d, .slice p n cap, .slice q m c2] 31) none) (.cells #[.int .i64 0, .int .i64 0, .slice none 0 0, .slice none 0 0] 31)) (.cells #[.int .i64 2, .int .i64 r, .slice none 0 0, .slice none 0 0] 31)
  have HG4 := gt_drewN_r HG3 nq
  have y2 : ((((W.alloc (.cells #[.int .i64 2, .int .i64 d, .slice p n cap, .slice q m c2] 31)).alloc (.cells #[.int .i64 0, .int .i64 0, .slice none 0 0, .slice none 0 0] 31)).alloc (.cells #[.int .i64 2, .int .i64 r, .slice none 0 0, .slice none 0 0] 31)).drewN nq).cell? ⟨W.heap.size, 2, none⟩ = some (.slice p n cap) := by
    have h := cell_new_at W #[.int .i64 2, .int .i64 d, .slice p n cap, .slice q m c2] 31 W.heap.size 2 rfl
    exact (gt_drewN_r (gt_alloc_r (World.grownBy_alloc _ (.cells #[.int .i64 0, .int .i64 0, .slice none 0 0, .slice none 0 0] 31) none) (.cells #[.int .i64 2, .int .i64 r, .slice none 0 0, .slice none 0 0] 31)) nq).cell h (by simp)
  have z : ∀ j, ((((W.alloc (.cells #[.int .i64 2, .int .i64 d, .slice p n cap, .slice q m c2] 31)).alloc (.cells #[.int .i64 0, .int .i64 0, .slice none 0 0, .slice none 0 0] 31)).alloc (.cells #[.int .i64 2, .int .i64 r, .slice none 0 0, .slice none 0 0] 31)).drewN nq).cell? ⟨W.heap.size + 1 + 1, j, none⟩ = #[Value.int .i64 2, .int .i64 r, .slice none 0 0, .slice none 0 0][j]? := fun j => cell_new_at _ _ _ _ j (by simp)
  have zf : ∀ j, ((((W.alloc (.cells #[.int .i64 2, .int .i64 d, .slice p n cap, .slice q m c2] 31)).alloc (.cells #[.int .i64 0, .int .i64 0, .slice none 0 0, .slice none 0 0] 31)).alloc (.cells #[.int .i64 2, .int .i64 r, .slice none 0 0, .slice none 0 0] 31)).drewN nq).frozen? ⟨W.heap.size + 1 + 1, j, none⟩ = false := fun j => frozen_new_at _ _ _ _ j (by simp)
  have zr : ∀ j, ∀ v, #[Value.int .i64 0, .int .i64 0, .slice none 0 0, .slice none 0 0][j]? = some v → ((((W.alloc (.cells #[.int .i64 2, .int .i64 d, .slice p n cap, .slice q m c2] 31)).alloc (.cells #[.int .i64 0, .int .i64 0, .slice none 0 0, .slice none 0 0] 31)).alloc (.cells #[.int .i64 2, .int .i64 r, .slice none 0 0, .slice none 0 0] 31)).drewN nq).cell? ⟨W.heap.size + 1, j, none⟩ = some v := fun j v hv =>
    (gt_drewN_r (World.grownBy_alloc _ (.cells #[.int .i64 2, .int .i64 r, .slice none 0 0, .slice none 0 0] 31) none) nq).cell ((cell_new_at (W.alloc (.cells #[.int .i64 2, .int .i64 d, .slice p n cap, .slice q m c2] 31)) #[.int .i64 0, .int .i64 0, .slice none 0 0, .slice none 0 0] 31 (W.heap.size + 1) j (by simp)).trans hv) (by simp)
  have zrf : ∀ j, ((((W.alloc (.cells #[.int .i64 2, .int .i64 d, .slice p n cap, .slice q m c2] 31)).alloc (.cells #[.int .i64 0, .int .i64 0, .slice none 0 0, .slice none 0 0] 31)).alloc (.cells #[.int .i64 2, .int .i64 r, .slice none 0 0, .slice none 0 0] 31)).drewN nq).frozen? ⟨W.heap.size + 1, j, none⟩ = false := fun j => by
    have h := frozen_new_at (W.alloc (.cells #[.int .i64 2, .int .i64 d, .slice p n cap, .slice q m c2] 31)) #[.int .i64 0, .int .i64 0, .slice none 0 0, .slice none 0 0] 31 (W.heap.size + 1) j (by simp)
    rw [World.frozen?_of_block ((gt_drewN_r (World.grownBy_alloc _ (.cells #[.int .i64 2, .int .i64 r, .slice none 0 0, .slice none 0 0] 31) none) nq).block (W.heap.size + 1) (by simp) (by simp))]
    exact h
  have hsz : W.heap.size + 1 + 1 < ((((W.alloc (.cells #[.int .i64 2, .int .i64 d, .slice p n cap, .slice q m c2] 31)).alloc (.cells #[.int .i64 0, .int .i64 0, .slice none 0 0, .slice none 0 0] 31)).alloc (.cells #[.int .i64 2, .int .i64 r, .slice none 0 0, .slice none 0 0] 31)).drewN nq).heap.size := by simp [World.drewN]
  clear HG3
  have ZR := Lib.hid zr
  have ZRF := Lib.hid zrf
  clear zr zrf
  revert HG4 y2 z zf hsz ZR ZRF
  generalize ((((W.alloc (.cells #[.int .i64 2, .int .i64 d, .slice p n cap, .slice q m c2] 31)).alloc (.cells #[.int .i64 0, .int .i64 0, .slice none 0 0, .slice none 0 0] 31)).alloc (.cells #[.int .i64 2, .int .i64 r, .slice none 0 0, .slice none 0 0] 31)).drewN nq) = W3
  intro HG4 y2 z zf hsz ZR ZRF
  have z0 := z 0
  have z1 := z 1
  have z2 := z 2
  have z3 := z 3
  have zf2 := zf 2
  have HZ := Lib.hid z
  simp only [List.getElem?_toArray, List.getElem?_cons_zero, List.getElem?_cons_succ] at z0 z1 z2 z3
  clear z zf
  have HG5 : W.grownBy W3.drew none := gt_drew_r HG4
  have v0 : W3.drew.cell? ⟨W.heap.size + 1 + 1, 0, none⟩ = some (.int .i64 2) := z0
  have v1 : W3.drew.cell? ⟨W.heap.size + 1 + 1, 1, none⟩ = some (.int .i64 r) := z1
  have v2 : W3.drew.cell? ⟨W.heap.size + 1 + 1, 2, none⟩ = some (.slice none 0 0) := z2
  have v3 : W3.drew.cell? ⟨W.heap.size + 1 + 1, 3, none⟩ = some (.slice none 0 0) := z3
  have vf : W3.drew.frozen? ⟨W.heap.size + 1 + 1, 2, none⟩ = false := zf2
  have vp : W3.drew.cell? ⟨W.heap.size, 2, none⟩ = some (.slice p n cap) := y2
  have vz : W.heap.size + 1 + 1 < W3.drew.heap.size := hsz
  have ZR5 : Hid (∀ w1, W3.drew.grownBy w1 none → ∀ j v, #[Value.int .i64 0, .int .i64 0, .slice none 0 0, .slice none 0 0][j]? = some v → w1.cell? ⟨W.heap.size + 1, j, none⟩ = some v) := fun w1 g j v hv => g.cell (show W3.drew.cell? _ = _ from ZR.out j v hv) (by simp)
  have ZF5 : Hid (∀ w1, W3.drew.grownBy w1 none → ∀ j, w1.frozen? ⟨W.heap.size + 1, j, none⟩ = false) := fun w1 g j => by
    rw [World.frozen?_of_block (g.block (W.heap.size + 1) (show _ < W3.heap.size by omega) (by simp))]
    exact ZRF.out j
  refine wp_region_still_tail 10 (by kernel_rfl) (by kernel_rfl) ?_
  simp only [List.take_succ_cons, List.take_zero, List.drop_succ_cons, List.drop_zero]
  change wpStill _ _ W3.drew (fun a' => wpList _ _ _ _ a' W3.drew) _ _
  revert HG5 v0 v1 v2 v3 vf vp vz ZR5 ZF5
  generalize W3.drew = W4
  intro HG5 v0 v1 v2 v3 vf vp vz ZR5 ZF5
  clear ZR ZRF HG4 y2 z0 z1 z2 z3 zf2 HZ hsz
  have HC : Hid (∀ w1, W4.grownBy w1 none → w1.cell? ⟨W.heap.size + 1 + 1, 0, none⟩ = some (.int .i64 2) ∧ w1.cell? ⟨W.heap.size + 1 + 1, 1, none⟩ = some (.int .i64 r) ∧ w1.cell? ⟨W.heap.size + 1 + 1, 2, none⟩ = some (.slice none 0 0) ∧ w1.cell? ⟨W.heap.size + 1 + 1, 3, none⟩ = some (.slice none 0 0) ∧ w1.frozen? ⟨W.heap.size + 1 + 1, 2, none⟩ = false) := fun w1 g =>
    ⟨g.cell v0 (by simp), g.cell v1 (by simp), g.cell v2 (by simp), g.cell v3 (by simp), by rw [World.frozen?_of_block (g.block _ vz (by simp))]; exact vf⟩
  repeat still_step
  still_call (HWd.out _)
  repeat still_step
  refine wpStill_nil ?_
  go_wp2_with (at_builtin; refine app_src rfl _ _ _ rfl Tryd.underlying28 (.float .f64 0) 8 infoF rfl (by omega) (AppV.nil W4 22 1 W4.heap.size) rfl _ rfl N (fCells f N) (by simp [fCells]) (by simp [fCells, Value.oneCell']) (HSR.out N hNn _ HG5) (Nat.le_refl _) (by omega) (by omega) ?_; intro v5 w1 H1; simp only [Nat.zero_add, List.nil_append] at H1; obtain ⟨p5, c5, rfl⟩ := H1.slice; obtain ⟨c0, c1, c2, c3, cf⟩ := HC.out _ H1.grown0; have r0 := ZR5.out _ H1.grown0 0 (.int .i64 0) rfl; have r1 := ZR5.out _ H1.grown0 1 (.int .i64 0) rfl; have r2 := ZR5.out _ H1.grown0 2 (.slice none 0 0) rfl; have r3 := ZR5.out _ H1.grown0 3 (.slice none 0 0) rfl; have rf0 := ZF5.out _ H1.grown0 0; have rf1 := ZF5.out _ H1.grown0 1; have rf2 := ZF5.out _ H1.grown0 2; have rf3 := ZF5.out _ H1.grown0 3; clear v0 v1 v2 v3 vf vp)
  have hv : FVal w1 p5 N f := H1.fval hf.lt (fun i hi => by simp [fCells, hi])
  have hgr := gt_trans HG5 H1.grown0 (.inl rfl)
  have hgr2 := gt_set_r (gt_set_r (gt_set_r (gt_set_r (gt_set_r hgr ⟨W.heap.size + 1 + 1, 2, none⟩ (.slice p5 N c5) (by show _ ≤ W.heap.size + 1 + 1; omega)) ⟨W.heap.size + 1, 0, none⟩ (.int .i64 2) (by simp)) ⟨W.heap.size + 1, 1, none⟩ (.int .i64 r) (by simp)) ⟨W.heap.size + 1, 2, none⟩ (.slice p5 N c5) (by simp)) ⟨W.heap.size + 1, 3, none⟩ (.slice none 0 0) (by simp)
  have hv2 : ∀ a, p5 = some a → W4.heap.size ≤ a.block := fun a ha => by
    have h := H1.at_
    rw [ha] at h
    rcases h with h | ⟨b, h1, h2⟩
    · simp [Value.ownBlock] at h
    · simp [Value.ownBlock] at h1
      omega
  refine bodyPost_ret (by simp [results, Tryd.results11, go_sem, r0, r1, r2, r3]; try rfl) rfl ?_
  refine ⟨p5, c5, rfl, ?_, hgr2⟩
  exact ((((hv.set' (q := ⟨W.heap.size + 1 + 1, 2, none⟩) (fun a ha => by have := hv2 a ha; show a.block ≠ W.heap.size + 1 + 1; omega) _).set' (q := ⟨W.heap.size + 1, 0, none⟩) (fun a ha => by have := hv2 a ha; show a.block ≠ W.heap.size + 1; omega) _).set' (q := ⟨W.heap.size + 1, 1, none⟩) (fun a ha => by have := hv2 a ha; show a.block ≠ W.heap.size + 1; omega) _).set' (q := ⟨W.heap.size + 1, 2, none⟩) (fun a ha => by have := hv2 a ha; show a.block ≠ W.heap.size + 1; omega) _).set' (q := ⟨W.heap.size + 1, 3, none⟩) (fun a ha => by have := hv2 a ha; show a.block ≠ W.heap.size + 1; omega) _
end Go.Proofs.YthcjnadceambgaaDoor
