/- The reference's places of a row of numbers. -/
import Derived.Test.YthcjnadceambgaaGreatDoorW2
import Derived.Test.YthcjnadceambgaaGreatDoorN
namespace Go.Proofs.YthcjnadceambgaaGreatDoor
open Go.RowKit

def pCells (r : Nat) (f : Nat → Nat) : Nat → List Value
  | 0 => []
  | k + 1 => pCells r f k ++ [.float .f64 (plX r f k), .float .f64 (plY r f k), .float .f64 (plZ r f k), .float .f64 (plM r f k)]
theorem pCells_len (r : Nat) (f : Nat → Nat) : ∀ k, (pCells r f k).length = k * 4
  | 0 => rfl
  | k + 1 => by simp only [pCells, List.length_append, List.length_cons, List.length_nil, pCells_len r f k]; omega
theorem pCells_at (r : Nat) (f : Nat → Nat) : ∀ n k, k < n → ∀ j, j < 4 → (pCells r f n)[k * 4 + j]? = [Value.float .f64 (plX r f k), .float .f64 (plY r f k), .float .f64 (plZ r f k), .float .f64 (plM r f k)][j]?
  | 0, k, h, _, _ => by omega
  | n + 1, k, h, j, hj => by
    have hl := pCells_len r f n
    by_cases hk : k = n
    · subst hk
      rw [pCells, List.getElem?_append_right (by omega)]
      congr 1
      omega
    · rw [pCells, List.getElem?_append_left (by omega)]
      exact pCells_at r f n k (by omega) j hj
section
variable {e size base : Nat} {w0 W : World} {v0 v : Value} {n : Nat} {xs : List Value}
variable {P : Program} {ops : Array Oper} {rest : List Oper} {o : Oper} {a : Act} {Q : Exit → Act → World → Prop}
/-- The same behind a draw. -/
theorem app_cells_d (hgd : o.guard = none) (s x : Operand) (t : TypeId) (ho : o.op = .call { callee := .builtin .append, args := #[s, x], argTypes := #[t, t] })
    (ht : P.underlying t = some (.slice e)) (z : Value) (bytes : Nat) (hinfo : (P.info? e).map (fun i => (i.zero, i.size, i.bytes)) = some (some z, size, bytes)) (hzs : z.cells.size = size) (hsz : 0 < size)
    (H : AppV e size base w0 v0 W v n xs) (hs : a.eval s = v) {k m c : Nat} (hx : a.eval x = .slice (some ⟨k, 0, none⟩) m c) (hk : k = W.heap.size) (cs : Array Value) (hcl : cs.size = m * size) (h1 : ∀ u ∈ cs.toList, u.oneCell' = true)
    (hbase : base ≤ w0.heap.size) (hl : (n + m) * bytes ≤ 140737488355328) (hl2 : n + m ≤ 140737488355328)
    (h : ∀ v1 w1, AppV e size base w0 v0 w1 v1 (n + m) (xs ++ cs.toList) → wpList P ops Q rest (a.put o.dst v1) w1) :
    wpList P ops Q (o :: rest) a (W.alloc (.cells cs e)).drew :=
  app_cells (W := W.drew) hgd s x t ho ht z bytes hinfo hzs hsz (H.beside (gt_drew_r (gt_refl _ _))) hs hx hk cs hcl h1 hbase hl hl2 h
end
theorem infoP : (Tryz.prog.info? 92).map (fun i => (i.zero, i.size, i.bytes)) = some (some (.agg #[.float .f64 0, .float .f64 0, .float .f64 0, .float .f64 0]), 4, 32) := by kernel_rfl

set_option maxRecDepth 100000 in
set_option maxHeartbeats 2000000 in
theorem Places_0 (p : Option Addr) (n cap : Nat) (f : Nat → Nat) (hn : n ≤ 100000) (W : World) (hf : FVal W p n f) :
    Calls Tryz.prog 58 #[.slice p n cap, .int .i64 0] W fun e w' => ∃ v, e = .returned v ∧ AppV 92 4 W.heap.size W (.slice none 0 0) w' v (n / 2) (pCells 0 f (n / 2)) := by
  have hsf := run_store_flt Tryz.prog
  have HF := Lib.hid hf
  have HN : Hid (∀ k, pCells 0 f (k + 1) = pCells 0 f k ++ [.float .f64 (f (k * 2)), .float .f64 (f (k * 2 + 1)), .float .f64 0, .float .f64 0]) := fun k => rfl
  have HWd := Lib.hid (fun w => Width_lit 0 2 (by omega) w)
  have bt1 : bits .and .i64 0 1 = 0 := by kernel_rfl
  have bt2 : bits .and .i64 0 2 = 0 := by kernel_rfl
  clear hf
  go_enter Tryz.func58, Tryz.ntmps58
  go_wp2_with (first | (go_at_call 30; refine (HWd.out _).mono ?_; rintro e w' ⟨rfl, hw⟩; obtain rfl := hw.symm))
  go_loopw [5, 7] (fun x i wr => ∃ k : Nat, k ≤ n / 2 ∧ i = .int .i64 ((k * 2 : Nat) : Int) ∧ AppV 92 4 W.heap.size W (.slice none 0 0) wr x k (pCells 0 f k)) (fun _ i _ => n - (intOf i).toNat)
  case atStart => exact ⟨0, by omega, rfl, AppV.nil _ _ _ _⟩
  case round =>
    obtain ⟨k, hk, rfl, H0⟩ := hrel
    rename World => wr
    have HN1 := Lib.hid (HN.out k)
    obtain ⟨j0, e0⟩ : ∃ j0, j0 = k * 2 := ⟨_, rfl⟩
    rw [← e0] at HN1 ⊢
    obtain ⟨jw, ew⟩ : ∃ jw : Nat, jw = j0 + 2 := ⟨_, rfl⟩
    have hww : IntKind.i64.wrap ((j0 : Int) + 2) = (jw : Int) := by rw [IntKind.wrap_i64]; omega
    by_cases hkn : k < n / 2
    · have hjn : (jw : Int) ≤ (n : Int) := by omega
      obtain ⟨a, rfl⟩ := HF.out.some_ (by omega)
      obtain ⟨j1, e1⟩ : ∃ j1, j1 = j0 + 1 := ⟨_, rfl⟩
      rw [← e1] at HN1
      have q0 := (HF.out.mono H0.grown0).at_ a rfl j0 (by omega)
      have q1 := (HF.out.mono H0.grown0).at_ a rfl j1 (by omega)
      have hw1 : IntKind.i64.wrap ((j0 : Int) + 1) = (j1 : Int) := by rw [IntKind.wrap_i64]; omega
      have b00 : (0 : Int) ≤ (j0 : Int) := by omega
      have b01 : (j0 : Int) < (n : Int) := by omega
      have b10 : (0 : Int) ≤ (j1 : Int) := by omega
      have b11 : (j1 : Int) < (n : Int) := by omega
      have HK : Hid (jw = (k + 1) * 2 ∧ k + 1 ≤ n / 2 ∧ j0 < jw ∧ jw ≤ n) := ⟨by omega, by omega, by omega, by omega⟩
      clear e0 e1 ew
      have HB : Hid (∀ W', wr.grownBy W' none → AppV 92 4 W.heap.size W (.slice none 0 0) W' u5 k (pCells 0 f k)) := fun W' g => H0.beside g
      have HS : Hid (∀ w', wr.grownBy w' none → w'.cell? (a.add j0) = some (.float .f64 (f j0)) ∧ w'.cell? (a.add j1) = some (.float .f64 (f j1))) := fun w' g => ⟨g.cell q0 (by simp), g.cell q1 (by simp)⟩
      clear H0
      go_wp2_with fail
      go_region_held3 (fun w' => w'.cell? (a.add j0) = some (.float .f64 (f j0)) ∧ w'.cell? (a.add j1) = some (.float .f64 (f j1))) (first | exact HS.out _ (gt_below (by go_grown) none))
        (first | (fail))
      rename_i hHeld
      obtain ⟨p0, p1⟩ := hHeld
      clear q0 q1
      go_wp2_with (first
        | (at_builtin; refine app_cells_d rfl _ _ _ rfl Tryz.underlying89 (.agg #[.float .f64 0, .float .f64 0, .float .f64 0, .float .f64 0]) 32 infoP rfl (by omega) (HB.out _ (gt_below (by go_grown) none)) rfl rfl (by first | rfl | simp) _ (by first | rfl | simp) (by simp [Value.oneCell']) (Nat.le_refl _) (by omega) (by omega) ?_; intro v1 w1 H1))
      have H2 : AppV 92 4 W.heap.size W (.slice none 0 0) w1 v1 (k + 1) (pCells 0 f (k + 1)) := by rw [HN1.out]; exact H1
      obtain ⟨k1, k2, k3, k4⟩ := HK.out
      refine ⟨⟨k + 1, k2, by rw [← k1], H2⟩, by simp [intOf]; omega⟩
    · have hjn : ¬ (jw : Int) ≤ (n : Int) := by omega
      obtain rfl : k = n / 2 := by omega
      go_wp2_with fail
      go_wp2_with fail
      go_ret
      exact ⟨_, rfl, H0⟩

set_option maxRecDepth 100000 in
set_option maxHeartbeats 2000000 in
theorem Places_1 (p : Option Addr) (n cap : Nat) (f : Nat → Nat) (hn : n ≤ 100000) (W : World) (hf : FVal W p n f) :
    Calls Tryz.prog 58 #[.slice p n cap, .int .i64 1] W fun e w' => ∃ v, e = .returned v ∧ AppV 92 4 W.heap.size W (.slice none 0 0) w' v (n / 3) (pCells 1 f (n / 3)) := by
  have hsf := run_store_flt Tryz.prog
  have HF := Lib.hid hf
  have HN : Hid (∀ k, pCells 1 f (k + 1) = pCells 1 f k ++ [.float .f64 (f (k * 3)), .float .f64 (f (k * 3 + 1)), .float .f64 (f (k * 3 + 2)), .float .f64 0]) := fun k => rfl
  have HWd := Lib.hid (fun w => Width_lit 1 3 (by omega) w)
  have bt1 : bits .and .i64 1 1 = 1 := by kernel_rfl
  have bt2 : bits .and .i64 1 2 = 0 := by kernel_rfl
  clear hf
  go_enter Tryz.func58, Tryz.ntmps58
  go_wp2_with (first | (go_at_call 30; refine (HWd.out _).mono ?_; rintro e w' ⟨rfl, hw⟩; obtain rfl := hw.symm))
  go_loopw [5, 7] (fun x i wr => ∃ k : Nat, k ≤ n / 3 ∧ i = .int .i64 ((k * 3 : Nat) : Int) ∧ AppV 92 4 W.heap.size W (.slice none 0 0) wr x k (pCells 1 f k)) (fun _ i _ => n - (intOf i).toNat)
  case atStart => exact ⟨0, by omega, rfl, AppV.nil _ _ _ _⟩
  case round =>
    obtain ⟨k, hk, rfl, H0⟩ := hrel
    rename World => wr
    have HN1 := Lib.hid (HN.out k)
    obtain ⟨j0, e0⟩ : ∃ j0, j0 = k * 3 := ⟨_, rfl⟩
    rw [← e0] at HN1 ⊢
    obtain ⟨jw, ew⟩ : ∃ jw : Nat, jw = j0 + 3 := ⟨_, rfl⟩
    have hww : IntKind.i64.wrap ((j0 : Int) + 3) = (jw : Int) := by rw [IntKind.wrap_i64]; omega
    by_cases hkn : k < n / 3
    · have hjn : (jw : Int) ≤ (n : Int) := by omega
      obtain ⟨a, rfl⟩ := HF.out.some_ (by omega)
      obtain ⟨j1, e1⟩ : ∃ j1, j1 = j0 + 1 := ⟨_, rfl⟩
      obtain ⟨j2, e2⟩ : ∃ j2, j2 = j0 + 2 := ⟨_, rfl⟩
      rw [← e1, ← e2] at HN1
      have q0 := (HF.out.mono H0.grown0).at_ a rfl j0 (by omega)
      have q1 := (HF.out.mono H0.grown0).at_ a rfl j1 (by omega)
      have q2 := (HF.out.mono H0.grown0).at_ a rfl j2 (by omega)
      have hw1 : IntKind.i64.wrap ((j0 : Int) + 1) = (j1 : Int) := by rw [IntKind.wrap_i64]; omega
      have hw2 : IntKind.i64.wrap ((j0 : Int) + 2) = (j2 : Int) := by rw [IntKind.wrap_i64]; omega
      have b00 : (0 : Int) ≤ (j0 : Int) := by omega
      have b01 : (j0 : Int) < (n : Int) := by omega
      have b10 : (0 : Int) ≤ (j1 : Int) := by omega
      have b11 : (j1 : Int) < (n : Int) := by omega
      have b20 : (0 : Int) ≤ (j2 : Int) := by omega
      have b21 : (j2 : Int) < (n : Int) := by omega
      have HK : Hid (jw = (k + 1) * 3 ∧ k + 1 ≤ n / 3 ∧ j0 < jw ∧ jw ≤ n) := ⟨by omega, by omega, by omega, by omega⟩
      clear e0 e1 e2 ew
      have HB : Hid (∀ W', wr.grownBy W' none → AppV 92 4 W.heap.size W (.slice none 0 0) W' u5 k (pCells 1 f k)) := fun W' g => H0.beside g
      have HS : Hid (∀ w', wr.grownBy w' none → w'.cell? (a.add j0) = some (.float .f64 (f j0)) ∧ w'.cell? (a.add j1) = some (.float .f64 (f j1)) ∧ w'.cell? (a.add j2) = some (.float .f64 (f j2))) := fun w' g => ⟨g.cell q0 (by simp), g.cell q1 (by simp), g.cell q2 (by simp)⟩
      clear H0
      go_wp2_with fail
      go_region_held3 (fun w' => w'.cell? (a.add j0) = some (.float .f64 (f j0)) ∧ w'.cell? (a.add j1) = some (.float .f64 (f j1)) ∧ w'.cell? (a.add j2) = some (.float .f64 (f j2))) (first | exact HS.out _ (gt_below (by go_grown) none))
        (first | (fail))
      rename_i hHeld
      obtain ⟨p0, p1, p2⟩ := hHeld
      clear q0 q1 q2
      have pa2 : ∀ O : Obj, ((wr.alloc O).drew).cell? (a.add j2) = some (.float .f64 (f j2)) := fun O => (HS.out _ (gt_below (by go_grown) none)).2.2
      go_wp2_with (first
        | (at_builtin; refine app_cells_d rfl _ _ _ rfl Tryz.underlying89 (.agg #[.float .f64 0, .float .f64 0, .float .f64 0, .float .f64 0]) 32 infoP rfl (by omega) (HB.out _ (gt_below (by go_grown) none)) rfl rfl (by first | rfl | simp) _ (by first | rfl | simp) (by simp [Value.oneCell']) (Nat.le_refl _) (by omega) (by omega) ?_; intro v1 w1 H1))
      have H2 : AppV 92 4 W.heap.size W (.slice none 0 0) w1 v1 (k + 1) (pCells 1 f (k + 1)) := by rw [HN1.out]; exact H1
      obtain ⟨k1, k2, k3, k4⟩ := HK.out
      refine ⟨⟨k + 1, k2, by rw [← k1], H2⟩, by simp [intOf]; omega⟩
    · have hjn : ¬ (jw : Int) ≤ (n : Int) := by omega
      obtain rfl : k = n / 3 := by omega
      go_wp2_with fail
      go_wp2_with fail
      go_ret
      exact ⟨_, rfl, H0⟩

set_option maxRecDepth 100000 in
set_option maxHeartbeats 2000000 in
theorem Places_2 (p : Option Addr) (n cap : Nat) (f : Nat → Nat) (hn : n ≤ 100000) (W : World) (hf : FVal W p n f) :
    Calls Tryz.prog 58 #[.slice p n cap, .int .i64 2] W fun e w' => ∃ v, e = .returned v ∧ AppV 92 4 W.heap.size W (.slice none 0 0) w' v (n / 3) (pCells 2 f (n / 3)) := by
  have hsf := run_store_flt Tryz.prog
  have HF := Lib.hid hf
  have HN : Hid (∀ k, pCells 2 f (k + 1) = pCells 2 f k ++ [.float .f64 (f (k * 3)), .float .f64 (f (k * 3 + 1)), .float .f64 0, .float .f64 (f (k * 3 + 2))]) := fun k => rfl
  have HWd := Lib.hid (fun w => Width_lit 2 3 (by omega) w)
  have bt1 : bits .and .i64 2 1 = 0 := by kernel_rfl
  have bt2 : bits .and .i64 2 2 = 2 := by kernel_rfl
  clear hf
  go_enter Tryz.func58, Tryz.ntmps58
  go_wp2_with (first | (go_at_call 30; refine (HWd.out _).mono ?_; rintro e w' ⟨rfl, hw⟩; obtain rfl := hw.symm))
  go_loopw [5, 7] (fun x i wr => ∃ k : Nat, k ≤ n / 3 ∧ i = .int .i64 ((k * 3 : Nat) : Int) ∧ AppV 92 4 W.heap.size W (.slice none 0 0) wr x k (pCells 2 f k)) (fun _ i _ => n - (intOf i).toNat)
  case atStart => exact ⟨0, by omega, rfl, AppV.nil _ _ _ _⟩
  case round =>
    obtain ⟨k, hk, rfl, H0⟩ := hrel
    rename World => wr
    have HN1 := Lib.hid (HN.out k)
    obtain ⟨j0, e0⟩ : ∃ j0, j0 = k * 3 := ⟨_, rfl⟩
    rw [← e0] at HN1 ⊢
    obtain ⟨jw, ew⟩ : ∃ jw : Nat, jw = j0 + 3 := ⟨_, rfl⟩
    have hww : IntKind.i64.wrap ((j0 : Int) + 3) = (jw : Int) := by rw [IntKind.wrap_i64]; omega
    by_cases hkn : k < n / 3
    · have hjn : (jw : Int) ≤ (n : Int) := by omega
      obtain ⟨a, rfl⟩ := HF.out.some_ (by omega)
      obtain ⟨j1, e1⟩ : ∃ j1, j1 = j0 + 1 := ⟨_, rfl⟩
      obtain ⟨j2, e2⟩ : ∃ j2, j2 = j0 + 2 := ⟨_, rfl⟩
      rw [← e1, ← e2] at HN1
      have q0 := (HF.out.mono H0.grown0).at_ a rfl j0 (by omega)
      have q1 := (HF.out.mono H0.grown0).at_ a rfl j1 (by omega)
      have q2 := (HF.out.mono H0.grown0).at_ a rfl j2 (by omega)
      have hw1 : IntKind.i64.wrap ((j0 : Int) + 1) = (j1 : Int) := by rw [IntKind.wrap_i64]; omega
      have hw2 : IntKind.i64.wrap ((j0 : Int) + 2) = (j2 : Int) := by rw [IntKind.wrap_i64]; omega
      have hwm : IntKind.i64.wrap ((jw : Int) - 1) = (j2 : Int) := by rw [IntKind.wrap_i64]; omega
      have b00 : (0 : Int) ≤ (j0 : Int) := by omega
      have b01 : (j0 : Int) < (n : Int) := by omega
      have b10 : (0 : Int) ≤ (j1 : Int) := by omega
      have b11 : (j1 : Int) < (n : Int) := by omega
      have b20 : (0 : Int) ≤ (j2 : Int) := by omega
      have b21 : (j2 : Int) < (n : Int) := by omega
      have HK : Hid (jw = (k + 1) * 3 ∧ k + 1 ≤ n / 3 ∧ j0 < jw ∧ jw ≤ n) := ⟨by omega, by omega, by omega, by omega⟩
      clear e0 e1 e2 ew
      have HB : Hid (∀ W', wr.grownBy W' none → AppV 92 4 W.heap.size W (.slice none 0 0) W' u5 k (pCells 2 f k)) := fun W' g => H0.beside g
      have HS : Hid (∀ w', wr.grownBy w' none → w'.cell? (a.add j0) = some (.float .f64 (f j0)) ∧ w'.cell? (a.add j1) = some (.float .f64 (f j1)) ∧ w'.cell? (a.add j2) = some (.float .f64 (f j2))) := fun w' g => ⟨g.cell q0 (by simp), g.cell q1 (by simp), g.cell q2 (by simp)⟩
      clear H0
      go_wp2_with fail
      go_region_held3 (fun w' => w'.cell? (a.add j0) = some (.float .f64 (f j0)) ∧ w'.cell? (a.add j1) = some (.float .f64 (f j1)) ∧ w'.cell? (a.add j2) = some (.float .f64 (f j2))) (first | exact HS.out _ (gt_below (by go_grown) none))
        (first | (fail))
      rename_i hHeld
      obtain ⟨p0, p1, p2⟩ := hHeld
      clear q0 q1 q2
      have pa2 : ∀ O : Obj, ((wr.alloc O).drew).cell? (a.add j2) = some (.float .f64 (f j2)) := fun O => (HS.out _ (gt_below (by go_grown) none)).2.2
      go_wp2_with (first
        | (at_builtin; refine app_cells_d rfl _ _ _ rfl Tryz.underlying89 (.agg #[.float .f64 0, .float .f64 0, .float .f64 0, .float .f64 0]) 32 infoP rfl (by omega) (HB.out _ (gt_below (by go_grown) none)) rfl rfl (by first | rfl | simp) _ (by first | rfl | simp) (by simp [Value.oneCell']) (Nat.le_refl _) (by omega) (by omega) ?_; intro v1 w1 H1))
      have H2 : AppV 92 4 W.heap.size W (.slice none 0 0) w1 v1 (k + 1) (pCells 2 f (k + 1)) := by rw [HN1.out]; exact H1
      obtain ⟨k1, k2, k3, k4⟩ := HK.out
      refine ⟨⟨k + 1, k2, by rw [← k1], H2⟩, by simp [intOf]; omega⟩
    · have hjn : ¬ (jw : Int) ≤ (n : Int) := by omega
      obtain rfl : k = n / 3 := by omega
      go_wp2_with fail
      go_wp2_with fail
      go_ret
      exact ⟨_, rfl, H0⟩

set_option maxRecDepth 100000 in
set_option maxHeartbeats 2000000 in
theorem Places_3 (p : Option Addr) (n cap : Nat) (f : Nat → Nat) (hn : n ≤ 100000) (W : World) (hf : FVal W p n f) :
    Calls Tryz.prog 58 #[.slice p n cap, .int .i64 3] W fun e w' => ∃ v, e = .returned v ∧ AppV 92 4 W.heap.size W (.slice none 0 0) w' v (n / 4) (pCells 3 f (n / 4)) := by
  have hsf := run_store_flt Tryz.prog
  have HF := Lib.hid hf
  have HN : Hid (∀ k, pCells 3 f (k + 1) = pCells 3 f k ++ [.float .f64 (f (k * 4)), .float .f64 (f (k * 4 + 1)), .float .f64 (f (k * 4 + 2)), .float .f64 (f (k * 4 + 3))]) := fun k => rfl
  have HWd := Lib.hid (fun w => Width_lit 3 4 (by omega) w)
  have bt1 : bits .and .i64 3 1 = 1 := by kernel_rfl
  have bt2 : bits .and .i64 3 2 = 2 := by kernel_rfl
  clear hf
  go_enter Tryz.func58, Tryz.ntmps58
  go_wp2_with (first | (go_at_call 30; refine (HWd.out _).mono ?_; rintro e w' ⟨rfl, hw⟩; obtain rfl := hw.symm))
  go_loopw [5, 7] (fun x i wr => ∃ k : Nat, k ≤ n / 4 ∧ i = .int .i64 ((k * 4 : Nat) : Int) ∧ AppV 92 4 W.heap.size W (.slice none 0 0) wr x k (pCells 3 f k)) (fun _ i _ => n - (intOf i).toNat)
  case atStart => exact ⟨0, by omega, rfl, AppV.nil _ _ _ _⟩
  case round =>
    obtain ⟨k, hk, rfl, H0⟩ := hrel
    rename World => wr
    have HN1 := Lib.hid (HN.out k)
    obtain ⟨j0, e0⟩ : ∃ j0, j0 = k * 4 := ⟨_, rfl⟩
    rw [← e0] at HN1 ⊢
    obtain ⟨jw, ew⟩ : ∃ jw : Nat, jw = j0 + 4 := ⟨_, rfl⟩
    have hww : IntKind.i64.wrap ((j0 : Int) + 4) = (jw : Int) := by rw [IntKind.wrap_i64]; omega
    by_cases hkn : k < n / 4
    · have hjn : (jw : Int) ≤ (n : Int) := by omega
      obtain ⟨a, rfl⟩ := HF.out.some_ (by omega)
      obtain ⟨j1, e1⟩ : ∃ j1, j1 = j0 + 1 := ⟨_, rfl⟩
      obtain ⟨j2, e2⟩ : ∃ j2, j2 = j0 + 2 := ⟨_, rfl⟩
      obtain ⟨j3, e3⟩ : ∃ j3, j3 = j0 + 3 := ⟨_, rfl⟩
      rw [← e1, ← e2, ← e3] at HN1
      have q0 := (HF.out.mono H0.grown0).at_ a rfl j0 (by omega)
      have q1 := (HF.out.mono H0.grown0).at_ a rfl j1 (by omega)
      have q2 := (HF.out.mono H0.grown0).at_ a rfl j2 (by omega)
      have q3 := (HF.out.mono H0.grown0).at_ a rfl j3 (by omega)
      have hw1 : IntKind.i64.wrap ((j0 : Int) + 1) = (j1 : Int) := by rw [IntKind.wrap_i64]; omega
      have hw2 : IntKind.i64.wrap ((j0 : Int) + 2) = (j2 : Int) := by rw [IntKind.wrap_i64]; omega
      have hw3 : IntKind.i64.wrap ((j0 : Int) + 3) = (j3 : Int) := by rw [IntKind.wrap_i64]; omega
      have hwm : IntKind.i64.wrap ((jw : Int) - 1) = (j3 : Int) := by rw [IntKind.wrap_i64]; omega
      have b00 : (0 : Int) ≤ (j0 : Int) := by omega
      have b01 : (j0 : Int) < (n : Int) := by omega
      have b10 : (0 : Int) ≤ (j1 : Int) := by omega
      have b11 : (j1 : Int) < (n : Int) := by omega
      have b20 : (0 : Int) ≤ (j2 : Int) := by omega
      have b21 : (j2 : Int) < (n : Int) := by omega
      have b30 : (0 : Int) ≤ (j3 : Int) := by omega
      have b31 : (j3 : Int) < (n : Int) := by omega
      have HK : Hid (jw = (k + 1) * 4 ∧ k + 1 ≤ n / 4 ∧ j0 < jw ∧ jw ≤ n) := ⟨by omega, by omega, by omega, by omega⟩
      clear e0 e1 e2 e3 ew
      have HB : Hid (∀ W', wr.grownBy W' none → AppV 92 4 W.heap.size W (.slice none 0 0) W' u5 k (pCells 3 f k)) := fun W' g => H0.beside g
      have HS : Hid (∀ w', wr.grownBy w' none → w'.cell? (a.add j0) = some (.float .f64 (f j0)) ∧ w'.cell? (a.add j1) = some (.float .f64 (f j1)) ∧ w'.cell? (a.add j2) = some (.float .f64 (f j2)) ∧ w'.cell? (a.add j3) = some (.float .f64 (f j3))) := fun w' g => ⟨g.cell q0 (by simp), g.cell q1 (by simp), g.cell q2 (by simp), g.cell q3 (by simp)⟩
      clear H0
      go_wp2_with fail
      go_region_held3 (fun w' => w'.cell? (a.add j0) = some (.float .f64 (f j0)) ∧ w'.cell? (a.add j1) = some (.float .f64 (f j1)) ∧ w'.cell? (a.add j2) = some (.float .f64 (f j2)) ∧ w'.cell? (a.add j3) = some (.float .f64 (f j3))) (first | exact HS.out _ (gt_below (by go_grown) none))
        (first | (fail))
      rename_i hHeld
      obtain ⟨p0, p1, p2, p3⟩ := hHeld
      clear q0 q1 q2 q3
      have pa2 : ∀ O : Obj, ((wr.alloc O).drew).cell? (a.add j2) = some (.float .f64 (f j2)) := fun O => (HS.out _ (gt_below (by go_grown) none)).2.2.1
      have pa3 : ∀ O : Obj, ((wr.alloc O).drew).cell? (a.add j3) = some (.float .f64 (f j3)) := fun O => (HS.out _ (gt_below (by go_grown) none)).2.2.2
      go_wp2_with (first
        | (at_builtin; refine app_cells_d rfl _ _ _ rfl Tryz.underlying89 (.agg #[.float .f64 0, .float .f64 0, .float .f64 0, .float .f64 0]) 32 infoP rfl (by omega) (HB.out _ (gt_below (by go_grown) none)) rfl rfl (by first | rfl | simp) _ (by first | rfl | simp) (by simp [Value.oneCell']) (Nat.le_refl _) (by omega) (by omega) ?_; intro v1 w1 H1))
      have H2 : AppV 92 4 W.heap.size W (.slice none 0 0) w1 v1 (k + 1) (pCells 3 f (k + 1)) := by rw [HN1.out]; exact H1
      obtain ⟨k1, k2, k3, k4⟩ := HK.out
      refine ⟨⟨k + 1, k2, by rw [← k1], H2⟩, by simp [intOf]; omega⟩
    · have hjn : ¬ (jw : Int) ≤ (n : Int) := by omega
      obtain rfl : k = n / 4 := by omega
      go_wp2_with fail
      go_wp2_with fail
      go_ret
      exact ⟨_, rfl, H0⟩

end Go.Proofs.YthcjnadceambgaaGreatDoor
