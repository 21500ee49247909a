/- The reference's places of a row of numbers. The reference's ForceCoordinatesType. The reference's New of points and of line strings. The reference's New, whole. -/
import Derived.StillTailTactics
import Derived.Lib.MinMax
import Derived.Test.YtlpaecafpbbbkaaGreatDoorSPT5
namespace Go.Proofs.YtlpaecafpbbbkaaGreatDoor
open Go.RowKit

def pCells (r : Nat) (f : Nat → Nat) : Nat → List Value
  | 0 => []
  | k + 1 => pCells r f k ++ [.float .f64 (plX r f k), .float .f64 (plY r f k), .float .f64 (plZ r f k), .float .f64 (plM r f k)]
theorem pCells_len (r : Nat) (f : Nat → Nat) : ∀ k, (pCells r f k).length = k * 4
  | 0 => rfl
  | k + 1 => by simp only [pCells, List.length_append, List.length_cons, List.length_nil, pCells_len r f k]; omega
theorem pCells_at (r : Nat) (f : Nat → Nat) : ∀ n k, k < n → ∀ j, j < 4 → (pCells r f n)[k * 4 + j]? = [Value.float .f64 (plX r f k), .float .f64 (plY r f k), .float .f64 (plZ r f k), .float .f64 (plM r f k)][j]?
  | 0, k, h, _, _ => by omega
  | n + 1, k, h, j, hj => by
    have hl := pCells_len r f n
    by_cases hk : k = n
    · subst hk
      rw [pCells, List.getElem?_append_right (by omega)]
      congr 1
      omega
    · rw [pCells, List.getElem?_append_left (by omega)]
      exact pCells_at r f n k (by omega) j hj
section
variable {e size base : Nat} {w0 W : World} {v0 v : Value} {n : Nat} {xs : List Value}
variable {P : Program} {ops : Array Oper} {rest : List Oper} {o : Oper} {a : Act} {Q : Exit → Act → World → Prop}
/-- The same behind a draw. -/
theorem app_cells_d (hgd : o.guard = none) (s x : Operand) (t : TypeId) (ho : o.op = .call { callee := .builtin .append, args := #[s, x], argTypes := #[t, t] })
    (ht : P.underlying t = some (.slice e)) (z : Value) (bytes : Nat) (hinfo : (P.info? e).map (fun i => (i.zero, i.size, i.bytes)) = some (some z, size, bytes)) (hzs : z.cells.size = size) (hsz : 0 < size)
    (H : AppV e size base w0 v0 W v n xs) (hs : a.eval s = v) {k m c : Nat} (hx : a.eval x = .slice (some ⟨k, 0, none⟩) m c) (hk : k = W.heap.size) (cs : Array Value) (hcl : cs.size = m * size) (h1 : ∀ u ∈ cs.toList, u.oneCell' = true)
    (hbase : base ≤ w0.heap.size) (hl : (n + m) * bytes ≤ 140737488355328) (hl2 : n + m ≤ 140737488355328)
    (h : ∀ v1 w1, AppV e size base w0 v0 w1 v1 (n + m) (xs ++ cs.toList) → wpList P ops Q rest (a.put o.dst v1) w1) :
    wpList P ops Q (o :: rest) a (W.alloc (.cells cs e)).drew :=
  app_cells (W := W.drew) hgd s x t ho ht z bytes hinfo hzs hsz (H.beside (gt_drew_r (gt_refl _ _))) hs hx hk cs hcl h1 hbase hl hl2 h
end
theorem infoP : (Tryz.prog.info? 209).map (fun i => (i.zero, i.size, i.bytes)) = some (some (.agg #[.float .f64 0, .float .f64 0, .float .f64 0, .float .f64 0]), 4, 32) := by kernel_rfl

set_option maxRecDepth 100000 in
set_option maxHeartbeats 2000000 in
theorem Places_0 (p : Option Addr) (n cap : Nat) (f : Nat → Nat) (hn : n ≤ 100000) (W : World) (hf : FVal W p n f) :
    Calls Tryz.prog 91 #[.slice p n cap, .int .i64 0] W fun e w' => ∃ v, e = .returned v ∧ AppV 209 4 W.heap.size W (.slice none 0 0) w' v (n / 2) (pCells 0 f (n / 2)) := by
  have hsf := run_store_flt Tryz.prog
  have HF := Lib.hid hf
  have HN : Hid (∀ k, pCells 0 f (k + 1) = pCells 0 f k ++ [.float .f64 (f (k * 2)), .float .f64 (f (k * 2 + 1)), .float .f64 0, .float .f64 0]) := fun k => rfl
  have HWd := Lib.hid (fun w => Width_lit 0 2 (by omega) w)
  have bt1 : bits .and .i64 0 1 = 0 := by kernel_rfl
  have bt2 : bits .and .i64 0 2 = 0 := by kernel_rfl
  clear hf
  go_enter Tryz.func91, Tryz.ntmps91
  go_wp2_with (first | (go_at_call 42; refine (HWd.out _).mono ?_; rintro e w' ⟨rfl, hw⟩; obtain rfl := hw.symm))
  go_loopw [5, 7] (fun x i wr => ∃ k : Nat, k ≤ n / 2 ∧ i = .int .i64 ((k * 2 : Nat) : Int) ∧ AppV 209 4 W.heap.size W (.slice none 0 0) wr x k (pCells 0 f k)) (fun _ i _ => n - (intOf i).toNat)
  case atStart => exact ⟨0, by omega, rfl, AppV.nil _ _ _ _⟩
  case round =>
    obtain ⟨k, hk, rfl, H0⟩ := hrel
    rename World => wr
    have HN1 := Lib.hid (HN.out k)
    obtain ⟨j0, e0⟩ : ∃ j0, j0 = k * 2 := ⟨_, rfl⟩
    rw [← e0] at HN1 ⊢
    obtain ⟨jw, ew⟩ : ∃ jw : Nat, jw = j0 + 2 := ⟨_, rfl⟩
    have hww : IntKind.i64.wrap ((j0 : Int) + 2) = (jw : Int) := by rw [IntKind.wrap_i64]; omega
    by_cases hkn : k < n / 2
    · have hjn : (jw : Int) ≤ (n : Int) := by omega
      obtain ⟨a, rfl⟩ := HF.out.some_ (by omega)
      obtain ⟨j1, e1⟩ : ∃ j1, j1 = j0 + 1 := ⟨_, rfl⟩
      rw [← e1] at HN1
      have q0 := (HF.out.mono H0.grown0).at_ a rfl j0 (by omega)
      have q1 := (HF.out.mono H0.grown0).at_ a rfl j1 (by omega)
      have hw1 : IntKind.i64.wrap ((j0 : Int) + 1) = (j1 : Int) := by rw [IntKind.wrap_i64]; omega
      have b00 : (0 : Int) ≤ (j0 : Int) := by omega
      have b01 : (j0 : Int) < (n : Int) := by omega
      have b10 : (0 : Int) ≤ (j1 : Int) := by omega
      have b11 : (j1 : Int) < (n : Int) := by omega
      have HK : Hid (jw = (k + 1) * 2 ∧ k + 1 ≤ n / 2 ∧ j0 < jw ∧ jw ≤ n) := ⟨by omega, by omega, by omega, by omega⟩
      clear e0 e1 ew
      have HB : Hid (∀ W', wr.grownBy W' none → AppV 209 4 W.heap.size W (.slice none 0 0) W' u5 k (pCells 0 f k)) := fun W' g => H0.beside g
      have HS : Hid (∀ w', wr.grownBy w' none → w'.cell? (a.add j0) = some (.float .f64 (f j0)) ∧ w'.cell? (a.add j1) = some (.float .f64 (f j1))) := fun w' g => ⟨g.cell q0 (by simp), g.cell q1 (by simp)⟩
      clear H0
      go_wp2_with fail
      go_region_held3 (fun w' => w'.cell? (a.add j0) = some (.float .f64 (f j0)) ∧ w'.cell? (a.add j1) = some (.float .f64 (f j1))) (first | exact HS.out _ (gt_below (by go_grown) none))
        (first | (fail))
      rename_i hHeld
      obtain ⟨p0, p1⟩ := hHeld
      clear q0 q1
      go_wp2_with (first
        | (at_builtin; refine app_cells_d rfl _ _ _ rfl Tryz.underlying156 (.agg #[.float .f64 0, .float .f64 0, .float .f64 0, .float .f64 0]) 32 infoP rfl (by omega) (HB.out _ (gt_below (by go_grown) none)) rfl rfl (by first | rfl | simp) _ (by first | rfl | simp) (by simp [Value.oneCell']) (Nat.le_refl _) (by omega) (by omega) ?_; intro v1 w1 H1))
      have H2 : AppV 209 4 W.heap.size W (.slice none 0 0) w1 v1 (k + 1) (pCells 0 f (k + 1)) := by rw [HN1.out]; exact H1
      obtain ⟨k1, k2, k3, k4⟩ := HK.out
      refine ⟨⟨k + 1, k2, by rw [← k1], H2⟩, by simp [intOf]; omega⟩
    · have hjn : ¬ (jw : Int) ≤ (n : Int) := by omega
      obtain rfl : k = n / 2 := by omega
      go_wp2_with fail
      go_wp2_with fail
      go_ret
      exact ⟨_, rfl, H0⟩

set_option maxRecDepth 100000 in
set_option maxHeartbeats 2000000 in
theorem Places_1 (p : Option Addr) (n cap : Nat) (f : Nat → Nat) (hn : n ≤ 100000) (W : World) (hf : FVal W p n f) :
    Calls Tryz.prog 91 #[.slice p n cap, .int .i64 1] W fun e w' => ∃ v, e = .returned v ∧ AppV 209 4 W.heap.size W (.slice none 0 0) w' v (n / 3) (pCells 1 f (n / 3)) := by
  have hsf := run_store_flt Tryz.prog
  have HF := Lib.hid hf
  have HN : Hid (∀ k, pCells 1 f (k + 1) = pCells 1 f k ++ [.float .f64 (f (k * 3)), .float .f64 (f (k * 3 + 1)), .float .f64 (f (k * 3 + 2)), .float .f64 0]) := fun k => rfl
  have HWd := Lib.hid (fun w => Width_lit 1 3 (by omega) w)
  have bt1 : bits .and .i64 1 1 = 1 := by kernel_rfl
  have bt2 : bits .and .i64 1 2 = 0 := by kernel_rfl
  clear hf
  go_enter Tryz.func91, Tryz.ntmps91
  go_wp2_with (first | (go_at_call 42; refine (HWd.out _).mono ?_; rintro e w' ⟨rfl, hw⟩; obtain rfl := hw.symm))
  go_loopw [5, 7] (fun x i wr => ∃ k : Nat, k ≤ n / 3 ∧ i = .int .i64 ((k * 3 : Nat) : Int) ∧ AppV 209 4 W.heap.size W (.slice none 0 0) wr x k (pCells 1 f k)) (fun _ i _ => n - (intOf i).toNat)
  case atStart => exact ⟨0, by omega, rfl, AppV.nil _ _ _ _⟩
  case round =>
    obtain ⟨k, hk, rfl, H0⟩ := hrel
    rename World => wr
    have HN1 := Lib.hid (HN.out k)
    obtain ⟨j0, e0⟩ : ∃ j0, j0 = k * 3 := ⟨_, rfl⟩
    rw [← e0] at HN1 ⊢
    obtain ⟨jw, ew⟩ : ∃ jw : Nat, jw = j0 + 3 := ⟨_, rfl⟩
    have hww : IntKind.i64.wrap ((j0 : Int) + 3) = (jw : Int) := by rw [IntKind.wrap_i64]; omega
    by_cases hkn : k < n / 3
    · have hjn : (jw : Int) ≤ (n : Int) := by omega
      obtain ⟨a, rfl⟩ := HF.out.some_ (by omega)
      obtain ⟨j1, e1⟩ : ∃ j1, j1 = j0 + 1 := ⟨_, rfl⟩
      obtain ⟨j2, e2⟩ : ∃ j2, j2 = j0 + 2 := ⟨_, rfl⟩
      rw [← e1, ← e2] at HN1
      have q0 := (HF.out.mono H0.grown0).at_ a rfl j0 (by omega)
      have q1 := (HF.out.mono H0.grown0).at_ a rfl j1 (by omega)
      have q2 := (HF.out.mono H0.grown0).at_ a rfl j2 (by omega)
      have hw1 : IntKind.i64.wrap ((j0 : Int) + 1) = (j1 : Int) := by rw [IntKind.wrap_i64]; omega
      have hw2 : IntKind.i64.wrap ((j0 : Int) + 2) = (j2 : Int) := by rw [IntKind.wrap_i64]; omega
      have b00 : (0 : Int) ≤ (j0 : Int) := by omega
      have b01 : (j0 : Int) < (n : Int) := by omega
      have b10 : (0 : Int) ≤ (j1 : Int) := by omega
      have b11 : (j1 : Int) < (n : Int) := by omega
      have b20 : (0 : Int) ≤ (j2 : Int) := by omega
      have b21 : (j2 : Int) < (n : Int) := by omega
      have HK : Hid (jw = (k + 1) * 3 ∧ k + 1 ≤ n / 3 ∧ j0 < jw ∧ jw ≤ n) := ⟨by omega, by omega, by omega, by omega⟩
      clear e0 e1 e2 ew
      have HB : Hid (∀ W', wr.grownBy W' none → AppV 209 4 W.heap.size W (.slice none 0 0) W' u5 k (pCells 1 f k)) := fun W' g => H0.beside g
      have HS : Hid (∀ w', wr.grownBy w' none → w'.cell? (a.add j0) = some (.float .f64 (f j0)) ∧ w'.cell? (a.add j1) = some (.float .f64 (f j1)) ∧ w'.cell? (a.add j2) = some (.float .f64 (f j2))) := fun w' g => ⟨g.cell q0 (by simp), g.cell q1 (by simp), g.cell q2 (by simp)⟩
      clear H0
      go_wp2_with fail
      go_region_held3 (fun w' => w'.cell? (a.add j0) = some (.float .f64 (f j0)) ∧ w'.cell? (a.add j1) = some (.float .f64 (f j1)) ∧ w'.cell? (a.add j2) = some (.float .f64 (f j2))) (first | exact HS.out _ (gt_below (by go_grown) none))
        (first | (fail))
      rename_i hHeld
      obtain ⟨p0, p1, p2⟩ := hHeld
      clear q0 q1 q2
      have pa2 : ∀ O : Obj, ((wr.alloc O).drew).cell? (a.add j2) = some (.float .f64 (f j2)) := fun O => (HS.out _ (gt_below (by go_grown) none)).2.2
      go_wp2_with (first
        | (at_builtin; refine app_cells_d rfl _ _ _ rfl Tryz.underlying156 (.agg #[.float .f64 0, .float .f64 0, .float .f64 0, .float .f64 0]) 32 infoP rfl (by omega) (HB.out _ (gt_below (by go_grown) none)) rfl rfl (by first | rfl | simp) _ (by first | rfl | simp) (by simp [Value.oneCell']) (Nat.le_refl _) (by omega) (by omega) ?_; intro v1 w1 H1))
      have H2 : AppV 209 4 W.heap.size W (.slice none 0 0) w1 v1 (k + 1) (pCells 1 f (k + 1)) := by rw [HN1.out]; exact H1
      obtain ⟨k1, k2, k3, k4⟩ := HK.out
      refine ⟨⟨k + 1, k2, by rw [← k1], H2⟩, by simp [intOf]; omega⟩
    · have hjn : ¬ (jw : Int) ≤ (n : Int) := by omega
      obtain rfl : k = n / 3 := by omega
      go_wp2_with fail
      go_wp2_with fail
      go_ret
      exact ⟨_, rfl, H0⟩

set_option maxRecDepth 100000 in
set_option maxHeartbeats 2000000 in
theorem Places_2 (p : Option Addr) (n cap : Nat) (f : Nat → Nat) (hn : n ≤ 100000) (W : World) (hf : FVal W p n f) :
    Calls Tryz.prog 91 #[.slice p n cap, .int .i64 2] W fun e w' => ∃ v, e = .returned v ∧ AppV 209 4 W.heap.size W (.slice none 0 0) w' v (n / 3) (pCells 2 f (n / 3)) := by
  have hsf := run_store_flt Tryz.prog
  have HF := Lib.hid hf
  have HN : Hid (∀ k, pCells 2 f (k + 1) = pCells 2 f k ++ [.float .f64 (f (k * 3)), .float .f64 (f (k * 3 + 1)), .float .f64 0, .float .f64 (f (k * 3 + 2))]) := fun k => rfl
  have HWd := Lib.hid (fun w => Width_lit 2 3 (by omega) w)
  have bt1 : bits .and .i64 2 1 = 0 := by kernel_rfl
  have bt2 : bits .and .i64 2 2 = 2 := by kernel_rfl
  clear hf
  go_enter Tryz.func91, Tryz.ntmps91
  go_wp2_with (first | (go_at_call 42; refine (HWd.out _).mono ?_; rintro e w' ⟨rfl, hw⟩; obtain rfl := hw.symm))
  go_loopw [5, 7] (fun x i wr => ∃ k : Nat, k ≤ n / 3 ∧ i = .int .i64 ((k * 3 : Nat) : Int) ∧ AppV 209 4 W.heap.size W (.slice none 0 0) wr x k (pCells 2 f k)) (fun _ i _ => n - (intOf i).toNat)
  case atStart => exact ⟨0, by omega, rfl, AppV.nil _ _ _ _⟩
  case round =>
    obtain ⟨k, hk, rfl, H0⟩ := hrel
    rename World => wr
    have HN1 := Lib.hid (HN.out k)
    obtain ⟨j0, e0⟩ : ∃ j0, j0 = k * 3 := ⟨_, rfl⟩
    rw [← e0] at HN1 ⊢
    obtain ⟨jw, ew⟩ : ∃ jw : Nat, jw = j0 + 3 := ⟨_, rfl⟩
    have hww : IntKind.i64.wrap ((j0 : Int) + 3) = (jw : Int) := by rw [IntKind.wrap_i64]; omega
    by_cases hkn : k < n / 3
    · have hjn : (jw : Int) ≤ (n : Int) := by omega
      obtain ⟨a, rfl⟩ := HF.out.some_ (by omega)
      obtain ⟨j1, e1⟩ : ∃ j1, j1 = j0 + 1 := ⟨_, rfl⟩
      obtain ⟨j2, e2⟩ : ∃ j2, j2 = j0 + 2 := ⟨_, rfl⟩
      rw [← e1, ← e2] at HN1
      have q0 := (HF.out.mono H0.grown0).at_ a rfl j0 (by omega)
      have q1 := (HF.out.mono H0.grown0).at_ a rfl j1 (by omega)
      have q2 := (HF.out.mono H0.grown0).at_ a rfl j2 (by omega)
      have hw1 : IntKind.i64.wrap ((j0 : Int) + 1) = (j1 : Int) := by rw [IntKind.wrap_i64]; omega
      have hw2 : IntKind.i64.wrap ((j0 : Int) + 2) = (j2 : Int) := by rw [IntKind.wrap_i64]; omega
      have hwm : IntKind.i64.wrap ((jw : Int) - 1) = (j2 : Int) := by rw [IntKind.wrap_i64]; omega
      have b00 : (0 : Int) ≤ (j0 : Int) := by omega
      have b01 : (j0 : Int) < (n : Int) := by omega
      have b10 : (0 : Int) ≤ (j1 : Int) := by omega
      have b11 : (j1 : Int) < (n : Int) := by omega
      have b20 : (0 : Int) ≤ (j2 : Int) := by omega
      have b21 : (j2 : Int) < (n : Int) := by omega
      have HK : Hid (jw = (k + 1) * 3 ∧ k + 1 ≤ n / 3 ∧ j0 < jw ∧ jw ≤ n) := ⟨by omega, by omega, by omega, by omega⟩
      clear e0 e1 e2 ew
      have HB : Hid (∀ W', wr.grownBy W' none → AppV 209 4 W.heap.size W (.slice none 0 0) W' u5 k (pCells 2 f k)) := fun W' g => H0.beside g
      have HS : Hid (∀ w', wr.grownBy w' none → w'.cell? (a.add j0) = some (.float .f64 (f j0)) ∧ w'.cell? (a.add j1) = some (.float .f64 (f j1)) ∧ w'.cell? (a.add j2) = some (.float .f64 (f j2))) := fun w' g => ⟨g.cell q0 (by simp), g.cell q1 (by simp), g.cell q2 (by simp)⟩
      clear H0
      go_wp2_with fail
      go_region_held3 (fun w' => w'.cell? (a.add j0) = some (.float .f64 (f j0)) ∧ w'.cell? (a.add j1) = some (.float .f64 (f j1)) ∧ w'.cell? (a.add j2) = some (.float .f64 (f j2))) (first | exact HS.out _ (gt_below (by go_grown) none))
        (first | (fail))
      rename_i hHeld
      obtain ⟨p0, p1, p2⟩ := hHeld
      clear q0 q1 q2
      have pa2 : ∀ O : Obj, ((wr.alloc O).drew).cell? (a.add j2) = some (.float .f64 (f j2)) := fun O => (HS.out _ (gt_below (by go_grown) none)).2.2
      go_wp2_with (first
        | (at_builtin; refine app_cells_d rfl _ _ _ rfl Tryz.underlying156 (.agg #[.float .f64 0, .float .f64 0, .float .f64 0, .float .f64 0]) 32 infoP rfl (by omega) (HB.out _ (gt_below (by go_grown) none)) rfl rfl (by first | rfl | simp) _ (by first | rfl | simp) (by simp [Value.oneCell']) (Nat.le_refl _) (by omega) (by omega) ?_; intro v1 w1 H1))
      have H2 : AppV 209 4 W.heap.size W (.slice none 0 0) w1 v1 (k + 1) (pCells 2 f (k + 1)) := by rw [HN1.out]; exact H1
      obtain ⟨k1, k2, k3, k4⟩ := HK.out
      refine ⟨⟨k + 1, k2, by rw [← k1], H2⟩, by simp [intOf]; omega⟩
    · have hjn : ¬ (jw : Int) ≤ (n : Int) := by omega
      obtain rfl : k = n / 3 := by omega
      go_wp2_with fail
      go_wp2_with fail
      go_ret
      exact ⟨_, rfl, H0⟩

set_option maxRecDepth 100000 in
set_option maxHeartbeats 2000000 in
theorem Places_3 (p : Option Addr) (n cap : Nat) (f : Nat → Nat) (hn : n ≤ 100000) (W : World) (hf : FVal W p n f) :
    Calls Tryz.prog 91 #[.slice p n cap, .int .i64 3] W fun e w' => ∃ v, e = .returned v ∧ AppV 209 4 W.heap.size W (.slice none 0 0) w' v (n / 4) (pCells 3 f (n / 4)) := by
  have hsf := run_store_flt Tryz.prog
  have HF := Lib.hid hf
  have HN : Hid (∀ k, pCells 3 f (k + 1) = pCells 3 f k ++ [.float .f64 (f (k * 4)), .float .f64 (f (k * 4 + 1)), .float .f64 (f (k * 4 + 2)), .float .f64 (f (k * 4 + 3))]) := fun k => rfl
  have HWd := Lib.hid (fun w => Width_lit 3 4 (by omega) w)
  have bt1 : bits .and .i64 3 1 = 1 := by kernel_rfl
  have bt2 : bits .and .i64 3 2 = 2 := by kernel_rfl
  clear hf
  go_enter Tryz.func91, Tryz.ntmps91
  go_wp2_with (first | (go_at_call 42; refine (HWd.out _).mono ?_; rintro e w' ⟨rfl, hw⟩; obtain rfl := hw.symm))
  go_loopw [5, 7] (fun x i wr => ∃ k : Nat, k ≤ n / 4 ∧ i = .int .i64 ((k * 4 : Nat) : Int) ∧ AppV 209 4 W.heap.size W (.slice none 0 0) wr x k (pCells 3 f k)) (fun _ i _ => n - (intOf i).toNat)
  case atStart => exact ⟨0, by omega, rfl, AppV.nil _ _ _ _⟩
  case round =>
    obtain ⟨k, hk, rfl, H0⟩ := hrel
    rename World => wr
    have HN1 := Lib.hid (HN.out k)
    obtain ⟨j0, e0⟩ : ∃ j0, j0 = k * 4 := ⟨_, rfl⟩
    rw [← e0] at HN1 ⊢
    obtain ⟨jw, ew⟩ : ∃ jw : Nat, jw = j0 + 4 := ⟨_, rfl⟩
    have hww : IntKind.i64.wrap ((j0 : Int) + 4) = (jw : Int) := by rw [IntKind.wrap_i64]; omega
    by_cases hkn : k < n / 4
    · have hjn : (jw : Int) ≤ (n : Int) := by omega
      obtain ⟨a, rfl⟩ := HF.out.some_ (by omega)
      obtain ⟨j1, e1⟩ : ∃ j1, j1 = j0 + 1 := ⟨_, rfl⟩
      obtain ⟨j2, e2⟩ : ∃ j2, j2 = j0 + 2 := ⟨_, rfl⟩
      obtain ⟨j3, e3⟩ : ∃ j3, j3 = j0 + 3 := ⟨_, rfl⟩
      rw [← e1, ← e2, ← e3] at HN1
      have q0 := (HF.out.mono H0.grown0).at_ a rfl j0 (by omega)
      have q1 := (HF.out.mono H0.grown0).at_ a rfl j1 (by omega)
      have q2 := (HF.out.mono H0.grown0).at_ a rfl j2 (by omega)
      have q3 := (HF.out.mono H0.grown0).at_ a rfl j3 (by omega)
      have hw1 : IntKind.i64.wrap ((j0 : Int) + 1) = (j1 : Int) := by rw [IntKind.wrap_i64]; omega
      have hw2 : IntKind.i64.wrap ((j0 : Int) + 2) = (j2 : Int) := by rw [IntKind.wrap_i64]; omega
      have hw3 : IntKind.i64.wrap ((j0 : Int) + 3) = (j3 : Int) := by rw [IntKind.wrap_i64]; omega
      have hwm : IntKind.i64.wrap ((jw : Int) - 1) = (j3 : Int) := by rw [IntKind.wrap_i64]; omega
      have b00 : (0 : Int) ≤ (j0 : Int) := by omega
      have b01 : (j0 : Int) < (n : Int) := by omega
      have b10 : (0 : Int) ≤ (j1 : Int) := by omega
      have b11 : (j1 : Int) < (n : Int) := by omega
      have b20 : (0 : Int) ≤ (j2 : Int) := by omega
      have b21 : (j2 : Int) < (n : Int) := by omega
      have b30 : (0 : Int) ≤ (j3 : Int) := by omega
      have b31 : (j3 : Int) < (n : Int) := by omega
      have HK : Hid (jw = (k + 1) * 4 ∧ k + 1 ≤ n / 4 ∧ j0 < jw ∧ jw ≤ n) := ⟨by omega, by omega, by omega, by omega⟩
      clear e0 e1 e2 e3 ew
      have HB : Hid (∀ W', wr.grownBy W' none → AppV 209 4 W.heap.size W (.slice none 0 0) W' u5 k (pCells 3 f k)) := fun W' g => H0.beside g
      have HS : Hid (∀ w', wr.grownBy w' none → w'.cell? (a.add j0) = some (.float .f64 (f j0)) ∧ w'.cell? (a.add j1) = some (.float .f64 (f j1)) ∧ w'.cell? (a.add j2) = some (.float .f64 (f j2)) ∧ w'.cell? (a.add j3) = some (.float .f64 (f j3))) := fun w' g => ⟨g.cell q0 (by simp), g.cell q1 (by simp), g.cell q2 (by simp), g.cell q3 (by simp)⟩
      clear H0
      go_wp2_with fail
      go_region_held3 (fun w' => w'.cell? (a.add j0) = some (.float .f64 (f j0)) ∧ w'.cell? (a.add j1) = some (.float .f64 (f j1)) ∧ w'.cell? (a.add j2) = some (.float .f64 (f j2)) ∧ w'.cell? (a.add j3) = some (.float .f64 (f j3))) (first | exact HS.out _ (gt_below (by go_grown) none))
        (first | (fail))
      rename_i hHeld
      obtain ⟨p0, p1, p2, p3⟩ := hHeld
      clear q0 q1 q2 q3
      have pa2 : ∀ O : Obj, ((wr.alloc O).drew).cell? (a.add j2) = some (.float .f64 (f j2)) := fun O => (HS.out _ (gt_below (by go_grown) none)).2.2.1
      have pa3 : ∀ O : Obj, ((wr.alloc O).drew).cell? (a.add j3) = some (.float .f64 (f j3)) := fun O => (HS.out _ (gt_below (by go_grown) none)).2.2.2
      go_wp2_with (first
        | (at_builtin; refine app_cells_d rfl _ _ _ rfl Tryz.underlying156 (.agg #[.float .f64 0, .float .f64 0, .float .f64 0, .float .f64 0]) 32 infoP rfl (by omega) (HB.out _ (gt_below (by go_grown) none)) rfl rfl (by first | rfl | simp) _ (by first | rfl | simp) (by simp [Value.oneCell']) (Nat.le_refl _) (by omega) (by omega) ?_; intro v1 w1 H1))
      have H2 : AppV 209 4 W.heap.size W (.slice none 0 0) w1 v1 (k + 1) (pCells 3 f (k + 1)) := by rw [HN1.out]; exact H1
      obtain ⟨k1, k2, k3, k4⟩ := HK.out
      refine ⟨⟨k + 1, k2, by rw [← k1], H2⟩, by simp [intOf]; omega⟩
    · have hjn : ¬ (jw : Int) ≤ (n : Int) := by omega
      obtain rfl : k = n / 4 := by omega
      go_wp2_with fail
      go_wp2_with fail
      go_ret
      exact ⟨_, rfl, H0⟩

end Go.Proofs.YtlpaecafpbbbkaaGreatDoor
namespace Go.Proofs.YtlpaecafpbbbkaaGreatDoor
open Go.RowKit

theorem Nums_any (r : Nat) (hr : r < 4) (p : Option Addr) (n cap : Nat) (X Y Z M : Nat → Nat) (hn : n ≤ 100000) (W : World) (hp : PRow W p n X Y Z M) :
    Calls Tryz.prog 90 #[.slice p n cap, .int .i64 r] W fun e w' => ∃ v, e = .returned v ∧ AppV 26 1 W.heap.size W (.slice none 0 0) w' v (n * widN r) (nTo r X Y Z M n) := by
  rcases (by omega : r = 0 ∨ r = 1 ∨ r = 2 ∨ r = 3) with rfl | rfl | rfl | rfl
  · exact Nums_0 p n cap X Y Z M hn W hp
  · exact Nums_1 p n cap X Y Z M hn W hp
  · exact Nums_2 p n cap X Y Z M hn W hp
  · exact Nums_3 p n cap X Y Z M hn W hp
theorem Places_any' (r : Nat) (hr : r < 4) (p : Option Addr) (n cap : Nat) (f : Nat → Nat) (hn : n ≤ 100000) (W : World) (hf : FVal W p n f) :
    Calls Tryz.prog 91 #[.slice p n cap, .int .i64 r] W fun e w' => ∃ v, e = .returned v ∧ AppV 209 4 W.heap.size W (.slice none 0 0) w' v (n / widN r) (pCells r f (n / widN r)) := by
  rcases (by omega : r = 0 ∨ r = 1 ∨ r = 2 ∨ r = 3) with rfl | rfl | rfl | rfl
  · exact Places_0 p n cap f hn W hf
  · exact Places_1 p n cap f hn W hf
  · exact Places_2 p n cap f hn W hf
  · exact Places_3 p n cap f hn W hf

theorem nTo_len (r : Nat) (hr : r < 4) (X Y Z M : Nat → Nat) : ∀ k, (nTo r X Y Z M k).length = k * widN r
  | 0 => by simp [nTo]
  | k + 1 => by
    have h := nTo_len r hr X Y Z M k
    rcases (by omega : r = 0 ∨ r = 1 ∨ r = 2 ∨ r = 3) with rfl | rfl | rfl | rfl <;> simp [nTo, widN] at h ⊢ <;> omega
theorem nTo_at (r r' : Nat) (hr : r' < 4) (f : Nat → Nat) : ∀ n i, i < n * widN r' → (nTo r' (plX r f) (plY r f) (plZ r f) (plM r f) n)[i]? = some (.float .f64 (fF r r' f i))
  | 0, i, h => by omega
  | n + 1, i, h => by
    have hl := nTo_len r' hr (plX r f) (plY r f) (plZ r f) (plM r f) n
    by_cases hi : i < n * widN r'
    · have := nTo_at r r' hr f n i hi
      rw [nTo, List.append_assoc, List.append_assoc, List.getElem?_append_left (by omega)]
      exact this
    · obtain ⟨c, rfl⟩ : ∃ c, i = n * widN r' + c := ⟨i - n * widN r', by omega⟩
      rw [nTo, List.append_assoc, List.append_assoc, List.getElem?_append_right (by omega), hl, Nat.add_sub_cancel_left]
      have hw := widN_le r' hr
      have hc : c < widN r' := by rw [Nat.succ_mul] at h; omega
      have hq : (n * widN r' + c) / widN r' = n := by
        rw [Nat.mul_comm, Nat.mul_add_div (by omega), Nat.div_eq_of_lt hc]; omega
      have hm : (n * widN r' + c) % widN r' = c := by
        rw [Nat.mul_comm, Nat.mul_add_mod, Nat.mod_eq_of_lt hc]
      unfold fF
      rw [hq, hm]
      rcases (by omega : r' = 0 ∨ r' = 1 ∨ r' = 2 ∨ r' = 3) with rfl | rfl | rfl | rfl
      · have hc' : c < 2 := hc
        rcases (by omega : c = 0 ∨ c = 1) with rfl | rfl <;> rfl
      · have hc' : c < 3 := hc
        rcases (by omega : c = 0 ∨ c = 1 ∨ c = 2) with rfl | rfl | rfl <;> rfl
      · have hc' : c < 3 := hc
        rcases (by omega : c = 0 ∨ c = 1 ∨ c = 2) with rfl | rfl | rfl <;> rfl
      · have hc' : c < 4 := hc
        rcases (by omega : c = 0 ∨ c = 1 ∨ c = 2 ∨ c = 3) with rfl | rfl | rfl | rfl <;> rfl
theorem fF_lt {W : World} {p : Option Addr} {n : Nat} {f : Nat → Nat} (h : FVal W p n f) (r r' i : Nat) : fF r r' f i < 18446744073709551616 := by
  unfold fF
  split
  · exact h.lt _
  · split
    · exact h.lt _
    · split
      · exact fval_plZ h r _
      · exact fval_plM h r _

theorem AppV.prow {e base : Nat} {w0 w : World} {v0 : Value} {p : Option Addr} {n c r : Nat} {f : Nat → Nat} (h : AppV e 4 base w0 v0 w (.slice p n c) n (pCells r f n)) : PRow w p n (plX r f) (plY r f) (plZ r f) (plM r f) := by
  obtain ⟨h1, h2⟩ := own_at4 h.own
  refine ⟨h1, fun a ha i hi => ⟨?_, ?_, ?_, ?_⟩⟩
  · exact h2 a ha i 0 _ ((pCells_at r f n i hi 0 (by omega)).trans rfl)
  · exact h2 a ha i 1 _ ((pCells_at r f n i hi 1 (by omega)).trans rfl)
  · exact h2 a ha i 2 _ ((pCells_at r f n i hi 2 (by omega)).trans rfl)
  · exact h2 a ha i 3 _ ((pCells_at r f n i hi 3 (by omega)).trans rfl)



set_option maxRecDepth 100000 in
set_option maxHeartbeats 4000000 in
theorem ForceD : ∀ (h : Nat) (B : Nat → Prop) (W : World) (v : Value) (t : Raw) (r' : Nat), r' < 4 → KD B h W v t → dimsOk t → pl t ≤ 2000 →
    Calls Tryz.prog 44 #[v, .int .i64 r'] W fun e w' => ∃ v', e = .returned v' ∧ KD (Fr W w') h w' v' (forceT r' t) ∧ W.grownBy w' none := by
  intro h
  induction h with
  | zero => intro B W v t r' _ hk; exact hk.elim
  | succ h ih =>
    intro B W v t r' hr' hk hd hp
    obtain ⟨k, d, n, f, kids⟩ := t
    obtain ⟨hd0, hd4, hdk⟩ := hd
    obtain ⟨r, rfl⟩ := Int.eq_ofNat_of_zero_le hd0
    obtain ⟨p, cap, q, c2, rfl, hf, h1, h2, h3, hm1, hm2, hm3, hm4, _⟩ := hk
    have hr : r < 4 := by omega
    unfold pl at hp
    simp only [Int.toNat_natCast] at hp
    have hw := widN_le r hr
    have hw' := widN_le r' hr'
    have hn : n ≤ 100000 := by
      have h1 : n / widN r ≤ 2000 := by omega
      have h2 := Nat.mod_add_div n (widN r)
      have h3 := Nat.mod_lt n (by omega : 0 < widN r)
      have h4 : widN r * (n / widN r) ≤ 4 * 2000 := Nat.mul_le_mul hw.2 h1
      omega
    have hL : n / widN r ≤ 2000 := by omega
    have hpk : pls kids ≤ 2000 := Nat.le_trans (Nat.le_add_left _ _) hp
    have HPl := Lib.hid (fun w (g : W.grownBy w none) => Places_any' r hr p n cap f hn w (hf.mono g))
    have HNu := Lib.hid (fun w pq c (hpr : PRow w pq (n / widN r) (plX r f) (plY r f) (plZ r f) (plM r f)) => Nums_any r' hr' pq (n / widN r) c _ _ _ _ (by omega) w hpr)
    have HFv : Hid (∀ (w0 w : World) (p : Option Addr) (cc : Nat), AppV 26 1 w0.heap.size w0 (.slice none 0 0) w (.slice p (n / widN r * widN r') cc) (n / widN r * widN r') (nTo r' (plX r f) (plY r f) (plZ r f) (plM r f) (n / widN r)) → FVal w p (n / widN r * widN r') (fF r r' f)) :=
      fun w0 w p cc hh => hh.fval (fun i => fF_lt hf r r' i) (fun i hi => nTo_at r r' hr' f (n / widN r) i hi)
    have HKid := Lib.hid (fun w (g : W.grownBy w none) a (ha : q = some a) j t (hj : kids[j]? = some t) => (by
      obtain ⟨c0, c1, c2, c3, k0, k1, k2, k3, k4⟩ := hm4 a ha j t hj
      exact ⟨c0, c1, c2, c3, k0.mono g, g.cell k1 (by simp), g.cell k2 (by simp), g.cell k3 (by simp), g.cell k4 (by simp)⟩ : ∃ c0 c1 c2 c3, KD B h w (.agg #[c0, c1, c2, c3]) t ∧ w.cell? (a.add (j * 4)) = some c0 ∧ w.cell? ⟨(a.add (j * 4)).block, (a.add (j * 4)).off + 1, none⟩ = some c1 ∧ w.cell? ⟨(a.add (j * 4)).block, (a.add (j * 4)).off + 2, none⟩ = some c2 ∧ w.cell? ⟨(a.add (j * 4)).block, (a.add (j * 4)).off + 3, none⟩ = some c3))
    have HIH := Lib.hid (fun w v j t (hj : kids[j]? = some t) (hk : KD B h w v t) => ih B w v t r' hr' hk (dimsOks_mem kids hdk j t hj) (by have := pls_mem kids j t hj; omega))
    have HSn := Lib.hid (fun j t (hj : kids[j]? = some t) => (by
      obtain ⟨hlt, rfl⟩ := List.getElem?_eq_some_iff.1 hj
      rw [List.take_succ_eq_append_getElem hlt, forceTs_snoc] : forceTs r' (kids.take (j + 1)) = forceTs r' (kids.take j) ++ [forceT r' t]))
    have hml : kids.length ≤ 2000 := by have := pls_len kids; omega
    have HG : Hid (∀ j, j < kids.length → ∃ t, kids[j]? = some t) := fun j hj => ⟨kids[j]'(by omega), List.getElem?_eq_getElem (by omega)⟩
    have HLn : Hid (∀ j, j ≤ kids.length → (forceTs r' (kids.take j)).length = j) := fun j hj => by rw [forceTs_len, List.length_take]; omega
    have HEnd : forceT r' (.mk k r n f kids) = .mk k r' (n / widN r * widN r') (fF r r' f) (forceTs r' (kids.take kids.length)) := by rw [List.take_length]; unfold forceT; simp only [Int.toNat_natCast]
    have hqn := Lib.hid hm3
    rw [HEnd]
    generalize n / widN r = L at HPl HNu HFv hL hp ⊢
    generalize kids.length = m at HG HLn hml hm1 ⊢
    obtain ⟨N, hN⟩ : ∃ N, N = L * widN r' := ⟨_, rfl⟩
    rw [← hN] at HNu HFv ⊢
    have hNle : N ≤ 8000 := by rw [hN]; exact Nat.mul_le_mul hL hw'.2
    clear hm4 hm3 ih hf hdk HEnd hN hd0 hd4
    go_enter Tryz.func44, Tryz.ntmps44
    have HB3 := W3_grown W (.int .i64 k) (.int .i64 r) (.slice p n cap) (.slice q m c2) k r' 33
    have HPre := Lib.hid (fun w g => Pre.of W w (.int .i64 k) (.int .i64 r) (.slice p n cap) (.slice q m c2) k r' 33 g)
    go_wp2_with (first
      | (go_at_call 91; refine (HPl.out _ HB3).mono ?_; rintro e w1 ⟨v1, rfl, hv1⟩; obtain ⟨pp, cc, rfl⟩ := hv1.slice))
    have G1 := gt_trans HB3 hv1.grown0 (.inl rfl)
    have hs1 : W.heap.size + 3 ≤ w1.heap.size := by rw [← W3_size W (.int .i64 k) (.int .i64 r) (.slice p n cap) (.slice q m c2) k r' 33]; exact hv1.grown0.size
    refine (HNu.out _ _ _ hv1.prow).mono ?_
    rintro e w2 ⟨v2, rfl, hv2⟩
    obtain ⟨pn, cn, rfl⟩ := hv2.slice
    have hfn := HFv.out _ _ _ _ hv2
    obtain ⟨pn', cn', e9, hc1, hc2, hc3, hob⟩ := own_form hv2.own
    obtain ⟨rfl, rfl⟩ : pn = pn' ∧ cn = cn' := by injection e9 with e9 e10 e11; exact ⟨e9, e11⟩
    have hnlt := hv2.own.lt
    have hpre := HPre.out w2 (gt_trans hv1.grown0 hv2.grown0 (.inl rfl))
    have I0 := Lib.hid (hpre.start h hfn hc1 hc2 hc3 (fun a ha => by have := hnlt _ (hob a ha); omega))
    obtain ⟨_, _, a0, a1, a2, a3, o0, o1, o2, o3, of_, _⟩ := hpre
    have of2 := of_ 2
    have HO : Hid (∀ w', (w2.setCell ⟨W.heap.size + 1 + 1, 2, none⟩ (.slice pn N cn)).grownBy w' none → True) := fun _ _ => trivial
    clear hnlt hob hc1 hc2 hc3 hfn hv2 hv1 HPre HFv of_ e9
    go_wp2_with fail
    clear a0 a1 a2 a3 o0 o1 o2 o3 of2 HO hs1 G1
    go_loopw [23] (fun i wr => ∃ (j : Nat) (x : Value) (cs : List Value), i = .int .i64 j ∧ j ≤ m ∧ OutInv W wr h k r' pn N cn (fF r r' f) x (forceTs r' (kids.take j)) cs) (fun i _ => m - (intOf i).toNat)
    case atStart => exact ⟨0, .slice none 0 0, [], rfl, by omega, by simpa [forceTs] using I0.out⟩
    case round =>
      obtain ⟨j, x, cs, rfl, hj, I⟩ := hrel
      rename World => wr
      clear I0
      by_cases hjm : j < m
      · obtain ⟨t, ht⟩ := HG.out j hjm
        obtain ⟨a, rfl⟩ : ∃ a, q = some a := by
          cases q with
          | none => have := hqn.out rfl; omega
          | some a => exact ⟨a, rfl⟩
        obtain ⟨c0, c1, c2, c3, kk, q0, q1, q2, q3⟩ := HKid.out wr I.g a rfl j t ht
        obtain ⟨k1, d1, n1, f1, kids1, p1, cap1, q1', cq1, _, rfl, rfl, rfl, rfl⟩ := kk.form4
        generalize kids1.length = m1 at kk q3
        have HK5 := Lib.hid (fun w (g : wr.grownBy w none) => HIH.out w _ j t ht (kk.mono g))
        have hSn := Lib.hid (HSn.out j t ht)
        have hLn := Lib.hid (HLn.out j (by omega))
        obtain ⟨px, cx, rfl, _⟩ := own_form I.kr.1
        have hle := hLn.out
        have HI := Lib.hid (fun w (g : wr.grownBy w none) => I.kept g)
        have hxl : (forceTs r' (kids.take j)).length = j := hLn.out
        rw [hxl] at HI
        have HX : Hid (∀ w, wr.grownBy w none → w.cell? ⟨W.heap.size + 1 + 1, 3, none⟩ = some (.slice px j cx) ∧ w.frozen? ⟨W.heap.size + 1 + 1, 3, none⟩ = false) := fun w g => ⟨(HI.out w g).o3, (HI.out w g).of_ 3⟩
        have HOw : Hid (∀ w, wr.grownBy w none → w.ownsRow (W.heap.size + 3) 33 4 (.slice px j cx) j cs) := fun w g => by
          have hh := (HI.out w g).kr.1
          rw [hLn.out] at hh
          exact hh
        have HX7 : Hid (∀ w6 w7, wr.grownBy w6 none → w6.grownBy w7 (Value.slice px j cx).ownBlock → w7.cell? ⟨W.heap.size + 1 + 1, 3, none⟩ = some (.slice px j cx) ∧ w7.frozen? ⟨W.heap.size + 1 + 1, 3, none⟩ = false) := fun w6 w7 g g' => by
          have hi := HI.out w6 g
          have hne : some (W.heap.size + 1 + 1) ≠ (Value.slice px j cx).ownBlock := fun e => by have := (hi.kr.1.lt _ e.symm).1; omega
          exact ⟨g'.cell hi.o3 hne, by rw [World.frozen?_of_block (g'.block (W.heap.size + 1 + 1) (by have := hi.big; omega) hne)]; exact hi.of_ 3⟩
        have HSnoc : Hid (∀ (w1 w2 w3 w4 : World) (d0 d1 d2 d3 : Value) (gg cap : Nat), wr.grownBy w1 none → w1.grownBy w2 none → w2.grownBy w3 none → KD (Fr w1 w2) h w2 (.agg #[d0, d1, d2, d3]) (forceT r' t) → w4.ownsRow (W.heap.size + 3) 33 4 (.slice (some ⟨gg, 0, none⟩) (j + 1) cap) (j + 1) (cs ++ [d0, d1, d2, d3]) → w3.grownBy w4 (Value.slice px j cx).ownBlock → ((Value.slice px j cx).ownBlock = some gg ∨ gg = w3.heap.size) →
            OutInv W (w4.setCell ⟨W.heap.size + 1 + 1, 3, none⟩ (.slice (some ⟨gg, 0, none⟩) (j + 1) cap)) h k r' pn N cn (fF r r' f) (.slice (some ⟨gg, 0, none⟩) (j + 1) cap) (forceTs r' (kids.take (j + 1))) (cs ++ [d0, d1, d2, d3])) := fun w1 w2 w3 w4 d0 d1 d2 d3 gg cap g1 g2 g3 hk hown g4 hg => by
          have hh := (HI.out wr (gt_refl _ _)).snoc g1 g2 g3 hk (by rw [hLn.out]; exact hown) g4 hg
          rw [hLn.out, ← hSn.out] at hh
          exact hh
        have hbig := I.big
        clear kk ht I hle hxl
        go_wp2_with fail
        have G5 := World.grownBy_alloc wr (.cells #[.int .i64 k1, .int .i64 d1, .slice p1 n1 cap1, .slice q1' m1 cq1] 33) none
        obtain ⟨y3, yf⟩ := HX.out _ (gt_drew_r G5)
        have HG5 := Lib.hid (gt_drew_r G5)
        clear G5
        go_region_law (first
          | (go_simp; go_at_call 44; refine (HK5.out _ HG5.out).mono ?_; rintro e w5 ⟨v5, rfl, hk5, hg5⟩; obtain ⟨k6, d6, n6, f6, kids6, p6, cap6, q6, cq6, _, rfl⟩ := hk5.form; have G6 := gt_trans HG5.out hg5 (.inl rfl); obtain ⟨z3, zf⟩ := HX.out _ G6; have hz5 : W.heap.size + 1 + 1 < w5.heap.size := by have := G6.size; omega)
          | (refine step_cells (size := 4) (n := j) (xs := cs) (base := W.heap.size + 3) (W := w5) rfl _ _ _ rfl Tryz.underlying31 (.agg #[.int .i64 0, .int .i64 0, .slice none 0 0, .slice none 0 0]) 64 infoG rfl (Nat.succ_pos 3) rfl rfl rfl _ ?_ ?_ ?_ (Nat.succ_pos 0) ?_ ?_ ?_ ?_; exact HOw.out _ (gt_alloc_r G6 _); rfl; exact one4 _ _ _ _ _ _ _ _; (have := G6.size; simp; omega); omega; omega; intro gg cap7 w7 hown7 hg7 hat7; obtain ⟨u3, uf⟩ := HX7.out _ _ (gt_alloc_r G6 _) hg7))
        all_goals
          have HFin := Lib.hid (HSnoc.out _ _ _ _ _ _ _ _ _ _ HG5.out hg5 (World.grownBy_alloc _ _ _) hk5 hown7 hg7 hat7)
          clear hown7 hg7 hat7 hk5 u3 uf z3 zf y3 yf
          go_wp2_with fail
          exact ⟨⟨j + 1, _, _, by go_num, by omega, HFin.out⟩, by simp [intOf]; omega⟩
      · obtain rfl : j = m := by omega
        obtain ⟨px, cx, rfl, _⟩ := own_form I.kr.1
        have hxl : (forceTs r' (kids.take j)).length = j := HLn.out j (by omega)
        rw [hxl] at I
        have o0 := I.o0
        have o1 := I.o1
        have o2 := I.o2
        have o3 := I.o3
        have r0 := I.r0
        have r1 := I.r1
        have r2 := I.r2
        have r3 := I.r3
        have rf0 := I.rf 0
        have rf1 := I.rf 1
        have rf2 := I.rf 2
        have rf3 := I.rf 3
        have HEnd := Lib.hid I.end_
        clear I
        go_wp2_with fail
        go_wp2_with fail
        refine bodyPost_ret (by simp [results, Tryz.results44, go_sem, r0, r1, r2, r3]; try rfl) rfl ?_
        exact ⟨_, rfl, HEnd.out.1, HEnd.out.2⟩
end Go.Proofs.YtlpaecafpbbbkaaGreatDoor
namespace Go.Proofs.YtlpaecafpbbbkaaGreatDoor
open Go.RowKit

def fCells (f : Nat → Nat) (k : Nat) : List Value := (List.range k).map fun i => .float .f64 (f i)
set_option maxRecDepth 100000 in
set_option maxHeartbeats 1000000 in
theorem Leaf_any (k : Int) (b : Bool) (h : ((k = 1 ∨ k = 2) ∧ b = true) ∨ (¬ k = 1 ∧ ¬ k = 2 ∧ b = false)) (w : World) : Calls Tryz.prog 41 #[.int .i64 k] w fun e w' => e = .returned (.bool b) ∧ w' = w := by
  rcases h with ⟨rfl | rfl, rfl⟩ | ⟨h1, h2, rfl⟩
  · go_enter Tryz.func41, Tryz.ntmps41
    go_wp2_with fail
    go_ret
    exact ⟨rfl, rfl⟩
  · go_enter Tryz.func41, Tryz.ntmps41
    go_wp2_with fail
    go_ret
    exact ⟨rfl, rfl⟩
  · have e1 : (k == 1) = false := by simpa using h1
    have e2 : (k == 2) = false := by simpa using h2
    go_enter Tryz.func41, Tryz.ntmps41
    go_wp2_with fail
    go_ret
    exact ⟨rfl, rfl⟩

set_option maxRecDepth 100000 in
set_option maxHeartbeats 2000000 in
theorem NewLeaf_1 (h : Nat) (d : Int) (p q : Option Addr) (n cap m c2 : Nat) (f : Nat → Nat) (hn : n ≤ 2000) (hcap : n ≤ cap) (hnil : p = none → cap = 0) (W : World) (hf : FVal W p n f) :
    Calls Tryz.prog 22 #[.agg #[.int .i64 1, .int .i64 d, .slice p n cap, .slice q m c2]] W fun e w' => ∃ v', e = .returned v' ∧ KD (Fr W w') (h + 1) w' v' (.mk 1 (d % 4) (min (n / widN (d % 4).toNat) 1 * widN (d % 4).toNat) f []) ∧ W.grownBy w' none := by
  obtain ⟨r, hr⟩ : ∃ r : Nat, d % 4 = r := ⟨(d % 4).toNat, by omega⟩
  have hd3 : bits .and .i64 d 3 = (r : Int) := by rw [i64_and3, hr]
  have hrt : (d % 4).toNat = r := by rw [hr]; rfl
  rw [hrt, hr]
  have hk4 : 2 ≤ widN r ∧ widN r ≤ 4 := by unfold widN; omega
  have HSR : Hid (∀ N, N ≤ n → ∀ w', W.grownBy w' none → (Value.slice p N cap = .slice none 0 0 ∧ N = 0 ∨ ∃ ad c, Value.slice p N cap = .slice (some ad) N c ∧ ∀ j u, (fCells f N)[j]? = some u → w'.cell? (ad.add j) = some u)) := by
    intro N hN w' g
    cases p with
    | none =>
      have := hnil rfl
      subst this
      obtain rfl : N = 0 := by omega
      exact .inl ⟨rfl, rfl⟩
    | some a =>
      refine .inr ⟨a, cap, rfl, fun j u hj => ?_⟩
      by_cases hjN : j < N
      · simp [fCells, hjN] at hj
        subst hj
        exact g.cell (hf.at_ a rfl j (by omega)) (by simp)
      · simp [fCells, hjN] at hj
  have HWd := Lib.hid (fun w => Width_any r (by omega) w)
  have HLf := Lib.hid (fun w => Leaf_any 1 true (.inl ⟨by omega, rfl⟩) w)
  have HFl := Lib.hid hf.lt
  revert HWd
  generalize widN r = k at hk4 ⊢
  intro HWd
  obtain ⟨hk2, hk4⟩ := hk4
  obtain ⟨L0, hL0⟩ : ∃ L0, L0 = n / k := ⟨_, rfl⟩
  obtain ⟨L, hL⟩ : ∃ L, L = min (n / k) 1 := ⟨_, rfl⟩
  obtain ⟨N, hN⟩ : ∃ N, N = L * k := ⟨_, rfl⟩
  have hLL : L ≤ L0 := by rw [hL, hL0]; exact Nat.min_le_left _ _
  have hNn : N ≤ n := by
    rw [hN]
    refine Nat.le_trans (Nat.mul_le_mul_right k hLL) ?_
    rw [hL0]
    exact Nat.div_mul_le_self n k
  have hLn : L0 ≤ n := by rw [hL0]; exact Nat.div_le_self _ _
  have hdiv : IntKind.i64.wrap ((n : Int) / (k : Int)) = (L0 : Int) := by
    have e : (n : Int) / (k : Int) = (L0 : Int) := by rw [hL0]; push_cast; rfl
    rw [e, IntKind.wrap_i64]; omega
  have hmul : IntKind.i64.wrap ((L : Int) * (k : Int)) = (N : Int) := by
    have e : (L : Int) * (k : Int) = (N : Int) := by rw [hN]; push_cast; rfl
    rw [e, IntKind.wrap_i64]; omega
  have hmin : min (L0 : Int) 1 = (L : Int) := by rw [hL, ← hL0]; omega
  rw [← hL, ← hN]
  have hk0 : ¬ ((k : Int) = 0) := by omega
  have hNcap : N ≤ cap := by omega

  clear hr hL hN hf hcap hnil hrt hL0
  go_enter Tryz.func22, Tryz.ntmps22
  go_wp2_with (first
    | (go_at_call 41; refine (HLf.out _).mono ?_; rintro e w' ⟨rfl, hw⟩; obtain rfl := hw.symm))
  go_quiet ((go_at_call 42; exact Calls.quiet_of_same (HWd.out _)))
  go_wp2_with fail
  have hpre := Pre.of W ((W3 W (.int .i64 1) (.int .i64 d) (.slice p n cap) (.slice q m c2) 1 r 33).drewN nq).drew (.int .i64 1) (.int .i64 d) (.slice p n cap) (.slice q m c2) 1 r 33 (gt_drew_r (gt_drewN_r (gt_refl _ _) nq))
  refine wp_region_still_tail 10 (by kernel_rfl) (by kernel_rfl) ?_
  simp only [List.take_succ_cons, List.take_zero, List.drop_succ_cons, List.drop_zero]
  change wpStill _ _ ((W3 W (.int .i64 1) (.int .i64 d) (.slice p n cap) (.slice q m c2) 1 r 33).drewN nq).drew (fun a' => wpList _ _ _ _ a' ((W3 W (.int .i64 1) (.int .i64 d) (.slice p n cap) (.slice q m c2) 1 r 33).drewN nq).drew) _ _
  revert hpre
  generalize ((W3 W (.int .i64 1) (.int .i64 d) (.slice p n cap) (.slice q m c2) 1 r 33).drewN nq).drew = W4
  intro hpre
  have HPk : Hid (∀ w1, W4.grownBy w1 none → Pre W w1 (.int .i64 1) (.int .i64 d) (.slice p n cap) (.slice q m c2) 1 r) := fun w1 g => hpre.kept g
  have HG4 := hpre.g
  have a2 := hpre.a2
  have o1 := hpre.o1
  have o2 := hpre.o2
  have hbig := hpre.big
  clear hpre
  repeat still_step
  still_call (HWd.out _)
  repeat still_step
  refine wpStill_nil ?_
  go_wp2_with (at_builtin; refine app_src rfl _ _ _ rfl Tryz.underlying30 (.float .f64 0) 8 infoF rfl (by omega) (AppV.nil W4 26 1 W4.heap.size) rfl _ rfl N (fCells f N) (by simp [fCells]) (by simp [fCells, Value.oneCell']) (HSR.out N hNn _ HG4) (Nat.le_refl _) (by omega) (by omega) ?_; intro v5 w1 H1; simp only [Nat.zero_add, List.nil_append] at H1; obtain ⟨p5, c5, rfl⟩ := H1.slice; have hq := HPk.out _ H1.grown0; clear o1 o2 a2; obtain ⟨_, _, _, _, _, _, o0, o1, o2, o3, of_, r0, r1, r2, r3, rf⟩ := hq; have of2 := of_ 2; have rf0 := rf 0; have rf1 := rf 1; have rf2 := rf 2; have rf3 := rf 3; clear of_ rf)
  obtain ⟨p5', c5', e9, h1, h2, h3, hob⟩ := own_form H1.own
  obtain ⟨rfl, rfl⟩ : p5 = p5' ∧ c5 = c5' := by injection e9 with e9 e10 e11; exact ⟨e9, e11⟩
  have hlt := H1.own.lt
  have hst := (HPk.out _ H1.grown0).start h (H1.fval HFl.out (fun i hi => by simp [fCells, hi])) h1 h2 h3 (fun a ha => by have := hlt _ (hob a ha); omega)
  have hend := hst.end_
  clear hst hlt hob e9
  refine bodyPost_ret (by simp [results, Tryz.results22, go_sem, r0, r1, r2, r3]; try rfl) rfl ?_
  exact ⟨_, rfl, hend.1, hend.2⟩

set_option maxRecDepth 100000 in
set_option maxHeartbeats 2000000 in
theorem NewLeaf_2 (h : Nat) (d : Int) (p q : Option Addr) (n cap m c2 : Nat) (f : Nat → Nat) (hn : n ≤ 2000) (hcap : n ≤ cap) (hnil : p = none → cap = 0) (W : World) (hf : FVal W p n f) :
    Calls Tryz.prog 22 #[.agg #[.int .i64 2, .int .i64 d, .slice p n cap, .slice q m c2]] W fun e w' => ∃ v', e = .returned v' ∧ KD (Fr W w') (h + 1) w' v' (.mk 2 (d % 4) (n / widN (d % 4).toNat * widN (d % 4).toNat) f []) ∧ W.grownBy w' none := by
  obtain ⟨r, hr⟩ : ∃ r : Nat, d % 4 = r := ⟨(d % 4).toNat, by omega⟩
  have hd3 : bits .and .i64 d 3 = (r : Int) := by rw [i64_and3, hr]
  have hrt : (d % 4).toNat = r := by rw [hr]; rfl
  rw [hrt, hr]
  have hk4 : 2 ≤ widN r ∧ widN r ≤ 4 := by unfold widN; omega
  have HSR : Hid (∀ N, N ≤ n → ∀ w', W.grownBy w' none → (Value.slice p N cap = .slice none 0 0 ∧ N = 0 ∨ ∃ ad c, Value.slice p N cap = .slice (some ad) N c ∧ ∀ j u, (fCells f N)[j]? = some u → w'.cell? (ad.add j) = some u)) := by
    intro N hN w' g
    cases p with
    | none =>
      have := hnil rfl
      subst this
      obtain rfl : N = 0 := by omega
      exact .inl ⟨rfl, rfl⟩
    | some a =>
      refine .inr ⟨a, cap, rfl, fun j u hj => ?_⟩
      by_cases hjN : j < N
      · simp [fCells, hjN] at hj
        subst hj
        exact g.cell (hf.at_ a rfl j (by omega)) (by simp)
      · simp [fCells, hjN] at hj
  have HWd := Lib.hid (fun w => Width_any r (by omega) w)
  have HLf := Lib.hid (fun w => Leaf_any 2 true (.inl ⟨by omega, rfl⟩) w)
  have HFl := Lib.hid hf.lt
  revert HWd
  generalize widN r = k at hk4 ⊢
  intro HWd
  obtain ⟨hk2, hk4⟩ := hk4
  obtain ⟨L0, hL0⟩ : ∃ L0, L0 = n / k := ⟨_, rfl⟩
  obtain ⟨L, hL⟩ : ∃ L, L = n / k := ⟨_, rfl⟩
  obtain ⟨N, hN⟩ : ∃ N, N = L * k := ⟨_, rfl⟩
  have hLL : L ≤ L0 := by rw [hL, hL0]; exact Nat.le_refl _
  have hNn : N ≤ n := by
    rw [hN]
    refine Nat.le_trans (Nat.mul_le_mul_right k hLL) ?_
    rw [hL0]
    exact Nat.div_mul_le_self n k
  have hLn : L0 ≤ n := by rw [hL0]; exact Nat.div_le_self _ _
  have hdiv : IntKind.i64.wrap ((n : Int) / (k : Int)) = (L0 : Int) := by
    have e : (n : Int) / (k : Int) = (L0 : Int) := by rw [hL0]; push_cast; rfl
    rw [e, IntKind.wrap_i64]; omega
  have hmul : IntKind.i64.wrap ((L : Int) * (k : Int)) = (N : Int) := by
    have e : (L : Int) * (k : Int) = (N : Int) := by rw [hN]; push_cast; rfl
    rw [e, IntKind.wrap_i64]; omega
  rw [← hL, ← hN]
  have hk0 : ¬ ((k : Int) = 0) := by omega
  have hNcap : N ≤ cap := by omega
  obtain rfl : L = L0 := by rw [hL, hL0]
  clear hr hL hN hf hcap hnil hrt hL0
  go_enter Tryz.func22, Tryz.ntmps22
  go_wp2_with (first
    | (go_at_call 41; refine (HLf.out _).mono ?_; rintro e w' ⟨rfl, hw⟩; obtain rfl := hw.symm))
  go_quiet ((go_at_call 42; exact Calls.quiet_of_same (HWd.out _)))
  go_wp2_with fail
  have hpre := Pre.of W ((W3 W (.int .i64 2) (.int .i64 d) (.slice p n cap) (.slice q m c2) 2 r 33).drewN nq).drew (.int .i64 2) (.int .i64 d) (.slice p n cap) (.slice q m c2) 2 r 33 (gt_drew_r (gt_drewN_r (gt_refl _ _) nq))
  refine wp_region_still_tail 10 (by kernel_rfl) (by kernel_rfl) ?_
  simp only [List.take_succ_cons, List.take_zero, List.drop_succ_cons, List.drop_zero]
  change wpStill _ _ ((W3 W (.int .i64 2) (.int .i64 d) (.slice p n cap) (.slice q m c2) 2 r 33).drewN nq).drew (fun a' => wpList _ _ _ _ a' ((W3 W (.int .i64 2) (.int .i64 d) (.slice p n cap) (.slice q m c2) 2 r 33).drewN nq).drew) _ _
  revert hpre
  generalize ((W3 W (.int .i64 2) (.int .i64 d) (.slice p n cap) (.slice q m c2) 2 r 33).drewN nq).drew = W4
  intro hpre
  have HPk : Hid (∀ w1, W4.grownBy w1 none → Pre W w1 (.int .i64 2) (.int .i64 d) (.slice p n cap) (.slice q m c2) 2 r) := fun w1 g => hpre.kept g
  have HG4 := hpre.g
  have a2 := hpre.a2
  have o1 := hpre.o1
  have o2 := hpre.o2
  have hbig := hpre.big
  clear hpre
  repeat still_step
  still_call (HWd.out _)
  repeat still_step
  refine wpStill_nil ?_
  go_wp2_with (at_builtin; refine app_src rfl _ _ _ rfl Tryz.underlying30 (.float .f64 0) 8 infoF rfl (by omega) (AppV.nil W4 26 1 W4.heap.size) rfl _ rfl N (fCells f N) (by simp [fCells]) (by simp [fCells, Value.oneCell']) (HSR.out N hNn _ HG4) (Nat.le_refl _) (by omega) (by omega) ?_; intro v5 w1 H1; simp only [Nat.zero_add, List.nil_append] at H1; obtain ⟨p5, c5, rfl⟩ := H1.slice; have hq := HPk.out _ H1.grown0; clear o1 o2 a2; obtain ⟨_, _, _, _, _, _, o0, o1, o2, o3, of_, r0, r1, r2, r3, rf⟩ := hq; have of2 := of_ 2; have rf0 := rf 0; have rf1 := rf 1; have rf2 := rf 2; have rf3 := rf 3; clear of_ rf)
  obtain ⟨p5', c5', e9, h1, h2, h3, hob⟩ := own_form H1.own
  obtain ⟨rfl, rfl⟩ : p5 = p5' ∧ c5 = c5' := by injection e9 with e9 e10 e11; exact ⟨e9, e11⟩
  have hlt := H1.own.lt
  have hst := (HPk.out _ H1.grown0).start h (H1.fval HFl.out (fun i hi => by simp [fCells, hi])) h1 h2 h3 (fun a ha => by have := hlt _ (hob a ha); omega)
  have hend := hst.end_
  clear hst hlt hob e9
  refine bodyPost_ret (by simp [results, Tryz.results22, go_sem, r0, r1, r2, r3]; try rfl) rfl ?_
  exact ⟨_, rfl, hend.1, hend.2⟩
end Go.Proofs.YtlpaecafpbbbkaaGreatDoor
namespace Go.Proofs.YtlpaecafpbbbkaaGreatDoor
open Go.RowKit

theorem dimsOks_new : ∀ ts : List Raw, dimsOks (newTs ts)
  | [] => trivial
  | t :: ts => by unfold newTs dimsOks; exact ⟨dims_new t, dimsOks_new ts⟩
theorem dimsOks_filter (p : Raw → Bool) : ∀ ts : List Raw, dimsOks ts → dimsOks (ts.filter p)
  | [], h => h
  | t :: ts, h => by
    have h2 := dimsOks_filter p ts h.2
    by_cases hp : p t = true
    · rw [List.filter_cons_of_pos hp]; exact ⟨h.1, h2⟩
    · rw [List.filter_cons_of_neg hp]; exact h2
theorem pls_take : ∀ (ts : List Raw) (j : Nat), pls (ts.take j) ≤ pls ts
  | [], j => by simp
  | t :: ts, 0 => by simp [pls]
  | t :: ts, j + 1 => by have := pls_take ts j; simp only [List.take_succ_cons, pls]; omega
theorem and_small (a b : Nat) (ha : a < 4) (hb : b < 4) : bits .and .i64 (a : Int) (b : Int) = ((a &&& b : Nat) : Int) := by
  rcases (by omega : a = 0 ∨ a = 1 ∨ a = 2 ∨ a = 3) with rfl | rfl | rfl | rfl <;> rcases (by omega : b = 0 ∨ b = 1 ∨ b = 2 ∨ b = 3) with rfl | rfl | rfl | rfl <;> kernel_rfl

set_option maxRecDepth 100000 in
set_option maxHeartbeats 1000000 in
theorem KidOf_any (k : Int) (w : World) : Calls Tryz.prog 43 #[.int .i64 k] w fun e w' => e = .returned (.int .i64 (kidOf k)) ∧ w' = w := by
  unfold kidOf
  by_cases h4 : k = 4
  · subst h4
    go_enter Tryz.func43, Tryz.ntmps43
    go_wp2_with fail
    go_ret
    exact ⟨rfl, rfl⟩
  · by_cases h3 : k = 3
    · subst h3
      go_enter Tryz.func43, Tryz.ntmps43
      go_wp2_with fail
      go_ret
      exact ⟨rfl, rfl⟩
    · by_cases h5 : k = 5
      · subst h5
        go_enter Tryz.func43, Tryz.ntmps43
        go_wp2_with fail
        go_ret
        exact ⟨rfl, rfl⟩
      · by_cases h6 : k = 6
        · subst h6
          go_enter Tryz.func43, Tryz.ntmps43
          go_wp2_with fail
          go_ret
          exact ⟨rfl, rfl⟩
        · rw [if_neg h4, if_neg (by omega), if_neg h6]
          have e4 : (k == 4) = false := by simpa using h4
          have e3 : (k == 3) = false := by simpa using h3
          have e5 : (k == 5) = false := by simpa using h5
          have e6 : (k == 6) = false := by simpa using h6
          clear h4 h3 h5 h6
          go_enter Tryz.func43, Tryz.ntmps43
          go_wp2_with fail
          go_ret
          exact ⟨rfl, rfl⟩
end Go.Proofs.YtlpaecafpbbbkaaGreatDoor
