/- A line of the package: made of a geometry; the places of its row. -/
import Derived.Test.YthcjnadceambgaaGreatDoorJ
import Derived.Deep.RegionWith
import Derived.Deep.RegionHeld3
namespace Go.Proofs.YthcjnadceambgaaGreatDoor
open Go.RowKit

set_option maxRecDepth 100000 in
set_option maxHeartbeats 400000 in
theorem NewLineString_any (x y : Value) (hx : ∃ k n, x = .int k n) (hy : ∃ p n c, y = .slice p n c) (w : World) :
    Calls Tryz.prog 55 #[.agg #[x, y]] w fun e w' => e = .returned (.agg #[x, y]) ∧ w.grownBy w' none := by
  obtain ⟨k, n, rfl⟩ := hx
  obtain ⟨p, n, c, rfl⟩ := hy
  go_enter Tryz.func55, Tryz.ntmps55
  go_wp2_with fail
  go_returns
  exact ⟨rfl, gt_alloc_r (World.grownBy_alloc _ _ _) _⟩

/-- A value that holds a row of numbers of a type, n of them, as in f. -/
def SeqIs (W : World) (v : Value) (r n : Nat) (f : Nat → Nat) : Prop := ∃ a, v = .agg #[.int .u8 r, .slice (some a) n n] ∧ FVal W (some a) n f ∧ a.block < W.heap.size
theorem SeqIs.mono {W W' : World} {v : Value} {r n : Nat} {f : Nat → Nat} (h : SeqIs W v r n f) (hg : W.grownBy W' none) : SeqIs W' v r n f := by
  obtain ⟨a, e, hf, hb⟩ := h; exact ⟨a, e, hf.mono hg, Nat.lt_of_lt_of_le hb hg.size⟩

set_option maxRecDepth 100000 in
set_option maxHeartbeats 1000000 in
theorem line_any (d : Int) (r : Nat) (hr : d % 4 = r) (p q : Option Addr) (n cap m c2 : Nat) (f : Nat → Nat) (hn : n ≤ 2000) (W : World) (hf : FVal W p n f) :
    Calls Tryz.prog 24 #[.agg #[.int .i64 2, .int .i64 d, .slice p n cap, .slice q m c2]] W fun e w' => ∃ v, e = .returned v ∧ SeqIs w' v r (n - n % widN r) f ∧ W.grownBy w' none := by
  have HS := Lib.hid (fun w (g : W.grownBy w none) => sequence_any d r hr p n cap f hn w (hf.mono g))
  generalize n - n % widN r = N at HS ⊢
  clear hr hf
  have HG := Lib.hid (gt_alloc_r (World.grownBy_alloc W (.cells #[.int .i64 2, .int .i64 d, .slice p n cap, .slice q m c2] 25) none) (.cells #[.int .u8 0, .slice none 0 0] 45))
  have HC : Hid (∀ w, ((W.alloc (.cells #[.int .i64 2, .int .i64 d, .slice p n cap, .slice q m c2] 25)).alloc (.cells #[.int .u8 0, .slice none 0 0] 45)).grownBy w none → w.cell? ⟨W.heap.size + 1, 0, none⟩ = some (.int .u8 0) ∧ w.cell? ⟨W.heap.size + 1, 1, none⟩ = some (.slice none 0 0) ∧ w.frozen? ⟨W.heap.size + 1, 0, none⟩ = false ∧ w.frozen? ⟨W.heap.size + 1, 1, none⟩ = false) := fun w g => by
    have hb := g.block (W.heap.size + 1) (by simp) (by simp)
    refine ⟨g.cell (by simp) (by simp), g.cell (by simp) (by simp), ?_, ?_⟩ <;> (rw [World.frozen?_of_block hb]; simp)
  go_enter Tryz.func24, Tryz.ntmps24
  go_wp2_with (first
    | (go_at_call 56; refine (HS.out _ HG.out).mono ?_; rintro e w' ⟨a, rfl, hv, ha, hbl, hg1⟩)
    | (go_at_call 55; refine (NewLineString_any _ _ ⟨_, _, rfl⟩ ⟨_, _, _, rfl⟩ _).mono ?_; rintro e w'' ⟨rfl, hg2⟩; obtain ⟨x0, x1, x2, x3⟩ := HC.out _ (gt_trans hg1 hg2 (.inl rfl))))
  have ha' : W.heap.size + 2 ≤ a.block := by simpa using ha
  have hgr := gt_set_r (gt_set_r (gt_trans (gt_trans HG.out hg1 (.inl rfl)) hg2 (.inl rfl)) ⟨W.heap.size + 1, 0, none⟩ (.int .u8 r) (Nat.le_succ _)) ⟨W.heap.size + 1, 1, none⟩ (.slice (some a) N N) (Nat.le_succ _)
  have hv2 := ((hv.mono hg2).set (q := ⟨W.heap.size + 1, 0, none⟩) (by show a.block ≠ W.heap.size + 1; omega) (.int .u8 r)).set (q := ⟨W.heap.size + 1, 1, none⟩) (by show a.block ≠ W.heap.size + 1; omega) (.slice (some a) N N)
  have z0 := World.cell?_setCell_same (w := w'') (v := .int .u8 r) (h := x0)
  have z1 : (w''.setCell ⟨W.heap.size + 1, 0, none⟩ (.int .u8 r)).cell? ⟨W.heap.size + 1, 1, none⟩ = some (.slice none 0 0) := (World.cell?_setCell_other (w := w'') (a := ⟨W.heap.size + 1, 0, none⟩) (b := ⟨W.heap.size + 1, 1, none⟩) (v := .int .u8 r) (h := by simp)).trans x1
  have z2 := World.cell?_setCell_same (v := .slice (some a) N N) (h := z1)
  have hbl2 : a.block < ((w''.setCell ⟨W.heap.size + 1, 0, none⟩ (.int .u8 r)).setCell ⟨W.heap.size + 1, 1, none⟩ (.slice (some a) N N)).heap.size := by
    have h2 := hg2.size
    simp [World.setCell]
    omega
  clear hv ha hg1 hg2
  refine bodyPost_ret (by simp [results, Tryz.results24, go_sem, z0, z2]; try rfl) rfl ?_
  exact ⟨_, rfl, ⟨a, rfl, hv2, hbl2⟩, hgr⟩

set_option maxRecDepth 100000 in
set_option maxHeartbeats 400000 in
theorem Length_any (r N : Nat) (hr : r < 4) (a : Option Addr) (c : Nat) (hN : N ≤ 2000) (W : World) : Calls Tryz.prog 69 #[.agg #[.int .u8 r, .slice a N c]] W fun e w' => e = .returned (.int .i64 (N / widN r : Nat)) ∧ W.grownBy w' none := by
  obtain ⟨k, hk, hk2, hk4⟩ : ∃ k : Nat, k = widN r ∧ 2 ≤ k ∧ k ≤ 4 := ⟨widN r, rfl, by unfold widN; omega, by unfold widN; omega⟩
  have HD := Lib.hid (fun w => Dimension_any r hr w)
  rw [← hk] at HD ⊢
  clear hk
  obtain ⟨L, hL⟩ : ∃ L : Nat, L = N / k := ⟨_, rfl⟩
  have hk0 : ¬ k = 0 := by omega
  have hwr : IntKind.i64.wrap ((N : Int) / (k : Int)) = (L : Int) := by
    have e : (N : Int) / (k : Int) = (L : Int) := by rw [hL]; push_cast; rfl
    have hle : L ≤ N := by rw [hL]; exact Nat.div_le_self _ _
    rw [e, IntKind.wrap_i64]; omega
  rw [← hL]
  clear hL
  go_enter Tryz.func69, Tryz.ntmps69
  go_wp2_with fail
  go_quiet ((go_at_call 114; exact Calls.quiet_of_same ((HD.out _).mono fun e w' h => h)))
  go_wp2_with fail
  go_ret
  exact ⟨rfl, gt_drewN_r (World.grownBy_alloc _ _ _) _⟩

end Go.Proofs.YthcjnadceambgaaGreatDoor
