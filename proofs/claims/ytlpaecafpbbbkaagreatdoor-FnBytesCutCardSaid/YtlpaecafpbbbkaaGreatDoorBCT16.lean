/- The package's reader of well known binary: bytes in memory, its state, its small steps. The package's reader of well known binary: the order of bytes, numbers, the head. The package's reader of well known binary: floats, the head of a geometry. -/
import Derived.Test.YtlpaecafpbbbkaaGreatDoorShelf
import Derived.Deep.RegionHeld3
import Derived.RegionTactic
import Derived.Test.YtlpaecafpbbbkaaGreatDoorBCT2
import Derived.Test.YtlpaecafpbbbkaaGreatDoorBCT15
set_option linter.unusedVariables false
set_option linter.unusedSimpArgs false
namespace Go.Proofs.YtlpaecafpbbbkaaGreatDoor
open Go.RowKit

theorem gt_some {a b : World} (h : a.grownBy b none) (x : Nat) : a.grownBy b (some x) := gt_trans (gt_refl a (some x)) h (.inr (.inl rfl))
/-- A slice x of the bytes l, which is only read; it does not lie in block pb. -/
structure BV (W : World) (pb : Nat) (x : Value) (l : List UInt8) : Prop where
  ex : ∃ p c, x = .slice p l.length c ∧ l.length ≤ c ∧ c ≤ maxLen ∧ (p = none → c = 0) ∧ (0 < l.length → ∃ b o, p = some ⟨b, o, none⟩ ∧ b ≠ pb ∧ ∀ i u, l[i]? = some u → W.cell? ⟨b, o + i, none⟩ = some (.int .u8 u.toNat))
theorem BV.grow {W w : World} {pb : Nat} {x : Value} {l : List UInt8} (h : BV W pb x l) {r : Option Nat} (g : W.grownBy w r) (hr : r = none ∨ r = some pb) : BV w pb x l := by
  obtain ⟨p, c, e, h1, h2, h3, h4⟩ := h.ex
  refine ⟨p, c, e, h1, h2, h3, fun h0 => ?_⟩
  obtain ⟨b, o, ep, hb, hc⟩ := h4 h0
  refine ⟨b, o, ep, hb, fun i u hi => g.cell (hc i u hi) ?_⟩
  rcases hr with rfl | rfl
  · simp
  · intro e; injection e with e; exact hb e
theorem BV.drop {W : World} {pb : Nat} {p : Option Addr} {n c : Nat} {l : List UInt8} (h : BV W pb (.slice p n c) l) (k : Nat) (hk : k ≤ n) : BV W pb (sliced p k n c 1) (l.drop k) := by
  obtain ⟨p', c', e, h1, h2, h3, h4⟩ := h.ex
  injection e with e1 e2 e3
  subst e1 e2 e3
  unfold sliced
  by_cases hc : c = k
  · refine ⟨_, c - k, by rw [if_pos hc, List.length_drop], by rw [List.length_drop]; omega, by omega, fun _ => by omega, fun h0 => ?_⟩
    rw [List.length_drop] at h0
    omega
  · refine ⟨_, c - k, by rw [if_neg hc, List.length_drop], by rw [List.length_drop]; omega, by omega, fun hn => ?_, fun h0 => ?_⟩
    · cases p with
      | none => have := h3 rfl; omega
      | some a => cases hn
    · rw [List.length_drop] at h0
      obtain ⟨b, o, ep, hb, hcl⟩ := h4 (by omega)
      refine ⟨b, o + k, by rw [ep]; simp [Addr.add], hb, fun i u hi => ?_⟩
      rw [List.getElem?_drop] at hi
      rw [Nat.add_assoc]
      exact hcl _ u hi
theorem BV.cells {W : World} {pb : Nat} {p : Option Addr} {n c : Nat} {l : List UInt8} (h : BV W pb (.slice p n c) l) (h0 : 0 < l.length) : n = l.length ∧ ∃ b o, p = some ⟨b, o, none⟩ ∧ ∀ i u, l[i]? = some u → W.cell? ⟨b, o + i, none⟩ = some (.int .u8 u.toNat) := by
  obtain ⟨p', c', e, _, _, _, h4⟩ := h.ex
  injection e with e1 e2 e3
  subst e1 e2 e3
  obtain ⟨b, o, ep, _, hc⟩ := h4 h0
  exact ⟨rfl, b, o, ep, hc⟩
/-- A bound, which a world bears in its block nb as the count of cells there. -/
def bnd (V : World) (nb : Nat) : Nat := match V.heap[nb]? with
  | some (.cells xs _ _) => xs.size
  | _ => 0
/-- As BV; the bytes lie below the reader's block, and below the bound. -/
structure BZ (W : World) (pb : Nat) (x : Value) (l : List UInt8) : Prop where
  toBV : BV W pb x l
  low : ∀ b o n c, x = .slice (some ⟨b, o, none⟩) n c → 0 < l.length → b < bnd W pb ∧ b < pb
theorem BZ.ex {W : World} {pb : Nat} {x : Value} {l : List UInt8} (h : BZ W pb x l) : ∃ p c, x = .slice p l.length c ∧ l.length ≤ c ∧ c ≤ maxLen ∧ (p = none → c = 0) ∧ (0 < l.length → ∃ b o, p = some ⟨b, o, none⟩ ∧ b ≠ pb ∧ ∀ i u, l[i]? = some u → W.cell? ⟨b, o + i, none⟩ = some (.int .u8 u.toNat)) := h.toBV.ex
theorem BZ.grow {W w : World} {pb : Nat} {x : Value} {l : List UInt8} (h : BZ W pb x l) {r : Option Nat} (g : W.grownBy w r) (hr : r = none ∨ r = some pb) : BV w pb x l := h.toBV.grow g hr
theorem BZ.drop {W : World} {pb : Nat} {p : Option Addr} {n c : Nat} {l : List UInt8} (h : BZ W pb (.slice p n c) l) (k : Nat) (hk : k ≤ n) : BZ W pb (sliced p k n c 1) (l.drop k) := by
  refine ⟨h.toBV.drop k hk, fun b o n' c' e h0 => ?_⟩
  rw [List.length_drop] at h0
  obtain ⟨p', c'', e0, e2, _, _, h4⟩ := h.ex
  injection e0 with e0 e1 e3
  subst e0 e3
  have hl0 : 0 < l.length := by omega
  obtain ⟨b0, o0, ep, _⟩ := h4 hl0
  have hl := h.low b0 o0 n c (by rw [ep]) hl0
  unfold sliced at e
  injection e with e4 e5 e6
  have hck : c ≠ k := by omega
  rw [if_neg hck, ep] at e4
  unfold Addr.add at e4
  have e7 := congrArg (fun a : Option Addr => (a.map Addr.block).getD 0) e4
  have e8 : ∀ k : Nat, (if k = 0 then (⟨b0, o0, none⟩ : Addr) else ⟨b0, o0 + k, none⟩).block = b0 := fun k => by split <;> rfl
  have e9 : b0 = b := by simpa [e8] using e7
  rw [← e9]
  exact hl
theorem BZ.cells {W : World} {pb : Nat} {p : Option Addr} {n c : Nat} {l : List UInt8} (h : BZ W pb (.slice p n c) l) (h0 : 0 < l.length) : n = l.length ∧ ∃ b o, p = some ⟨b, o, none⟩ ∧ ∀ i u, l[i]? = some u → W.cell? ⟨b, o + i, none⟩ = some (.int .u8 u.toNat) := h.toBV.cells h0
/-- The reader's state in block pb of world W, which has grown from V: the bytes that are left (they lie in V), the order of bytes, whether it is the machine's. -/
structure WP (V W : World) (pb : Nat) (l : List UInt8) (o : Nat) (no : Bool) : Prop where
  g : V.grownBy W (some pb)
  blt : pb < V.heap.size
  x : ∃ x, W.cell? ⟨pb, 0, none⟩ = some x ∧ BZ V pb x l
  c1 : W.cell? ⟨pb, 1, none⟩ = some (.int .u8 o)
  c2 : W.cell? ⟨pb, 2, none⟩ = some (.bool no)
  fz : ∀ j, W.frozen? ⟨pb, j, none⟩ = false
theorem WP.lt {V W : World} {pb : Nat} {l : List UInt8} {o : Nat} {no : Bool} (h : WP V W pb l o no) : pb < W.heap.size := World.block_lt_of_cell? W _ h.c1
theorem WP.kept {V W w : World} {pb : Nat} {l : List UInt8} {o : Nat} {no : Bool} (h : WP V W pb l o no) (g : W.grownBy w none) : WP V w pb l o no := by
  have hb := g.block pb h.lt (by simp)
  obtain ⟨x, hx, hv⟩ := h.x
  exact ⟨gt_trans h.g g (.inr (.inl rfl)), h.blt, ⟨x, g.cell hx (by simp), hv⟩, g.cell h.c1 (by simp), g.cell h.c2 (by simp), fun j => by rw [World.frozen?_of_block hb]; exact h.fz j⟩
theorem WP.set {V W : World} {pb : Nat} {l l' : List UInt8} {o : Nat} {no : Bool} {x : Value} (h : WP V W pb l o no) (hx : BZ V pb x l') : WP V (W.setCell ⟨pb, 0, none⟩ x) pb l' o no ∧ W.grownBy (W.setCell ⟨pb, 0, none⟩ x) (some pb) := by
  obtain ⟨x0, h0, _⟩ := h.x
  have g := grown_set W ⟨pb, 0, none⟩ x
  refine ⟨⟨gt_trans h.g g (.inl rfl), h.blt, ⟨x, World.cell?_setCell_same (v := x) (h := h0), hx⟩, ?_, ?_, fun j => ?_⟩, g⟩
  · rw [World.cell?_setCell_other (h := by simp)]; exact h.c1
  · rw [World.cell?_setCell_other (h := by simp)]; exact h.c2
  · rw [World.frozen?_setCell]; exact h.fz j
/-- A store elsewhere, in what is newer than V. -/
theorem WP.put {V W : World} {pb : Nat} {l : List UInt8} {o : Nat} {no : Bool} (h : WP V W pb l o no) (q : Addr) (y : Value) (hq : V.heap.size ≤ q.block) : WP V (W.setCell q y) pb l o no := by
  have hne : ∀ j, q ≠ ⟨pb, j, none⟩ := fun j e => by have h1 := h.blt; rw [e] at hq; have h2 : V.heap.size ≤ pb := hq; omega
  have hne' : ∀ j, (⟨pb, j, none⟩ : Addr) ≠ q := fun j e => hne j e.symm
  obtain ⟨x0, h0, hv⟩ := h.x
  refine ⟨gt_set_r h.g _ _ hq, h.blt, ⟨x0, ?_, hv⟩, ?_, ?_, fun j => ?_⟩
  · rw [World.cell?_setCell_other (h := by first | exact hne' _ | exact hne _)]; exact h0
  · rw [World.cell?_setCell_other (h := by first | exact hne' _ | exact hne _)]; exact h.c1
  · rw [World.cell?_setCell_other (h := by first | exact hne' _ | exact hne _)]; exact h.c2
  · rw [World.frozen?_setCell]; exact h.fz j

set_option maxRecDepth 100000 in
set_option maxHeartbeats 400000 in
theorem readByte_nil (V W : World) (pb o : Nat) (no : Bool) (h : WP V W pb [] o no) : Calls Tryz.prog 197 #[.pointer (some ⟨pb, 0, none⟩)] W fun e w' => (∃ ty x, e = .returned (.tuple #[.int .u8 0, .iface ty x])) ∧ W.grownBy w' (some pb) := by
  obtain ⟨x, hx, hv⟩ := h.x
  obtain ⟨p, c, rfl, _⟩ := hv.ex
  clear hv h
  go_enter Tryz.func197, Tryz.ntmps197
  go_wp2_with fail
  go_ret2
  exact ⟨⟨_, _, rfl⟩, gt_refl _ _⟩
set_option maxRecDepth 100000 in
set_option maxHeartbeats 400000 in
theorem readByte_cons (V W : World) (pb o : Nat) (no : Bool) (b : UInt8) (l : List UInt8) (h : WP V W pb (b :: l) o no) : Calls Tryz.prog 197 #[.pointer (some ⟨pb, 0, none⟩)] W fun e w' => e = .returned (.tuple #[.int .u8 b.toNat, .nilIface]) ∧ WP V w' pb l o no ∧ W.grownBy w' (some pb) := by
  obtain ⟨x, hx, hv⟩ := h.x
  obtain ⟨p, c, rfl, h1, h2, h3, h4⟩ := hv.ex
  have hd := hv.drop 1 (by simp)
  obtain ⟨pd, nd, cd, hxd⟩ : ∃ pd nd cd, sliced p 1 (b :: l).length c 1 = .slice pd nd cd := ⟨_, _, _, rfl⟩
  rw [hxd] at hd
  have hset := Lib.hid (h.set (x := .slice pd nd cd) (l' := l) hd)
  obtain ⟨_, bb, oo, rfl, hc⟩ := (hv.grow h.g (.inr rfl)).cells (by simp)
  have hc0 := hc 0 b rfl
  rw [Nat.add_zero] at hc0
  have hsl : ∀ w, (Instr.slice 39 (.slice (some ⟨bb, oo, none⟩) (b :: l).length c) (some (.int .i64 1)) none none).run Tryz.prog w = .ok (.slice pd nd cd) w := fun w => by
    rw [run_slice_l _ _ _ _ _ Tryz.underlying39 .i64 1 (by decide) (by simp; omega), ← hxd]
    rfl
  have hf := h.fz 0
  have hlen : 0 < (b :: l).length := by simp
  obtain ⟨n, hn⟩ : ∃ n, n = (b :: l).length := ⟨_, rfl⟩
  rw [← hn] at hx hlen h1
  simp only [← hn] at hsl
  clear hv h hxd hd hc h3 h4 hn
  go_enter Tryz.func197, Tryz.ntmps197
  go_wp2_with fail
  go_ret2
  exact ⟨rfl, hset.out.1, hset.out.2⟩
end Go.Proofs.YtlpaecafpbbbkaaGreatDoor
namespace Go.Proofs.YtlpaecafpbbbkaaGreatDoor
open Go.RowKit

theorem WP.order {V W : World} {pb : Nat} {l : List UInt8} {o : Nat} {no : Bool} (h : WP V W pb l o no) (o' : Nat) (no' : Bool) :
    WP V ((W.setCell ⟨pb, 1, none⟩ (.int .u8 o')).setCell ⟨pb, 2, none⟩ (.bool no')) pb l o' no' ∧ W.grownBy ((W.setCell ⟨pb, 1, none⟩ (.int .u8 o')).setCell ⟨pb, 2, none⟩ (.bool no')) (some pb) := by
  obtain ⟨x, hx, hv⟩ := h.x
  have g1 := grown_set W ⟨pb, 1, none⟩ (.int .u8 o')
  have g2 := grown_set (W.setCell ⟨pb, 1, none⟩ (.int .u8 o')) ⟨pb, 2, none⟩ (.bool no')
  refine ⟨⟨gt_trans h.g (gt_trans g1 g2 (.inl rfl)) (.inl rfl), h.blt, ⟨x, ?_, hv⟩, ?_, ?_, fun j => ?_⟩, gt_trans g1 g2 (.inl rfl)⟩
  · rw [World.cell?_setCell_other (h := by simp), World.cell?_setCell_other (h := by simp)]; exact hx
  · rw [World.cell?_setCell_other (h := by simp)]; exact World.cell?_setCell_same (v := .int .u8 o') (h := h.c1)
  · exact World.cell?_setCell_same (v := .bool no') (h := by rw [World.cell?_setCell_other (h := by simp)]; exact h.c2)
  · rw [World.frozen?_setCell, World.frozen?_setCell]; exact h.fz j

set_option maxRecDepth 100000 in
set_option maxHeartbeats 400000 in
theorem parseBO_nil (V W : World) (pb o : Nat) (no : Bool) (h : WP V W pb [] o no) : Calls Tryz.prog 154 #[.pointer (some ⟨pb, 0, none⟩)] W fun e w' => (∃ ty x, e = .returned (.iface ty x)) ∧ W.grownBy w' (some pb) := by
  have H := Lib.hid (readByte_nil V W pb o no h)
  clear h
  go_enter Tryz.func154, Tryz.ntmps154
  go_wp2_with (first
    | (go_at_call 197; refine H.out.mono ?_; rintro e w1 ⟨⟨ty, x, rfl⟩, hg1⟩))
  go_ret
  exact ⟨⟨_, _, rfl⟩, hg1⟩
set_option maxRecDepth 100000 in
set_option maxHeartbeats 400000 in
theorem parseBO_bad (V W : World) (pb o : Nat) (no : Bool) (b : UInt8) (l : List UInt8) (hb : 1 < b.toNat) (h : WP V W pb (b :: l) o no) : Calls Tryz.prog 154 #[.pointer (some ⟨pb, 0, none⟩)] W fun e w' => (∃ ty x, e = .returned (.iface ty x)) ∧ W.grownBy w' (some pb) := by
  have H := Lib.hid (readByte_cons V W pb o no b l h)
  clear h
  have hz : ((b.toNat : Int) == 0) = false := by rw [beq_eq_false_iff_ne]; omega
  have hz1 : ((b.toNat : Int) == 1) = false := by rw [beq_eq_false_iff_ne]; omega
  go_enter Tryz.func154, Tryz.ntmps154
  go_wp2_with (first
    | (go_at_call 197; refine H.out.mono ?_; rintro e w1 ⟨rfl, hw1, hg1⟩; have c1 := hw1.c1; have f1 := hw1.fz 1; clear hw1))
  go_ret
  exact ⟨⟨_, _, rfl⟩, gt_trans hg1 (grown_set w1 ⟨pb, 1, none⟩ _) (.inl rfl)⟩
set_option maxRecDepth 100000 in
set_option maxHeartbeats 400000 in
theorem parseBO_ok (V W : World) (pb o : Nat) (no : Bool) (b : UInt8) (l : List UInt8) (big : Bool) (hb : b.toNat = if big = true then 0 else 1) (h : WP V W pb (b :: l) o no) : Calls Tryz.prog 154 #[.pointer (some ⟨pb, 0, none⟩)] W fun e w' => e = .returned .nilIface ∧ WP V w' pb l (if big = true then 0 else 1) (!big) ∧ W.grownBy w' (some pb) := by
  have H := Lib.hid (readByte_cons V W pb o no b l h)
  clear h
  cases big
  all_goals
    simp only [if_true, if_false, Bool.false_eq_true, Bool.not_true, Bool.not_false] at hb ⊢
    rw [hb] at H
    clear hb
    go_enter Tryz.func154, Tryz.ntmps154
    go_wp2_with (first
      | (go_at_call 197; refine H.out.mono ?_; rintro e w1 ⟨rfl, hw1, hg1⟩; have c1 := hw1.c1; have c2 := hw1.c2; have f1 := hw1.fz 1; have f2 := hw1.fz 2; have HO := Lib.hid (fun o' no' => hw1.order o' no'); clear hw1))
    go_ret
    exact ⟨rfl, (HO.out _ _).1, gt_trans hg1 (HO.out _ _).2 (.inl rfl)⟩

theorem take_four {l : List UInt8} (h : 4 ≤ l.length) : ∃ b0 b1 b2 b3 r, l = b0 :: b1 :: b2 :: b3 :: r := by
  match l, h with
  | b0 :: b1 :: b2 :: b3 :: r, _ => exact ⟨b0, b1, b2, b3, r, rfl⟩
theorem take_eight {l : List UInt8} (h : 8 ≤ l.length) : ∃ b0 b1 b2 b3 b4 b5 b6 b7 r, l = b0 :: b1 :: b2 :: b3 :: b4 :: b5 :: b6 :: b7 :: r := by
  match l, h with
  | b0 :: b1 :: b2 :: b3 :: b4 :: b5 :: b6 :: b7 :: r, _ => exact ⟨b0, b1, b2, b3, b4, b5, b6, b7, r, rfl⟩
theorem be32 (W : World) (pb : Nat) (p : Option Addr) (n c : Nat) (l : List UInt8) (h : BV W pb (.slice p n c) l) (hl : 4 ≤ l.length) : Calls Tryz.prog 241 #[.agg #[], .slice p n c] W fun e w' => e = .returned (.int .u32 (numL true (l.take 4))) ∧ W.grownBy w' none := by
  obtain ⟨en, b, o, rfl, hc⟩ := h.cells (by omega)
  obtain ⟨b0, b1, b2, b3, r, rfl⟩ := take_four hl
  exact (Tryz.binary_BE_Uint32 b o n c b0 b1 b2 b3 W (by omega) (hc 0 _ rfl) (hc 1 _ rfl) (hc 2 _ rfl) (hc 3 _ rfl)).mono fun e w' ⟨he, hb⟩ => ⟨he, gt_below hb none⟩
theorem le32 (W : World) (pb : Nat) (p : Option Addr) (n c : Nat) (l : List UInt8) (h : BV W pb (.slice p n c) l) (hl : 4 ≤ l.length) : Calls Tryz.prog 242 #[.agg #[], .slice p n c] W fun e w' => e = .returned (.int .u32 (numL false (l.take 4))) ∧ W.grownBy w' none := by
  obtain ⟨en, b, o, rfl, hc⟩ := h.cells (by omega)
  obtain ⟨b0, b1, b2, b3, r, rfl⟩ := take_four hl
  exact (Tryz.binary_LE_Uint32 b o n c b0 b1 b2 b3 W (by omega) (hc 0 _ rfl) (hc 1 _ rfl) (hc 2 _ rfl) (hc 3 _ rfl)).mono fun e w' ⟨he, hb⟩ => ⟨he, gt_below hb none⟩
theorem be64 (W : World) (pb : Nat) (p : Option Addr) (n c : Nat) (l : List UInt8) (h : BV W pb (.slice p n c) l) (hl : 8 ≤ l.length) : Calls Tryz.prog 292 #[.agg #[], .slice p n c] W fun e w' => e = .returned (.int .u64 (numL true (l.take 8))) ∧ W.grownBy w' none := by
  obtain ⟨en, b, o, rfl, hc⟩ := h.cells (by omega)
  obtain ⟨b0, b1, b2, b3, b4, b5, b6, b7, r, rfl⟩ := take_eight hl
  exact (Tryz.binary_BE_Uint64 b o n c b0 b1 b2 b3 b4 b5 b6 b7 W (by omega) (hc 0 _ rfl) (hc 1 _ rfl) (hc 2 _ rfl) (hc 3 _ rfl) (hc 4 _ rfl) (hc 5 _ rfl) (hc 6 _ rfl) (hc 7 _ rfl)).mono fun e w' ⟨he, hb⟩ => ⟨he, gt_below hb none⟩
theorem le64 (W : World) (pb : Nat) (p : Option Addr) (n c : Nat) (l : List UInt8) (h : BV W pb (.slice p n c) l) (hl : 8 ≤ l.length) : Calls Tryz.prog 293 #[.agg #[], .slice p n c] W fun e w' => e = .returned (.int .u64 (numL false (l.take 8))) ∧ W.grownBy w' none := by
  obtain ⟨en, b, o, rfl, hc⟩ := h.cells (by omega)
  obtain ⟨b0, b1, b2, b3, b4, b5, b6, b7, r, rfl⟩ := take_eight hl
  exact (Tryz.binary_LE_Uint64 b o n c b0 b1 b2 b3 b4 b5 b6 b7 W (by omega) (hc 0 _ rfl) (hc 1 _ rfl) (hc 2 _ rfl) (hc 3 _ rfl) (hc 4 _ rfl) (hc 5 _ rfl) (hc 6 _ rfl) (hc 7 _ rfl)).mono fun e w' ⟨he, hb⟩ => ⟨he, gt_below hb none⟩

set_option maxRecDepth 100000 in
set_option maxHeartbeats 400000 in
theorem parseU32_bad (V W : World) (pb o : Nat) (no : Bool) (l : List UInt8) (hl : l.length < 4) (h : WP V W pb l o no) : Calls Tryz.prog 198 #[.pointer (some ⟨pb, 0, none⟩)] W fun e w' => (∃ ty x, e = .returned (.tuple #[.int .u32 0, .iface ty x])) ∧ W.grownBy w' (some pb) := by
  obtain ⟨x, hx, hv⟩ := h.x
  obtain ⟨p, c, rfl, _⟩ := hv.ex
  have hli : (l.length : Int) < 4 := by omega
  generalize l.length = n at hx hli
  clear hv h hl
  go_enter Tryz.func198, Tryz.ntmps198
  go_wp2_with fail
  go_ret2
  exact ⟨⟨_, _, rfl⟩, gt_refl _ _⟩
set_option maxRecDepth 100000 in
set_option maxHeartbeats 1000000 in
theorem parseU32_ok (V W : World) (pb : Nat) (big no : Bool) (l : List UInt8) (hl : 4 ≤ l.length) (h : WP V W pb l (if big = true then 0 else 1) no) : Calls Tryz.prog 198 #[.pointer (some ⟨pb, 0, none⟩)] W fun e w' => e = .returned (.tuple #[.int .u32 (numL big (l.take 4)), .nilIface]) ∧ WP V w' pb (l.drop 4) (if big = true then 0 else 1) no ∧ W.grownBy w' (some pb) := by
  obtain ⟨x, hx, hv⟩ := h.x
  obtain ⟨p, c, rfl, h1, _⟩ := hv.ex
  have hd := hv.drop 4 hl
  obtain ⟨pd, nd, cd, hxd⟩ : ∃ pd nd cd, sliced p 4 l.length c 1 = .slice pd nd cd := ⟨_, _, _, rfl⟩
  rw [hxd] at hd
  have HN : Hid (∀ w, W.grownBy w none → w.cell? ⟨pb, 0, none⟩ = some (.slice p l.length c) ∧ w.frozen? ⟨pb, 0, none⟩ = false ∧ WP V (w.setCell ⟨pb, 0, none⟩ (.slice pd nd cd)) pb (l.drop 4) (if big = true then 0 else 1) no ∧ W.grownBy (w.setCell ⟨pb, 0, none⟩ (.slice pd nd cd)) (some pb)) := fun w g => by
    have k := h.kept g
    obtain ⟨a, b⟩ := k.set hd
    exact ⟨g.cell hx (by simp), k.fz 0, a, gt_trans (gt_some g pb) b (.inl rfl)⟩
  have hsl : ∀ w, (Instr.slice 39 (.slice p l.length c) (some (.int .i64 4)) none none).run Tryz.prog w = .ok (.slice pd nd cd) w := fun w => by
    rw [run_slice_l _ _ _ _ _ Tryz.underlying39 .i64 4 (by decide) (by omega), ← hxd]
    rfl
  have HB := Lib.hid (fun w (g : W.grownBy w none) => be32 w pb p l.length c l (hv.grow (gt_trans h.g g (.inr (.inl rfl))) (.inr rfl)) hl)
  have HL := Lib.hid (fun w (g : W.grownBy w none) => le32 w pb p l.length c l (hv.grow (gt_trans h.g g (.inr (.inl rfl))) (.inr rfl)) hl)
  have hli : ¬ (l.length : Int) < 4 := by omega
  have c1 := h.c1
  clear hv hxd hd h
  have hgd : W.grownBy W.drew none := gt_drew_r (gt_refl _ _)
  cases big
  all_goals
    simp only [if_true, if_false, Bool.false_eq_true] at c1 HN ⊢
    go_enter Tryz.func198, Tryz.ntmps198
    go_wp2_with fail
    go_region_with (first
      | (go_at_call 241; refine (HB.out _ ?_).mono ?_; assumption; rintro e w1 ⟨rfl, hg1⟩; have hg2 := gt_trans hgd hg1 (.inl rfl); obtain ⟨x0, f0, _⟩ := HN.out _ hg2)
      | (go_at_call 242; refine (HL.out _ ?_).mono ?_; assumption; rintro e w1 ⟨rfl, hg1⟩; have hg2 := gt_trans hgd hg1 (.inl rfl); obtain ⟨x0, f0, _⟩ := HN.out _ hg2))
    all_goals
      go_wp2_with fail
      go_ret2
      exact ⟨rfl, (HN.out _ hg2).2.2⟩
end Go.Proofs.YtlpaecafpbbbkaaGreatDoor
namespace Go.Proofs.YtlpaecafpbbbkaaGreatDoor
open Go.RowKit

set_option maxRecDepth 100000 in
set_option maxHeartbeats 400000 in
theorem parseF64_bad (V W : World) (pb o : Nat) (no : Bool) (l : List UInt8) (hl : l.length < 8) (h : WP V W pb l o no) : Calls Tryz.prog 243 #[.pointer (some ⟨pb, 0, none⟩)] W fun e w' => (∃ ty x, e = .returned (.tuple #[.float .f64 0, .iface ty x])) ∧ W.grownBy w' (some pb) := by
  obtain ⟨x, hx, hv⟩ := h.x
  obtain ⟨p, c, rfl, _⟩ := hv.ex
  have hli : (l.length : Int) < 8 := by omega
  generalize l.length = n at hx hli
  clear hv h hl
  go_enter Tryz.func243, Tryz.ntmps243
  go_wp2_with fail
  go_ret2
  exact ⟨⟨_, _, rfl⟩, gt_refl _ _⟩
set_option maxRecDepth 100000 in
set_option maxHeartbeats 1000000 in
theorem parseF64_ok (V W : World) (pb : Nat) (big no : Bool) (l : List UInt8) (hl : 8 ≤ l.length) (h : WP V W pb l (if big = true then 0 else 1) no) : Calls Tryz.prog 243 #[.pointer (some ⟨pb, 0, none⟩)] W fun e w' => e = .returned (.tuple #[.float .f64 (numL big (l.take 8)), .nilIface]) ∧ WP V w' pb (l.drop 8) (if big = true then 0 else 1) no ∧ W.grownBy w' (some pb) := by
  obtain ⟨x, hx, hv⟩ := h.x
  obtain ⟨p, c, rfl, h1, _⟩ := hv.ex
  have hd := hv.drop 8 hl
  obtain ⟨pd, nd, cd, hxd⟩ : ∃ pd nd cd, sliced p 8 l.length c 1 = .slice pd nd cd := ⟨_, _, _, rfl⟩
  rw [hxd] at hd
  have HN : Hid (∀ w, W.grownBy w none → w.cell? ⟨pb, 0, none⟩ = some (.slice p l.length c) ∧ w.frozen? ⟨pb, 0, none⟩ = false ∧ WP V (w.setCell ⟨pb, 0, none⟩ (.slice pd nd cd)) pb (l.drop 8) (if big = true then 0 else 1) no ∧ W.grownBy (w.setCell ⟨pb, 0, none⟩ (.slice pd nd cd)) (some pb)) := fun w g => by
    have k := h.kept g
    obtain ⟨a, b⟩ := k.set hd
    exact ⟨g.cell hx (by simp), k.fz 0, a, gt_trans (gt_some g pb) b (.inl rfl)⟩
  have hsl : ∀ w, (Instr.slice 39 (.slice p l.length c) (some (.int .i64 8)) none none).run Tryz.prog w = .ok (.slice pd nd cd) w := fun w => by
    rw [run_slice_l _ _ _ _ _ Tryz.underlying39 .i64 8 (by decide) (by omega), ← hxd]
    rfl
  have HB := Lib.hid (fun w (g : W.grownBy w none) => be64 w pb p l.length c l (hv.grow (gt_trans h.g g (.inr (.inl rfl))) (.inr rfl)) hl)
  have HL := Lib.hid (fun w (g : W.grownBy w none) => le64 w pb p l.length c l (hv.grow (gt_trans h.g g (.inr (.inl rfl))) (.inr rfl)) hl)
  have hli : ¬ (l.length : Int) < 8 := by omega
  have c1 := h.c1
  clear hv hxd hd h
  have hff : ∀ (w : World) (n : Nat), (callFunc 153 #[.int .u64 n]).run Tryz.prog w = .ok (.value (.float .f64 n)) w := fun w n => by kernel_rfl
  have hgd : W.grownBy W.drew none := gt_drew_r (gt_refl _ _)
  cases big
  all_goals
    simp only [if_true, if_false, Bool.false_eq_true] at c1 HN ⊢
    go_enter Tryz.func243, Tryz.ntmps243
    go_wp2_with fail
    go_region_with (first
      | (go_at_call 292; refine (HB.out _ ?_).mono ?_; assumption; rintro e w1 ⟨rfl, hg1⟩; have hg2 := gt_trans hgd hg1 (.inl rfl); obtain ⟨x0, f0, _⟩ := HN.out _ hg2)
      | (go_at_call 293; refine (HL.out _ ?_).mono ?_; assumption; rintro e w1 ⟨rfl, hg1⟩; have hg2 := gt_trans hgd hg1 (.inl rfl); obtain ⟨x0, f0, _⟩ := HN.out _ hg2))
    all_goals
      go_wp2_with fail
      go_ret2
      exact ⟨rfl, (HN.out _ hg2).2.2⟩

/-- What the head's number says: kind and type of coordinates. -/
def codeOf (c : Nat) : Option (Int × Nat) := if c % 1000 < 1 ∨ 7 < c % 1000 ∨ 3 < c / 1000 then none else some (if c % 1000 = 7 then 0 else (c % 1000 : Nat), c / 1000)
def CdPost (V W : World) (pb : Nat) (l : List UInt8) (big : Bool) (c : Nat) (e : Ending) (w' : World) : Prop := match codeOf c with
  | none => (∃ ty x, e = .returned (.tuple #[.int .i64 0, .int .u8 0, .iface ty x])) ∧ W.grownBy w' (some pb)
  | some (k, d) => e = .returned (.tuple #[.int .i64 k, .int .u8 d, .nilIface]) ∧ WP V w' pb l (if big = true then 0 else 1) (!big) ∧ W.grownBy w' (some pb)
theorem cd_ok {V W w1 : World} {pb : Nat} {l : List UInt8} {big : Bool} {c d : Nat} {k : Int} (hw : WP V w1 pb l (if big = true then 0 else 1) (!big)) (hg : W.grownBy w1 (some pb)) (hc : codeOf c = some (k, d)) : CdPost V W pb l big c (.returned (.tuple #[.int .i64 k, .int .u8 d, .nilIface])) w1 := by
  unfold CdPost
  rw [hc]
  exact ⟨rfl, hw, hg⟩
theorem cd_err {V W w1 : World} {pb : Nat} {l : List UInt8} {big : Bool} {c ty : Nat} {x : Value} (hg : W.grownBy w1 (some pb)) (hc : codeOf c = none) : CdPost V W pb l big c (.returned (.tuple #[.int .i64 0, .int .u8 0, .iface ty x])) w1 := by
  unfold CdPost
  rw [hc]
  exact ⟨⟨_, _, rfl⟩, hg⟩
theorem code_some {c d : Nat} {k : Int} (h0 : 1 ≤ c % 1000) (h7 : c % 1000 ≤ 7) (hk : (c % 1000 = 7 ∧ k = 0) ∨ (c % 1000 < 7 ∧ (c % 1000 : Nat) = k)) (hd : c / 1000 = d) (h3 : d < 4) : codeOf c = some (k, d) := by
  unfold codeOf
  rw [if_neg (by omega), hd]
  rcases hk with ⟨h, rfl⟩ | ⟨h, rfl⟩
  · rw [if_pos h]
  · rw [if_neg (by omega)]
theorem code_none {c : Nat} (h : c % 1000 < 1 ∨ 7 < c % 1000 ∨ 3 < c / 1000) : codeOf c = none := if_pos h
set_option maxRecDepth 100000 in
set_option maxHeartbeats 4000000 in
theorem parseGC_ok (V W : World) (pb : Nat) (big : Bool) (l : List UInt8) (hl : 4 ≤ l.length) (h : WP V W pb l (if big = true then 0 else 1) (!big)) : Calls Tryz.prog 155 #[.pointer (some ⟨pb, 0, none⟩)] W (CdPost V W pb (l.drop 4) big (numL big (l.take 4))) := by
  have H := Lib.hid (parseU32_ok V W pb big (!big) l hl h)
  have hc : numL big (l.take 4) < 4294967296 := by
    have := numL_lt big (l.take 4) 4 (by rw [List.length_take]; omega)
    have e : 256 ^ 4 = 4294967296 := by decide
    omega
  generalize numL big (l.take 4) = c at H hc ⊢
  clear h
  go_enter Tryz.func155, Tryz.ntmps155
  go_wp2_with (first
    | (go_at_call 198; refine H.out.mono ?_; rintro e w1 ⟨rfl, hw1, hg1⟩; have HW := Lib.hid hw1; clear hw1))
  all_goals
    simp only [beq_iff_eq, beq_eq_false_iff_ne, ne_eq] at *
    refine bodyPost_ret (by simp [results, Tryz.results155, go_sem]; try rfl) rfl ?_
    first
      | (refine cd_ok (c := c) (d := 0) HW.out hg1 ?_; refine code_some ?_ ?_ ?_ ?_ ?_ <;> omega)
      | (refine cd_ok (c := c) (d := 1) HW.out hg1 ?_; refine code_some ?_ ?_ ?_ ?_ ?_ <;> omega)
      | (refine cd_ok (c := c) (d := 2) HW.out hg1 ?_; refine code_some ?_ ?_ ?_ ?_ ?_ <;> omega)
      | (refine cd_ok (c := c) (d := 3) HW.out hg1 ?_; refine code_some ?_ ?_ ?_ ?_ ?_ <;> omega)
      | (refine cd_err (c := c) hg1 ?_; refine code_none ?_; omega)
end Go.Proofs.YtlpaecafpbbbkaaGreatDoor
