/- A row of numbers as the package keeps it: how it is made, how long it is, what it gives at a place. -/
import Derived.Test.YthcjnadceambgaaGreatDoorH
import Derived.Laws.CopyOwn
namespace Go.Proofs.YthcjnadceambgaaGreatDoor
open Go.RowKit

/-- A row of floating-point numbers of which the bits are known. -/
structure FVal (W : World) (p : Option Addr) (n : Nat) (f : Nat → Nat) : Prop where
  some_ : 0 < n → ∃ a, p = some a
  at_ : ∀ a, p = some a → ∀ i, i < n → W.cell? (a.add i) = some (.float .f64 (f i))
  lt : ∀ i, f i < 18446744073709551616
theorem FVal.mono {W W' : World} {p : Option Addr} {n : Nat} {f : Nat → Nat} (h : FVal W p n f) (hg : W.grownBy W' none) : FVal W' p n f :=
  ⟨h.some_, fun a ha i hi => hg.cell (h.at_ a ha i hi) (by simp), h.lt⟩
def bitsOf : Option Value → Nat
  | some (.float _ b) => if b < 18446744073709551616 then b else 0
  | _ => 0
theorem bitsOf_lt (o : Option Value) : bitsOf o < 18446744073709551616 := by
  unfold bitsOf
  split
  · split <;> omega
  · omega
theorem FRow.vals {W : World} {p : Option Addr} {n cap : Nat} (h : FRow W p n cap) : ∃ f, FVal W p n f := by
  refine ⟨fun i => bitsOf (p.bind fun a => W.cell? (a.add i)), h.some_, fun a ha i hi => ?_, fun i => bitsOf_lt _⟩
  obtain ⟨b, h1, h2⟩ := h.at_ a ha i hi
  rw [h1, ha]
  simp [h1, bitsOf, h2]

theorem i64_low2 (n : Int) : bits .and .i64 n 3 = n % 4 := by
  have h127 : (BitVec.ofInt 64 3).toNat = 2 ^ 2 - 1 := by decide
  have key : (BitVec.ofInt 64 n &&& BitVec.ofInt 64 3).toNat = (n % ((2 ^ 64 : Nat) : Int)).toNat % 2 ^ 2 := by
    rw [BitVec.toNat_and, BitVec.toNat_ofInt, h127, Nat.and_two_pow_sub_one_eq_mod]
  show IntKind.i64.wrap ((BitVec.ofInt 64 n &&& BitVec.ofInt 64 3).toNat : Nat) = n % 4
  rw [key, IntKind.wrap_i64]
  omega

/-- How many numbers a place has, by its type. -/
def widN (r : Nat) : Nat := 2 + r % 2 + r / 2

set_option maxHeartbeats 400000 in
theorem dimOf_r (d : Int) (r : Nat) (hr : d % 4 = r) (w : World) : Calls Tryz.prog 62 #[.int .i64 d] w fun e w' => e = .returned (.int .u8 r) ∧ w' = w := by
  have he : bits .and .i64 d 3 = r := by rw [i64_low2]; omega
  have h3 : r < 4 := by omega
  clear hr
  go_enter Tryz.func62, Tryz.ntmps62
  go_wp2
  go_ret
  exact ⟨by go_num, rfl⟩

set_option maxRecDepth 100000 in
set_option maxHeartbeats 400000 in
theorem Dimension_lit (x y : Int) (h : (x = 0 ∧ y = 2) ∨ (x = 1 ∧ y = 3) ∨ (x = 2 ∧ y = 3) ∨ (x = 3 ∧ y = 4)) (w : World) :
    Calls Tryz.prog 114 #[.int .u8 x] w fun e w' => e = .returned (.int .i64 y) ∧ w' = w := by
  have hi : ∀ W : World, (Instr.index 156 (.agg #[.int .i64 2, .int .i64 3, .int .i64 3, .int .i64 4]) (.int .u8 x)).run Tryz.prog W = .ok (.int .i64 y) W := fun W => by
    rcases h with ⟨rfl, rfl⟩ | ⟨rfl, rfl⟩ | ⟨rfl, rfl⟩ | ⟨rfl, rfl⟩ <;> kernel_rfl
  clear h
  go_enter Tryz.func114, Tryz.ntmps114
  go_wp2_with fail
  go_ret
  exact ⟨rfl, rfl⟩
theorem Dimension_any (r : Nat) (hr : r < 4) (w : World) : Calls Tryz.prog 114 #[.int .u8 r] w fun e w' => e = .returned (.int .i64 (widN r : Nat)) ∧ w' = w :=
  Dimension_lit r (widN r : Nat) (by unfold widN; omega) w

set_option maxRecDepth 100000 in
set_option maxHeartbeats 1000000 in
theorem NewSequence_any (r n : Nat) (p : Option Addr) (cap : Nat) (hr : r < 4) (hn : n % widN r = 0) (w : World) :
    Calls Tryz.prog 115 #[.slice p n cap, .int .u8 r] w fun e w' => e = .returned (.agg #[.int .u8 r, .slice p n cap]) ∧ w.grownBy w' none := by
  obtain ⟨k, hk, hk2, hk4⟩ : ∃ k : Nat, k = widN r ∧ 2 ≤ k ∧ k ≤ 4 := ⟨widN r, rfl, by unfold widN; omega, by unfold widN; omega⟩
  have HD := Lib.hid (fun w => Dimension_any r hr w)
  rw [← hk] at hn HD
  clear hk
  have hz : (n : Int) % (k : Int) = 0 := by exact_mod_cast hn
  go_enter Tryz.func115, Tryz.ntmps115
  go_wp2_with (go_at_call 114; refine (HD.out _).mono ?_; rintro e w' ⟨rfl, rfl⟩)
  go_returns
  exact ⟨rfl, World.grownBy_alloc _ _ _⟩

theorem FVal.set {w : World} {a q : Addr} {n : Nat} {f : Nat → Nat} (h : FVal w (some a) n f) (hq : a.block ≠ q.block) (x : Value) : FVal (w.setCell q x) (some a) n f := by
  refine ⟨h.some_, fun b hb i hi => ?_, h.lt⟩
  have h0 := h.at_ b hb i hi
  injection hb with hb
  subst hb
  have e : (a.add i).block = a.block := by unfold Addr.add; split <;> rfl
  rw [World.cell?_of_block (w := w) (Below.heap_setCell w q x _ (by rw [e]; exact hq))]
  exact h0
theorem own_heap {w : World} {base g n cap : Nat} {e : TypeId} {xs : List Value} (h : w.ownsRow base e 1 (.slice (some ⟨g, 0, none⟩) n cap) n xs) : ∃ cur : List Value, w.heap[g]? = some (.cells cur.toArray e (0, 0)) ∧ cur.length = cap := by
  obtain ⟨_, h | ⟨g', cap', cur, hv, hb, hc, _, _, hs, _⟩⟩ := h
  · cases h.1
  · cases hv
    exact ⟨cur.toList, by simpa using hc, by simpa using hs⟩

set_option maxRecDepth 100000 in
set_option maxHeartbeats 1000000 in
theorem sequence_any (d : Int) (r : Nat) (hr : d % 4 = r) (p : Option Addr) (n cap : Nat) (f : Nat → Nat) (hn : n ≤ 2000) (W : World) (hf : FVal W p n f) :
    Calls Tryz.prog 56 #[.slice p n cap, .int .i64 d] W fun e w' => ∃ a, e = .returned (.agg #[.int .u8 r, .slice (some a) (n - n % widN r) (n - n % widN r)]) ∧ FVal w' (some a) (n - n % widN r) f ∧ W.heap.size ≤ a.block ∧ a.block < w'.heap.size ∧ W.grownBy w' none := by
  have hr4 : r < 4 := by omega
  obtain ⟨k, hk, hk2, hk4⟩ : ∃ k : Nat, k = widN r ∧ 2 ≤ k ∧ k ≤ 4 := ⟨widN r, rfl, by unfold widN; omega, by unfold widN; omega⟩
  have HD := Lib.hid (fun w => Dimension_any r hr4 w)
  have HS := Lib.hid (fun m p cap (h : m % widN r = 0) w => NewSequence_any r m p cap hr4 h w)
  have HO := Lib.hid (fun w => dimOf_r d r hr w)
  rw [← hk] at HD HS ⊢
  clear hk hr
  obtain ⟨N, hN, hNn, hNk⟩ : ∃ N : Nat, N = n - n % k ∧ N ≤ n ∧ N % k = 0 := ⟨_, rfl, by omega, by
    have := Nat.mod_add_div n k
    have e : n - n % k = k * (n / k) := by omega
    rw [e]; exact Nat.mul_mod_right _ _⟩
  have hz : (n : Int) - (n : Int) % (k : Int) = (N : Int) := by
    have : (n : Int) % (k : Int) = ((n % k : Nat) : Int) := by push_cast; rfl
    have h2 : n % k ≤ n := Nat.mod_le _ _
    omega
  rw [← hN]
  have HN := Lib.hid hN
  clear hN
  obtain ⟨cs, hcs⟩ : ∃ cs : List Value, cs = (List.range N).map fun i => .float .f64 (f i) := ⟨_, rfl⟩
  have hcl : cs.length = N := by rw [hcs]; simp
  have h1c : Hid (∀ v ∈ cs, v.oneCell' = true) := fun v hv => by rw [hcs] at hv; obtain ⟨i, _, rfl⟩ := List.mem_map.1 hv; rfl
  have hsrc : Hid (∀ (w : World), W.grownBy w none → 0 < cs.length → ∃ ad, p = some ad ∧ ∀ j v, cs[j]? = some v → w.cell? (ad.add j) = some v) := by
    intro w hg hpos
    obtain ⟨a, ha⟩ := hf.some_ (by omega)
    refine ⟨a, ha, fun j v hv => ?_⟩
    rw [hcs, List.getElem?_map] at hv
    by_cases hj : j < N
    · rw [List.getElem?_range hj] at hv
      simp only [Option.map_some, Option.some.injEq] at hv
      rw [← hv]
      exact hg.cell (hf.at_ a ha j (by omega)) (by simp)
    · rw [List.getElem?_eq_none (by simpa using hj)] at hv
      cases hv
  have hfin : Hid (∀ (w : World) (g : Nat) (cur : List Value), cur.length = N → w.heap[g]? = some (.cells (splice cur 0 cs).toArray 60 (0, 0)) → FVal w (some ⟨g, 0, none⟩) N f) := by
    intro w g cur hc hg
    refine ⟨fun _ => ⟨_, rfl⟩, fun a ha i hi => ?_, hf.lt⟩
    injection ha with ha
    subst ha
    have e : splice cur 0 cs = cs := by simp [splice, hcl, ← hc]
    rw [e] at hg
    have hci : cs[i]? = some (.float .f64 (f i)) := by rw [hcs, List.getElem?_map, List.getElem?_range hi]; rfl
    by_cases h0 : i = 0
    · subst h0; simp [Addr.add, World.cell?, hg, hci]
    · simp [Addr.add, World.cell?, hg, hci, h0]
  have hsz : (Tryz.prog.info? 60).map (·.size) = some 1 := by kernel_rfl
  have hinfo : (Tryz.prog.info? 60).map (fun i => (i.zero, i.size, i.bytes)) = some (some (.float .f64 0), 1, 8) := by kernel_rfl
  obtain ⟨i0, hi, hzz⟩ := Option.map_eq_some_iff.1 hinfo
  simp only [Prod.mk.injEq] at hzz
  have HI := Lib.hid hzz
  have HB1 := Lib.hid (World.grownBy_alloc W (.cells #[.int .u8 0, .slice none 0 0] 43) none)
  have HC : Hid (∀ w, (W.alloc (.cells #[.int .u8 0, .slice none 0 0] 43)).grownBy w none → w.cell? ⟨W.heap.size, 0, none⟩ = some (.int .u8 0) ∧ w.cell? ⟨W.heap.size, 1, none⟩ = some (.slice none 0 0) ∧ w.frozen? ⟨W.heap.size, 0, none⟩ = false ∧ w.frozen? ⟨W.heap.size, 1, none⟩ = false) := fun w g => by
    have hb := g.block W.heap.size (by simp) (by simp)
    refine ⟨g.cell (by simp) (by simp), g.cell (by simp) (by simp), ?_, ?_⟩ <;> (rw [World.frozen?_of_block hb]; simp)
  have HW : Hid (∀ w, Below (W.heap.size + 1) (W.alloc (.cells #[.int .u8 0, .slice none 0 0] 43)) w → (W.alloc (.cells #[.int .u8 0, .slice none 0 0] 43)).grownBy w none) := fun w h => gt_below (by simpa using h) none
  clear hcs hzz hinfo
  go_enter Tryz.func56, Tryz.ntmps56
  go_wp2_with (first
    | (go_at_call 62; refine (HO.out _).mono ?_; rintro e w' ⟨rfl, rfl⟩)
    | (go_at_call 114; refine (HD.out _).mono ?_; rintro e w' ⟨rfl, rfl⟩)
    | (at_make; refine wpList_make_full _ rfl _ _ _ rfl W.heap.size 60 i0 (.float .f64 0) 1 Tryz.underlying22 hi HI.out.1 HI.out.2.1 .i64 .i64 _ _ N rfl rfl rfl rfl (by rw [HI.out.2.2]; omega) (by unfold maxLen; omega) (by simp) ?_; intro w1 hown hg1; obtain ⟨cur, hcur, hlen⟩ := own_heap hown; clear hown)
    | (refine wpList_copy_splice rfl _ _ _ _ rfl 60 Tryz.underlying22 hsz _ _ _ _ _ _ rfl rfl (W.heap.size + 1) 0 cur 60 (by simpa using hcur) cs (by rw [hcl]; exact (Nat.min_eq_right hNn).symm) (fun hp => ⟨rfl, hsrc.out _ (gt_trans HB1.out hg1 (.inl rfl)) hp⟩) (by simp at hlen ⊢; omega) h1c.out (W.heap.size + 1) (W.alloc (.cells #[.int .u8 0, .slice none 0 0] 43)) (by simpa using below_gt hg1) (Nat.le_refl _) ?_; intro w2 HG2 hB2)
    | (go_at_call 115; refine (HS.out _ _ _ hNk _).mono ?_; rintro e w' ⟨rfl, hg3⟩; have hg2 := gt_trans (HW.out _ hB2) hg3 (.inl rfl); obtain ⟨x0, x1, x2, x3⟩ := HC.out _ hg2))
  have hv := (hfin.out _ _ _ (by simpa using hlen) HG2.out).mono hg3
  have hgr := gt_set_r (gt_set_r (gt_trans HB1.out hg2 (.inl rfl)) ⟨W.heap.size, 0, none⟩ (.int .u8 r) (Nat.le_refl _)) ⟨W.heap.size, 1, none⟩ (.slice (some ⟨W.heap.size + 1, 0, none⟩) N N) (Nat.le_refl _)
  have hv2 := (hv.set (q := ⟨W.heap.size, 0, none⟩) (by simp) (.int .u8 r)).set (q := ⟨W.heap.size, 1, none⟩) (by simp) (.slice (some ⟨W.heap.size + 1, 0, none⟩) N N)
  have z0 := World.cell?_setCell_same (w := w') (v := .int .u8 r) (h := x0)
  have z1 : (w'.setCell ⟨W.heap.size, 0, none⟩ (.int .u8 r)).cell? ⟨W.heap.size, 1, none⟩ = some (.slice none 0 0) := (World.cell?_setCell_other (w := w') (a := ⟨W.heap.size, 0, none⟩) (b := ⟨W.heap.size, 1, none⟩) (v := .int .u8 r) (h := by simp)).trans x1
  have z2 := World.cell?_setCell_same (v := .slice (some ⟨W.heap.size + 1, 0, none⟩) N N) (h := z1)
  have hbl : W.heap.size + 1 < ((w'.setCell ⟨W.heap.size, 0, none⟩ (.int .u8 r)).setCell ⟨W.heap.size, 1, none⟩ (.slice (some ⟨W.heap.size + 1, 0, none⟩) N N)).heap.size := by
    have h1 : W.heap.size + 1 < w2.heap.size := (Array.getElem?_eq_some_iff.1 HG2.out).1
    have h2 := hg3.size
    simp [World.setCell]
    omega
  clear hv HG2 hB2 hg3 hg2
  refine bodyPost_ret (by simp [results, Tryz.results56, go_sem, z0, z2]; try rfl) rfl ?_
  exact ⟨_, rfl, hv2, Nat.le_succ _, hbl, hgr⟩

end Go.Proofs.YthcjnadceambgaaGreatDoor
