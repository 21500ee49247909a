/- A place in GeoJSON: the package's function and the reference write the same bytes. -/
import Derived.Test.YthcjnadceambgaaGreatDoorA7
import Derived.Deep.RegionWith
import Derived.Deep.RegionHeld3
namespace Go.Proofs.YthcjnadceambgaaGreatDoor
open Go.RowKit

theorem i64_and3 (n : Int) : bits .and .i64 n 3 = n % 4 := by
  have h127 : (BitVec.ofInt 64 3).toNat = 2 ^ 2 - 1 := by decide
  have key : (BitVec.ofInt 64 n &&& BitVec.ofInt 64 3).toNat = (n % ((2 ^ 64 : Nat) : Int)).toNat % 2 ^ 2 := by
    rw [BitVec.toNat_and, BitVec.toNat_ofInt, h127, Nat.and_two_pow_sub_one_eq_mod]
  show IntKind.i64.wrap ((BitVec.ofInt 64 n &&& BitVec.ofInt 64 3).toNat : Nat) = n % 4
  rw [key, IntKind.wrap_i64]
  omega

set_option maxHeartbeats 400000 in
theorem dimOf_any (d : Int) (h0 : 0 ≤ d) (h1 : d ≤ 3) (w : World) :
    Calls Tryz.prog 62 #[.int .i64 d] w fun e w' => e = .returned (.int .u8 d) ∧ w' = w := by
  have he : bits .and .i64 d 3 = d := by rw [i64_and3]; omega
  go_enter Tryz.func62, Tryz.ntmps62
  go_wp2
  go_ret
  exact ⟨rfl, rfl⟩

theorem u8_and1 (d : Int) (h0 : 0 ≤ d) (h1 : d ≤ 3) : bits .and .u8 d 1 = d % 2 := bits_mask .u8 8 (by decide) wraps_u8 1 (by decide) d h0 (by omega)

set_option maxHeartbeats 400000 in
theorem Is3D_any (d : Int) (h0 : 0 ≤ d) (h1 : d ≤ 3) (w : World) :
    Calls Tryz.prog 126 #[.int .u8 d] w fun e w' => e = .returned (.bool (decide (d % 2 = 1))) ∧ w' = w := by
  have he := u8_and1 d h0 h1
  have h2 : (d % 2 != 0) = decide (d % 2 = 1) := by
    rw [Bool.eq_iff_iff]
    simp
    omega
  go_enter Tryz.func126, Tryz.ntmps126
  go_wp2
  go_ret
  exact ⟨rfl, rfl⟩

noncomputable def jsonPl (T : Nat → Int) (x y z : Nat) (d : Int) : List UInt8 := [91] ++ decT T x ++ [44] ++ decT T y ++ (if d % 2 = 1 then [44] ++ decT T z else []) ++ [93]

set_option maxRecDepth 100000 in
set_option maxHeartbeats 1000000 in
theorem appendGeoJSONCoordinate_any (T : Nat → Int) (hT : ∀ i, U64 (T i)) (x y z m : Nat) (d : Int) (hx : x < 18446744073709551616) (hy : y < 18446744073709551616) (hz : z < 18446744073709551616) (h0 : 0 ≤ d) (h1 : d ≤ 3)
    (base : Nat) (v : Value) (l : List UInt8) (w : World) (hown : w.ownsRow base 5 1 v l.length (Bs l)) (hbase : base ≤ w.heap.size) (hl : l.length ≤ 35184372000000) (ht : Tabs T w) (hg3 : 3 < base) (hg2 : 2 < base) :
    Calls Tryz.prog 73 #[v, .agg #[.float .f64 x, .float .f64 y, .float .f64 z, .float .f64 m, .int .u8 d]] w (AppEnd 5 base w v (l ++ jsonPl T x y z d)) := by
  have hlx := decT_len T x
  have hly := decT_len T y
  have hlz := decT_len T z
  have HG := Lib.hid (World.grownBy_alloc w (.cells #[.float .f64 x, .float .f64 y, .float .f64 z, .float .f64 m, .int .u8 d] 69) none)
  have HO := Lib.hid hown
  have H := AppB.start (hown.alloc (.cells #[.float .f64 x, .float .f64 y, .float .f64 z, .float .f64 m, .int .u8 d] 69))
  have HT := Lib.hid (ht.mono HG.out (by simp) (by simp))
  have hlt := hown.lt
  have hn3 : v.ownBlock ≠ some 3 := fun e => by have := hlt _ e; omega
  have hn2 : v.ownBlock ≠ some 2 := fun e => by have := hlt _ e; omega
  have hnb : v.ownBlock ≠ some w.heap.size := fun e => by have := hlt _ e; omega
  have hbase0 : base ≤ (w.alloc (.cells #[.float .f64 x, .float .f64 y, .float .f64 z, .float .f64 m, .int .u8 d] 69)).heap.size := by simp; omega
  have HC : Hid (∀ W v' l', AppB 5 base (w.alloc (.cells #[.float .f64 x, .float .f64 y, .float .f64 z, .float .f64 m, .int .u8 d] 69)) v W v' l' →
      W.cell? ⟨w.heap.size, 0, none⟩ = some (.float .f64 x) ∧ W.cell? ⟨w.heap.size, 1, none⟩ = some (.float .f64 y) ∧ W.cell? ⟨w.heap.size, 2, none⟩ = some (.float .f64 z) ∧ W.cell? ⟨w.heap.size, 3, none⟩ = some (.float .f64 m) ∧ W.cell? ⟨w.heap.size, 4, none⟩ = some (.int .u8 d)) := by
    intro W v' l' h
    refine ⟨?_, ?_, ?_, ?_, ?_⟩ <;> (rw [h.cell (by simp) hnb]; simp)
  have k0 := trivial
  have k1 := trivial
  have k2 := trivial
  have k3 := trivial
  have k4 := trivial
  clear hown ht hlt hnb
  have hfin : Hid (∀ W v', AppB 5 base (w.alloc (.cells #[.float .f64 x, .float .f64 y, .float .f64 z, .float .f64 m, .int .u8 d] 69)) v W v' (l ++ jsonPl T x y z d) → AppEnd 5 base w v (l ++ jsonPl T x y z d) (.returned v') W) :=
    fun W v' h => ⟨v', rfl, AppB.later HO.out HG.out h⟩
  by_cases hd : d % 2 = 1
  · have hdB : decide (d % 2 = 1) = true := by simpa using hd
    go_enter Tryz.func73, Tryz.ntmps73
    go_wp2_with (first
      | (at_builtin; refine app_byte rfl _ _ _ rfl Tryz.underlying33 infoB H rfl _ 91 rfl rfl (by first | rfl | simp) hbase0 (by (try simp only [List.length_append, List.length_cons, List.length_nil]); omega) ?_; intro v1 w1 H1; clear H; have H := H1; clear H1; clear k0 k1 k2 k3 k4; obtain ⟨k0, k1, k2, k3, k4⟩ := HC.out _ _ _ H)
      | (at_builtin; refine app_byte rfl _ _ _ rfl Tryz.underlying33 infoB H rfl _ 44 rfl rfl (by first | rfl | simp) hbase0 (by (try simp only [List.length_append, List.length_cons, List.length_nil]); omega) ?_; intro v1 w1 H1; clear H; have H := H1; clear H1; clear k0 k1 k2 k3 k4; obtain ⟨k0, k1, k2, k3, k4⟩ := HC.out _ _ _ H)
      | (at_builtin; refine app_byte rfl _ _ _ rfl Tryz.underlying33 infoB H rfl _ 93 rfl rfl (by first | rfl | simp) hbase0 (by (try simp only [List.length_append, List.length_cons, List.length_nil]); omega) ?_; intro v1 w1 H1; clear H; have H := H1; clear H1; clear k0 k1 k2 k3 k4)
      | (go_at_call 125; refine (appendFloat_any T hT _ (by assumption) base _ _ _ H.own (H.based hbase0) (by (try simp only [List.length_append, List.length_cons, List.length_nil]); omega) (HT.out.mono H.grown hn3 hn2) hg3 hg2).mono ?_; rintro e w' ⟨v', rfl, H'⟩; have H1 := H.trans H'; clear H H'; have H := H1; clear H1; clear k0 k1 k2 k3 k4; obtain ⟨k0, k1, k2, k3, k4⟩ := HC.out _ _ _ H)
      | (go_at_call 126; refine (Is3D_any d h0 h1 _).mono ?_; rintro e w' ⟨rfl, rfl⟩))
    go_ret
    refine hfin.out _ _ ?_
    have e : jsonPl T x y z d = [91] ++ decT T x ++ [44] ++ decT T y ++ ([44] ++ decT T z) ++ [93] := by unfold jsonPl; rw [if_pos hd]
    rw [e]
    simpa [List.append_assoc] using H
  · have hdB : decide (d % 2 = 1) = false := by simpa using hd
    go_enter Tryz.func73, Tryz.ntmps73
    go_wp2_with (first
      | (at_builtin; refine app_byte rfl _ _ _ rfl Tryz.underlying33 infoB H rfl _ 91 rfl rfl (by first | rfl | simp) hbase0 (by (try simp only [List.length_append, List.length_cons, List.length_nil]); omega) ?_; intro v1 w1 H1; clear H; have H := H1; clear H1; clear k0 k1 k2 k3 k4; obtain ⟨k0, k1, k2, k3, k4⟩ := HC.out _ _ _ H)
      | (at_builtin; refine app_byte rfl _ _ _ rfl Tryz.underlying33 infoB H rfl _ 44 rfl rfl (by first | rfl | simp) hbase0 (by (try simp only [List.length_append, List.length_cons, List.length_nil]); omega) ?_; intro v1 w1 H1; clear H; have H := H1; clear H1; clear k0 k1 k2 k3 k4; obtain ⟨k0, k1, k2, k3, k4⟩ := HC.out _ _ _ H)
      | (at_builtin; refine app_byte rfl _ _ _ rfl Tryz.underlying33 infoB H rfl _ 93 rfl rfl (by first | rfl | simp) hbase0 (by (try simp only [List.length_append, List.length_cons, List.length_nil]); omega) ?_; intro v1 w1 H1; clear H; have H := H1; clear H1; clear k0 k1 k2 k3 k4)
      | (go_at_call 125; refine (appendFloat_any T hT _ (by assumption) base _ _ _ H.own (H.based hbase0) (by (try simp only [List.length_append, List.length_cons, List.length_nil]); omega) (HT.out.mono H.grown hn3 hn2) hg3 hg2).mono ?_; rintro e w' ⟨v', rfl, H'⟩; have H1 := H.trans H'; clear H H'; have H := H1; clear H1; clear k0 k1 k2 k3 k4; obtain ⟨k0, k1, k2, k3, k4⟩ := HC.out _ _ _ H)
      | (go_at_call 126; refine (Is3D_any d h0 h1 _).mono ?_; rintro e w' ⟨rfl, rfl⟩))
    go_ret
    refine hfin.out _ _ ?_
    have e : jsonPl T x y z d = [91] ++ decT T x ++ [44] ++ decT T y ++ [] ++ [93] := by unfold jsonPl; rw [if_neg hd]
    rw [e]
    simpa [List.append_assoc] using H

end Go.Proofs.YthcjnadceambgaaGreatDoor
