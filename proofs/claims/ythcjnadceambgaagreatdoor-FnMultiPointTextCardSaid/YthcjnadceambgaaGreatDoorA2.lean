/- The shortest decimal of a number: what it comes to does not depend on memory. -/
import Derived.Test.YthcjnadceambgaaGreatDoorA1
namespace Go.Proofs.YthcjnadceambgaaGreatDoor
open Go.RowKit

/-- What the walk needs of the table of powers of ten. -/
def P10 (T : Nat → Int) (w : World) : Prop := ∀ i, i < 1392 → w.cell? ⟨3, i, none⟩ = some (.int .u64 (T i))

set_option maxHeartbeats 1000000 in
theorem prescale_new (T : Nat → Int) (e p lp : Int) (h0 : -5000 ≤ e) (h1 : e ≤ 5000) (h2 : -348 ≤ p) (h3 : p ≤ 347) (h4 : -5000 ≤ lp) (h5 : lp ≤ 5000) (w : World) (hP : P10 T w) :
    Calls Tryz.prog 176 #[.pointer (some ⟨w.heap.size, 0, none⟩), .int .i64 e, .int .i64 p, .int .i64 lp] (w.alloc (.cells #[.int .u64 0, .int .u64 0, .int .i64 0] 190)) fun en w' =>
      en = .returned (.tuple #[]) ∧ w' = w.alloc (.cells #[.int .u64 (T ((p + 348).toNat * 2)), .int .u64 (T ((p + 348).toNat * 2 + 1)), .int .i64 (-(e + lp + 3))] 190) := by
  have d0 := hP ((p + 348).toNat * 2) (by omega)
  have d1 := hP ((p + 348).toNat * 2 + 1) (by omega)
  have hlt : 3 < w.heap.size := World.block_lt_of_cell? w ⟨3, _, none⟩ d0
  clear hP
  go_enter Tryz.func176, Tryz.ntmps176
  go_wp2
  go_end0
  exact ⟨rfl, rfl⟩

/-- The ending of shortFloat: a pair of digits and a power; nothing that was there has changed. -/
def ShortEnd (r : Int × Int) (w : World) (en : Ending) (w' : World) : Prop := en = .returned (.tuple #[.int .u64 r.1, .int .i64 r.2]) ∧ Below w.heap.size w w'
theorem shortEnd_mk {r : Int × Int} {d p d' p' : Int} {w w' : World} (hr : r = (d, p)) (hd : d = d') (hp : p = p') (hw : Below w.heap.size w w') : ShortEnd r w (.returned (.tuple #[.int .u64 d', .int .i64 p'])) w' := by
  subst hr hd hp
  exact ⟨rfl, hw⟩
theorem short_world (w : World) (o : Obj) (n : Nat) : Below w.heap.size w ((w.alloc o).drewN n) :=
  ⟨((Below.refl _ w).alloc (Nat.le_refl _) o).os, ((Below.refl _ w).alloc (Nat.le_refl _) o).tape, ((Below.refl _ w).alloc (Nat.le_refl _) o).output, ((Below.refl _ w).alloc (Nat.le_refl _) o).size, ((Below.refl _ w).alloc (Nat.le_refl _) o).block⟩

set_option maxRecDepth 100000 in
set_option maxHeartbeats 1000000 in
theorem shortFloat_1 (T : Nat → Int) (hT : ∀ i, U64 (T i)) (e : Int) (h0 : -1085 < e) (h1 : e ≤ 971) (w : World) (hP : P10 T w) (r : Int × Int)
    (hr : shortV 9223372036854775296 9223372036854776832 0 0 9223372036854775808 (T (((-(((e + 11) * 631305 - 261663) / 2097152)) + 348).toNat * 2)) (T (((-(((e + 11) * 631305 - 261663) / 2097152)) + 348).toNat * 2 + 1)) (-(e + (-(((e + 11) * 631305 - 261663) / 2097152)) * 108853 / 32768 + 3) % 64).toNat (-(((e + 11) * 631305 - 261663) / 2097152)) = r) :
    Calls Tryz.prog 171 #[.int .u64 9223372036854775808, .int .i64 e] w (ShortEnd r w) := by
  have odd1 := i64_and1
  have um : U64 9223372036854775808 := ⟨by decide, by decide⟩
  have umn : U64 9223372036854775296 := ⟨by decide, by decide⟩
  have umx : U64 9223372036854776832 := ⟨by decide, by decide⟩
  have HS := Lib.hid hr
  clear hr
  have HP := Lib.hid hP
  clear hP
  go_enter Tryz.func171, Tryz.ntmps171
  go_wp2_with (first
    | (go_at_call 166; (with_reducible refine (log10Pow2_any _ _ (by omega) (by omega)).mono ?_); rintro e w' ⟨rfl, rfl⟩)
    | (go_at_call 177; (with_reducible refine (log2Pow10_any _ _ (by omega) (by omega)).mono ?_); rintro e w' ⟨rfl, rfl⟩)
    | (go_at_call 175; (with_reducible refine (skewed_any _ _ (by omega) (by omega)).mono ?_); rintro e w' ⟨rfl, rfl⟩)
    | (go_at_call 176; (with_reducible refine (prescale_new T _ _ _ (by omega) (by omega) (by omega) (by omega) (by omega) (by omega) _ HP.out).mono ?_); rintro e w' ⟨rfl, rfl⟩)
    | (go_at_call 178; (with_reducible refine (uscale_new _ _ _ _ _ (by with_reducible assumption) (hT _) (hT _)).mono ?_); rintro e w' ⟨rfl, n, rfl⟩)
    | (go_at_call 178; (with_reducible refine (uscale_newd _ _ _ _ _ _ (by with_reducible assumption) (hT _) (hT _)).mono ?_); rintro e w' ⟨rfl, n, rfl⟩)
    | (go_at_call 179; (with_reducible refine (nudge_any _ _ _ (uscV_u64 _ _ _ _)).mono ?_); rintro e w' ⟨rfl, rfl⟩)
    | (go_at_call 180; (with_reducible refine (ceil_any _ _ (nudgeV_u64 _ _)).mono ?_); rintro e w' ⟨rfl, rfl⟩)
    | (go_at_call 181; (with_reducible refine (floor_any _ _ (nudgeV_u64 _ _)).mono ?_); rintro e w' ⟨rfl, rfl, hf0, hf1⟩)
    | (go_at_call 182; (with_reducible refine (round_any _ _ (uscV_u64 _ _ _ _)).mono ?_); rintro e w' ⟨rfl, rfl⟩))
  all_goals go_ret2
  · exact shortEnd_mk (shortV_1 HS (by assumption)) rfl (by omega) (short_world _ _ _)
  · exact shortEnd_mk (shortV_2 HS (by assumption) (by assumption)) rfl (by omega) (short_world _ _ _)
  · exact shortEnd_mk (shortV_3 HS (by assumption) (by assumption)) rfl (by omega) (short_world _ _ _)

set_option maxRecDepth 100000 in
set_option maxHeartbeats 1000000 in
theorem shortFloat_2a (T : Nat → Int) (hT : ∀ i, U64 (T i)) (m e : Int) (h0 : -1085 ≤ e) (h1 : e ≤ 971) (hm0 : 0 ≤ m) (hm1 : m < 18446744073709551616) (hg : (m == 9223372036854775808) = false) (w : World) (hP : P10 T w) (r : Int × Int)
    (hr : shortV (IntKind.u64.wrap (m - 1024)) (IntKind.u64.wrap (m + 1024)) (m / 2048 % 2) (-(m / 2048 % 2)) m (T (((-((e + 11) * 78913 / 262144)) + 348).toNat * 2)) (T (((-((e + 11) * 78913 / 262144)) + 348).toNat * 2 + 1)) (-(e + (-((e + 11) * 78913 / 262144)) * 108853 / 32768 + 3) % 64).toNat (-((e + 11) * 78913 / 262144)) = r) :
    Calls Tryz.prog 171 #[.int .u64 m, .int .i64 e] w (ShortEnd r w) := by
  have odd1 := i64_and1
  have um : U64 m := ⟨hm0, hm1⟩
  have HS := Lib.hid hr
  clear hr
  have HP := Lib.hid hP
  clear hP
  go_enter Tryz.func171, Tryz.ntmps171
  go_wp2_with (first
    | (go_at_call 166; (with_reducible refine (log10Pow2_any _ _ (by omega) (by omega)).mono ?_); rintro e w' ⟨rfl, rfl⟩)
    | (go_at_call 177; (with_reducible refine (log2Pow10_any _ _ (by omega) (by omega)).mono ?_); rintro e w' ⟨rfl, rfl⟩)
    | (go_at_call 175; (with_reducible refine (skewed_any _ _ (by omega) (by omega)).mono ?_); rintro e w' ⟨rfl, rfl⟩)
    | (go_at_call 176; (with_reducible refine (prescale_new T _ _ _ (by omega) (by omega) (by omega) (by omega) (by omega) (by omega) _ HP.out).mono ?_); rintro e w' ⟨rfl, rfl⟩)
    | (go_at_call 178; (with_reducible refine (uscale_new _ _ _ _ _ (by first | (with_reducible assumption) | (with_reducible exact u64_wrap _)) (hT _) (hT _)).mono ?_); rintro e w' ⟨rfl, n, rfl⟩)
    | (go_at_call 178; (with_reducible refine (uscale_newd _ _ _ _ _ _ (by first | (with_reducible assumption) | (with_reducible exact u64_wrap _)) (hT _) (hT _)).mono ?_); rintro e w' ⟨rfl, n, rfl⟩)
    | (go_at_call 179; (with_reducible refine (nudge_any _ _ _ (uscV_u64 _ _ _ _)).mono ?_); rintro e w' ⟨rfl, rfl⟩)
    | (go_at_call 180; (with_reducible refine (ceil_any _ _ (nudgeV_u64 _ _)).mono ?_); rintro e w' ⟨rfl, rfl⟩)
    | (go_at_call 181; (with_reducible refine (floor_any _ _ (nudgeV_u64 _ _)).mono ?_); rintro e w' ⟨rfl, rfl, hf0, hf1⟩)
    | (go_at_call 182; (with_reducible refine (round_any _ _ (uscV_u64 _ _ _ _)).mono ?_); rintro e w' ⟨rfl, rfl⟩))
  all_goals go_ret2
  · exact shortEnd_mk (shortV_1 HS (by assumption)) rfl (by omega) (short_world _ _ _)
  · exact shortEnd_mk (shortV_2 HS (by assumption) (by assumption)) rfl (by omega) (short_world _ _ _)
  · exact shortEnd_mk (shortV_3 HS (by assumption) (by assumption)) rfl (by omega) (short_world _ _ _)

set_option maxRecDepth 100000 in
set_option maxHeartbeats 1000000 in
theorem shortFloat_2b (T : Nat → Int) (hT : ∀ i, U64 (T i)) (m e : Int) (h0 : -1085 ≤ e) (h1 : e ≤ -1085) (hm0 : 0 ≤ m) (hm1 : m < 18446744073709551616) (hg : (m == 9223372036854775808) = true) (w : World) (hP : P10 T w) (r : Int × Int)
    (hr : shortV (IntKind.u64.wrap (m - 1024)) (IntKind.u64.wrap (m + 1024)) (m / 2048 % 2) (-(m / 2048 % 2)) m (T (((-((e + 11) * 78913 / 262144)) + 348).toNat * 2)) (T (((-((e + 11) * 78913 / 262144)) + 348).toNat * 2 + 1)) (-(e + (-((e + 11) * 78913 / 262144)) * 108853 / 32768 + 3) % 64).toNat (-((e + 11) * 78913 / 262144)) = r) :
    Calls Tryz.prog 171 #[.int .u64 m, .int .i64 e] w (ShortEnd r w) := by
  have odd1 := i64_and1
  have um : U64 m := ⟨hm0, hm1⟩
  have HS := Lib.hid hr
  clear hr
  have HP := Lib.hid hP
  clear hP
  go_enter Tryz.func171, Tryz.ntmps171
  go_wp2_with (first
    | (go_at_call 166; (with_reducible refine (log10Pow2_any _ _ (by omega) (by omega)).mono ?_); rintro e w' ⟨rfl, rfl⟩)
    | (go_at_call 177; (with_reducible refine (log2Pow10_any _ _ (by omega) (by omega)).mono ?_); rintro e w' ⟨rfl, rfl⟩)
    | (go_at_call 175; (with_reducible refine (skewed_any _ _ (by omega) (by omega)).mono ?_); rintro e w' ⟨rfl, rfl⟩)
    | (go_at_call 176; (with_reducible refine (prescale_new T _ _ _ (by omega) (by omega) (by omega) (by omega) (by omega) (by omega) _ HP.out).mono ?_); rintro e w' ⟨rfl, rfl⟩)
    | (go_at_call 178; (with_reducible refine (uscale_new _ _ _ _ _ (by first | (with_reducible assumption) | (with_reducible exact u64_wrap _)) (hT _) (hT _)).mono ?_); rintro e w' ⟨rfl, n, rfl⟩)
    | (go_at_call 178; (with_reducible refine (uscale_newd _ _ _ _ _ _ (by first | (with_reducible assumption) | (with_reducible exact u64_wrap _)) (hT _) (hT _)).mono ?_); rintro e w' ⟨rfl, n, rfl⟩)
    | (go_at_call 179; (with_reducible refine (nudge_any _ _ _ (uscV_u64 _ _ _ _)).mono ?_); rintro e w' ⟨rfl, rfl⟩)
    | (go_at_call 180; (with_reducible refine (ceil_any _ _ (nudgeV_u64 _ _)).mono ?_); rintro e w' ⟨rfl, rfl⟩)
    | (go_at_call 181; (with_reducible refine (floor_any _ _ (nudgeV_u64 _ _)).mono ?_); rintro e w' ⟨rfl, rfl, hf0, hf1⟩)
    | (go_at_call 182; (with_reducible refine (round_any _ _ (uscV_u64 _ _ _ _)).mono ?_); rintro e w' ⟨rfl, rfl⟩))
  all_goals go_ret2
  · exact shortEnd_mk (shortV_1 HS (by assumption)) rfl (by omega) (short_world _ _ _)
  · exact shortEnd_mk (shortV_2 HS (by assumption) (by assumption)) rfl (by omega) (short_world _ _ _)
  · exact shortEnd_mk (shortV_3 HS (by assumption) (by assumption)) rfl (by omega) (short_world _ _ _)

set_option maxRecDepth 100000 in
set_option maxHeartbeats 1000000 in
theorem shortFloat_3a (T : Nat → Int) (hT : ∀ i, U64 (T i)) (m e : Int) (h0 : -1137 ≤ e) (h1 : e < -1085) (hm0 : 0 ≤ m) (hm1 : m < 18446744073709551616) (hg : (m == 9223372036854775808) = false) (w : World) (hP : P10 T w) (r : Int × Int)
    (hr : shortV (IntKind.u64.wrap (m - IntKind.u64.wrap (2 ^ ((11 + (-1085 - e)).toNat - 1)))) (IntKind.u64.wrap (m + IntKind.u64.wrap (2 ^ ((11 + (-1085 - e)).toNat - 1)))) (wrap64 (m / 2 ^ (11 + (-1085 - e)).toNat) % 2) (-(wrap64 (m / 2 ^ (11 + (-1085 - e)).toNat) % 2)) m (T (((-((e + (11 + (-1085 - e))) * 78913 / 262144)) + 348).toNat * 2)) (T (((-((e + (11 + (-1085 - e))) * 78913 / 262144)) + 348).toNat * 2 + 1)) (-(e + (-((e + (11 + (-1085 - e))) * 78913 / 262144)) * 108853 / 32768 + 3) % 64).toNat (-((e + (11 + (-1085 - e))) * 78913 / 262144)) = r) :
    Calls Tryz.prog 171 #[.int .u64 m, .int .i64 e] w (ShortEnd r w) := by
  have odd1 := i64_and1
  have um : U64 m := ⟨hm0, hm1⟩
  have HS := Lib.hid hr
  clear hr
  have HP := Lib.hid hP
  clear hP
  go_enter Tryz.func171, Tryz.ntmps171
  go_wp2_with (first
    | (go_at_call 166; (with_reducible refine (log10Pow2_any _ _ (by omega) (by omega)).mono ?_); rintro e w' ⟨rfl, rfl⟩)
    | (go_at_call 177; (with_reducible refine (log2Pow10_any _ _ (by omega) (by omega)).mono ?_); rintro e w' ⟨rfl, rfl⟩)
    | (go_at_call 175; (with_reducible refine (skewed_any _ _ (by omega) (by omega)).mono ?_); rintro e w' ⟨rfl, rfl⟩)
    | (go_at_call 176; (with_reducible refine (prescale_new T _ _ _ (by omega) (by omega) (by omega) (by omega) (by omega) (by omega) _ HP.out).mono ?_); rintro e w' ⟨rfl, rfl⟩)
    | (go_at_call 178; (with_reducible refine (uscale_new _ _ _ _ _ (by first | (with_reducible assumption) | (with_reducible exact u64_wrap _)) (hT _) (hT _)).mono ?_); rintro e w' ⟨rfl, n, rfl⟩)
    | (go_at_call 178; (with_reducible refine (uscale_newd _ _ _ _ _ _ (by first | (with_reducible assumption) | (with_reducible exact u64_wrap _)) (hT _) (hT _)).mono ?_); rintro e w' ⟨rfl, n, rfl⟩)
    | (go_at_call 179; (with_reducible refine (nudge_any _ _ _ (uscV_u64 _ _ _ _)).mono ?_); rintro e w' ⟨rfl, rfl⟩)
    | (go_at_call 180; (with_reducible refine (ceil_any _ _ (nudgeV_u64 _ _)).mono ?_); rintro e w' ⟨rfl, rfl⟩)
    | (go_at_call 181; (with_reducible refine (floor_any _ _ (nudgeV_u64 _ _)).mono ?_); rintro e w' ⟨rfl, rfl, hf0, hf1⟩)
    | (go_at_call 182; (with_reducible refine (round_any _ _ (uscV_u64 _ _ _ _)).mono ?_); rintro e w' ⟨rfl, rfl⟩))
  all_goals go_ret2
  · exact shortEnd_mk (shortV_1 HS (by assumption)) rfl (by omega) (short_world _ _ _)
  · exact shortEnd_mk (shortV_2 HS (by assumption) (by assumption)) rfl (by omega) (short_world _ _ _)
  · exact shortEnd_mk (shortV_3 HS (by assumption) (by assumption)) rfl (by omega) (short_world _ _ _)

set_option maxRecDepth 100000 in
set_option maxHeartbeats 1000000 in
theorem shortFloat_3b (T : Nat → Int) (hT : ∀ i, U64 (T i)) (m e : Int) (h0 : -1137 ≤ e) (h1 : e < -1085) (hm0 : 0 ≤ m) (hm1 : m < 18446744073709551616) (hg : (m == 9223372036854775808) = true) (w : World) (hP : P10 T w) (r : Int × Int)
    (hr : shortV (IntKind.u64.wrap (m - IntKind.u64.wrap (2 ^ ((11 + (-1085 - e)).toNat - 1)))) (IntKind.u64.wrap (m + IntKind.u64.wrap (2 ^ ((11 + (-1085 - e)).toNat - 1)))) (wrap64 (m / 2 ^ (11 + (-1085 - e)).toNat) % 2) (-(wrap64 (m / 2 ^ (11 + (-1085 - e)).toNat) % 2)) m (T (((-((e + (11 + (-1085 - e))) * 78913 / 262144)) + 348).toNat * 2)) (T (((-((e + (11 + (-1085 - e))) * 78913 / 262144)) + 348).toNat * 2 + 1)) (-(e + (-((e + (11 + (-1085 - e))) * 78913 / 262144)) * 108853 / 32768 + 3) % 64).toNat (-((e + (11 + (-1085 - e))) * 78913 / 262144)) = r) :
    Calls Tryz.prog 171 #[.int .u64 m, .int .i64 e] w (ShortEnd r w) := by
  have odd1 := i64_and1
  have um : U64 m := ⟨hm0, hm1⟩
  have HS := Lib.hid hr
  clear hr
  have HP := Lib.hid hP
  clear hP
  go_enter Tryz.func171, Tryz.ntmps171
  go_wp2_with (first
    | (go_at_call 166; (with_reducible refine (log10Pow2_any _ _ (by omega) (by omega)).mono ?_); rintro e w' ⟨rfl, rfl⟩)
    | (go_at_call 177; (with_reducible refine (log2Pow10_any _ _ (by omega) (by omega)).mono ?_); rintro e w' ⟨rfl, rfl⟩)
    | (go_at_call 175; (with_reducible refine (skewed_any _ _ (by omega) (by omega)).mono ?_); rintro e w' ⟨rfl, rfl⟩)
    | (go_at_call 176; (with_reducible refine (prescale_new T _ _ _ (by omega) (by omega) (by omega) (by omega) (by omega) (by omega) _ HP.out).mono ?_); rintro e w' ⟨rfl, rfl⟩)
    | (go_at_call 178; (with_reducible refine (uscale_new _ _ _ _ _ (by first | (with_reducible assumption) | (with_reducible exact u64_wrap _)) (hT _) (hT _)).mono ?_); rintro e w' ⟨rfl, n, rfl⟩)
    | (go_at_call 178; (with_reducible refine (uscale_newd _ _ _ _ _ _ (by first | (with_reducible assumption) | (with_reducible exact u64_wrap _)) (hT _) (hT _)).mono ?_); rintro e w' ⟨rfl, n, rfl⟩)
    | (go_at_call 179; (with_reducible refine (nudge_any _ _ _ (uscV_u64 _ _ _ _)).mono ?_); rintro e w' ⟨rfl, rfl⟩)
    | (go_at_call 180; (with_reducible refine (ceil_any _ _ (nudgeV_u64 _ _)).mono ?_); rintro e w' ⟨rfl, rfl⟩)
    | (go_at_call 181; (with_reducible refine (floor_any _ _ (nudgeV_u64 _ _)).mono ?_); rintro e w' ⟨rfl, rfl, hf0, hf1⟩)
    | (go_at_call 182; (with_reducible refine (round_any _ _ (uscV_u64 _ _ _ _)).mono ?_); rintro e w' ⟨rfl, rfl⟩))
  all_goals go_ret2
  · exact shortEnd_mk (shortV_1 HS (by assumption)) rfl (by omega) (short_world _ _ _)
  · exact shortEnd_mk (shortV_2 HS (by assumption) (by assumption)) rfl (by omega) (short_world _ _ _)
  · exact shortEnd_mk (shortV_3 HS (by assumption) (by assumption)) rfl (by omega) (short_world _ _ _)


/-- The shortest decimal of m times two to the e: one pair, whatever memory holds beside the table. -/
theorem shortFloat_any (T : Nat → Int) (hT : ∀ i, U64 (T i)) (m e : Int) (h0 : -1137 ≤ e) (h1 : e ≤ 971) (hm0 : 0 ≤ m) (hm1 : m < 18446744073709551616) :
    ∃ r : Int × Int, U64 r.1 ∧ -400 ≤ r.2 ∧ r.2 ≤ 400 ∧ ∀ w, P10 T w → Calls Tryz.prog 171 #[.int .u64 m, .int .i64 e] w (ShortEnd r w) := by
  have key : ∀ (mn mx od nod mm hi lo : Int) (s : Nat) (p : Int), -390 ≤ p → p ≤ 390 → (∀ r, shortV mn mx od nod mm hi lo s p = r → ∀ w, P10 T w → Calls Tryz.prog 171 #[.int .u64 m, .int .i64 e] w (ShortEnd r w)) →
      ∃ r : Int × Int, U64 r.1 ∧ -400 ≤ r.2 ∧ r.2 ≤ 400 ∧ ∀ w, P10 T w → Calls Tryz.prog 171 #[.int .u64 m, .int .i64 e] w (ShortEnd r w) :=
    fun mn mx od nod mm hi lo s p hp0 hp1 h => ⟨_, shortV_u64 mn mx od nod mm hi lo s p, (shortV_pow mn mx od nod mm hi lo s p hp0 hp1).1, (shortV_pow mn mx od nod mm hi lo s p hp0 hp1).2, h _ rfl⟩
  by_cases hm : m = 9223372036854775808
  · have hg : (m == 9223372036854775808) = true := by simpa using hm
    by_cases he : -1085 < e
    · subst hm
      exact key _ _ _ _ _ _ _ _ _ (by omega) (by omega) fun r hr w hP => shortFloat_1 T hT e he h1 w hP r hr
    · by_cases he' : e = -1085
      · exact key _ _ _ _ _ _ _ _ _ (by omega) (by omega) fun r hr w hP => shortFloat_2b T hT m e (by omega) (by omega) hm0 hm1 hg w hP r hr
      · exact key _ _ _ _ _ _ _ _ _ (by omega) (by omega) fun r hr w hP => shortFloat_3b T hT m e h0 (by omega) hm0 hm1 hg w hP r hr
  · have hg : (m == 9223372036854775808) = false := by simpa using hm
    by_cases he : -1085 ≤ e
    · exact key _ _ _ _ _ _ _ _ _ (by omega) (by omega) fun r hr w hP => shortFloat_2a T hT m e he h1 hm0 hm1 hg w hP r hr
    · exact key _ _ _ _ _ _ _ _ _ (by omega) (by omega) fun r hr w hP => shortFloat_3a T hT m e h0 (by omega) hm0 hm1 hg w hP r hr

end Go.Proofs.YthcjnadceambgaaGreatDoor
