/- Plain facts on machine numbers, which the walks of the decimal writer lean on. Small number functions of the decimal writer: what each returns. The shortest decimal of a number: what it comes to does not depend on memory. The digits of a number, written into a row of 32 bytes. The layout of a decimal without an exponent: bytes that depend on the sign, the digits and the places alone. The decimal of a number, shortest, without an exponent: appended bytes that depend on the number alone. -/
import Derived.WalkKit
import Derived.WalkSpells
import Derived.WalkLawsBesides
import Derived.OpenShut
import Derived.Test.YthcjnadceambgaaGreatDoorRows
import Derived.Test.YthcjnadceambgaaGreatDoorShelf
import Derived.Handy
import Derived.Deep.QuietTactic
import Derived.BigQuiet
import Derived.Lib.ItoaMem
import Derived.Deep.DeepCutAuto
import Derived.Lib.ItoaLen
import Derived.Test.YthcjnadceambgaaGreatDoorJST1
namespace Go.Proofs.YthcjnadceambgaaGreatDoor
open Go.RowKit

theorem i64_and63 (n : Int) : bits .and .i64 n 63 = n % 64 := by
  have h127 : (BitVec.ofInt 64 63).toNat = 2 ^ 6 - 1 := by decide
  have key : (BitVec.ofInt 64 n &&& BitVec.ofInt 64 63).toNat = (n % ((2 ^ 64 : Nat) : Int)).toNat % 2 ^ 6 := by
    rw [BitVec.toNat_and, BitVec.toNat_ofInt, h127, Nat.and_two_pow_sub_one_eq_mod]
  show IntKind.i64.wrap ((BitVec.ofInt 64 n &&& BitVec.ofInt 64 63).toNat : Nat) = n % 64
  rw [key, IntKind.wrap_i64]
  omega

theorem i64_and1 (n : Int) : bits .and .i64 n 1 = n % 2 := by
  have h127 : (BitVec.ofInt 64 1).toNat = 2 ^ 1 - 1 := by decide
  have key : (BitVec.ofInt 64 n &&& BitVec.ofInt 64 1).toNat = (n % ((2 ^ 64 : Nat) : Int)).toNat % 2 ^ 1 := by
    rw [BitVec.toNat_and, BitVec.toNat_ofInt, h127, Nat.and_two_pow_sub_one_eq_mod]
  show IntKind.i64.wrap ((BitVec.ofInt 64 n &&& BitVec.ofInt 64 1).toNat : Nat) = n % 2
  rw [key, IntKind.wrap_i64]
  omega

theorem i64_and2047 (n : Int) : bits .and .i64 n 2047 = n % 2048 := by
  have h127 : (BitVec.ofInt 64 2047).toNat = 2 ^ 11 - 1 := by decide
  have key : (BitVec.ofInt 64 n &&& BitVec.ofInt 64 2047).toNat = (n % ((2 ^ 64 : Nat) : Int)).toNat % 2 ^ 11 := by
    rw [BitVec.toNat_and, BitVec.toNat_ofInt, h127, Nat.and_two_pow_sub_one_eq_mod]
  show IntKind.i64.wrap ((BitVec.ofInt 64 n &&& BitVec.ofInt 64 2047).toNat : Nat) = n % 2048
  rw [key, IntKind.wrap_i64]
  omega
theorem u64_and52 (b : Nat) (hb : b < 18446744073709551616) : bits .and .u64 (b : Int) 4503599627370495 = ((b % 4503599627370496 : Nat) : Int) := by
  have h := u64_and_nat b 4503599627370495 hb (by omega)
  have e : b &&& 4503599627370495 = b % 4503599627370496 := Nat.and_two_pow_sub_one_eq_mod b 52
  rw [e] at h
  exact h
theorem u64_or52 (m : Nat) (hm : m < 4503599627370496) : bits .or .u64 (m : Int) 4503599627370496 = ((m + 4503599627370496 : Nat) : Int) := by
  have h := u64_or_nat m 4503599627370496 (by omega) (by omega)
  have e : m ||| 4503599627370496 = m + 4503599627370496 := by
    have := Nat.two_pow_add_eq_or_of_lt (i := 52) hm 1
    rw [Nat.or_comm]
    simpa [Nat.add_comm] using this.symm
  rw [e] at h
  exact h

/-- A number of the kind uint64. -/
def U64 (n : Int) : Prop := 0 ≤ n ∧ n < 18446744073709551616
theorem U64.of_wf {n : Int} (h : (Lit.int .u64 n).wf = true) : U64 n := by
  simp [Lit.wf, IntKind.min, IntKind.max, IntKind.signed, IntKind.bits] at h
  unfold U64
  omega
theorem u64_wrap (n : Int) : U64 (IntKind.u64.wrap n) := .of_wf (wf_wrap _ _)
theorem u64_bits (op : BinOp) (x y : Int) : U64 (bits op .u64 x y) := .of_wf (wf_bits _ _ _ _)
theorem u64_zero : U64 0 := ⟨by decide, by decide⟩
theorem u64_div {n : Int} (h : U64 n) (k : Nat) : U64 (n / (k : Int)) := by
  obtain ⟨h0, h1⟩ := h
  obtain ⟨m, rfl⟩ := Int.eq_ofNat_of_zero_le h0
  have h2 : m / k ≤ m := Nat.div_le_self m k
  have e : ((m : Int) / (k : Int)) = ((m / k : Nat) : Int) := by simp
  rw [e]
  exact ⟨Int.natCast_nonneg _, Int.lt_of_le_of_lt (Int.ofNat_le.2 h2) h1⟩
theorem u64_ite {c : Prop} [Decidable c] {a b : Int} (ha : U64 a) (hb : U64 b) : U64 (if c then a else b) := by split <;> assumption

def b2i (b : Bool) : Int := bif b then 1 else 0
theorem b2i_range (b : Bool) : 0 ≤ b2i b ∧ b2i b ≤ 1 := by cases b <;> decide

/-- A function under seal: nothing unfolds it by itself. -/
noncomputable def seal_ {α : Sort _} (a : α) : α := Classical.choose (⟨a, rfl⟩ : ∃ b, b = a)
theorem seal_eq {α : Sort _} (a : α) : seal_ a = a := Classical.choose_spec (⟨a, rfl⟩ : ∃ b, b = a)

/-- The scaled number of one multiplication by a power of ten's upper and lower word, shifted by m. -/
noncomputable def uscV : Int → Int → Int → Nat → Int := seal_ fun x hi lo m =>
  if (IntKind.u64.wrap (x * hi / 18446744073709551616 / 2 ^ m * 2 ^ m) != x * hi / 18446744073709551616) = true then
    bits BinOp.or IntKind.u64 (x * hi / 18446744073709551616 / 2 ^ m) 1
  else bits BinOp.or IntKind.u64 (IntKind.u64.wrap (x * hi / 18446744073709551616 - b2i (decide (x * hi % 18446744073709551616 < x * lo / 18446744073709551616))) / 2 ^ m)
    (b2i (decide (1 < IntKind.u64.wrap (x * hi % 18446744073709551616 - x * lo / 18446744073709551616))))
theorem uscV_eq (x hi lo : Int) (m : Nat) : uscV x hi lo m = 
  if (IntKind.u64.wrap (x * hi / 18446744073709551616 / 2 ^ m * 2 ^ m) != x * hi / 18446744073709551616) = true then
    bits BinOp.or IntKind.u64 (x * hi / 18446744073709551616 / 2 ^ m) 1
  else bits BinOp.or IntKind.u64 (IntKind.u64.wrap (x * hi / 18446744073709551616 - b2i (decide (x * hi % 18446744073709551616 < x * lo / 18446744073709551616))) / 2 ^ m)
    (b2i (decide (1 < IntKind.u64.wrap (x * hi % 18446744073709551616 - x * lo / 18446744073709551616)))) := by
  unfold uscV
  rw [seal_eq]
theorem uscV_u64 (x hi lo : Int) (m : Nat) : U64 (uscV x hi lo m) := by
  rw [uscV_eq]
  exact u64_ite (u64_bits _ _ _) (u64_bits _ _ _)

/-- Cells of a new block of three, draws let by. -/
theorem new3_0 (w : World) (x y z : Value) (t : Nat) : (w.alloc (.cells #[x, y, z] t)).cell? ⟨w.heap.size, 0, none⟩ = some x := by simp
theorem new3_1 (w : World) (x y z : Value) (t : Nat) : (w.alloc (.cells #[x, y, z] t)).cell? ⟨w.heap.size, 1, none⟩ = some y := by simp
theorem new3_2 (w : World) (x y z : Value) (t : Nat) : (w.alloc (.cells #[x, y, z] t)).cell? ⟨w.heap.size, 2, none⟩ = some z := by simp
theorem new3_0d (w : World) (x y z : Value) (t n : Nat) : ((w.alloc (.cells #[x, y, z] t)).drewN n).cell? ⟨w.heap.size, 0, none⟩ = some x := new3_0 ..
theorem new3_1d (w : World) (x y z : Value) (t n : Nat) : ((w.alloc (.cells #[x, y, z] t)).drewN n).cell? ⟨w.heap.size, 1, none⟩ = some y := new3_1 ..
theorem new3_2d (w : World) (x y z : Value) (t n : Nat) : ((w.alloc (.cells #[x, y, z] t)).drewN n).cell? ⟨w.heap.size, 2, none⟩ = some z := new3_2 ..

noncomputable def nudgeV : Int → Int → Int := seal_ fun u d => IntKind.u64.wrap (u + IntKind.u64.wrap d)
noncomputable def ceilV : Int → Int := seal_ fun u => IntKind.u64.wrap (u + 3) / 4
noncomputable def floorV : Int → Int := seal_ fun u => u / 4
noncomputable def roundV : Int → Int := seal_ fun u => IntKind.u64.wrap (IntKind.u64.wrap (u + 1) + bits BinOp.and IntKind.u64 (u / 4) 1) / 4
theorem nudgeV_eq (u d : Int) : nudgeV u d = IntKind.u64.wrap (u + IntKind.u64.wrap d) := by unfold nudgeV; rw [seal_eq]
theorem ceilV_eq (u : Int) : ceilV u = IntKind.u64.wrap (u + 3) / 4 := by unfold ceilV; rw [seal_eq]
theorem floorV_eq (u : Int) : floorV u = u / 4 := by unfold floorV; rw [seal_eq]
theorem roundV_eq (u : Int) : roundV u = IntKind.u64.wrap (IntKind.u64.wrap (u + 1) + bits BinOp.and IntKind.u64 (u / 4) 1) / 4 := by unfold roundV; rw [seal_eq]
theorem nudgeV_u64 (u d : Int) : U64 (nudgeV u d) := by rw [nudgeV_eq]; exact u64_wrap _
theorem ceilV_u64 (u : Int) : U64 (ceilV u) := by rw [ceilV_eq]; exact u64_div (u64_wrap _) 4
theorem floorV_u64 {u : Int} (h : U64 u) : U64 (floorV u) := by rw [floorV_eq]; exact u64_div h 4
theorem roundV_u64 (u : Int) : U64 (roundV u) := by rw [roundV_eq]; exact u64_div (u64_wrap _) 4

/-- The digits and the power of the shortest decimal, behind the choice of the two ends. -/
noncomputable def shortV (mn mx od nod m hi lo : Int) (s : Nat) (p : Int) : Int × Int :=
  if ceilV (nudgeV (uscV mn hi lo s) od) ≤ floorV (nudgeV (uscV mx hi lo s) nod) / 10 * 10 then (floorV (nudgeV (uscV mx hi lo s) nod) / 10, -(p - 1))
  else if ceilV (nudgeV (uscV mn hi lo s) od) < floorV (nudgeV (uscV mx hi lo s) nod) then (roundV (uscV m hi lo s), -p)
  else (ceilV (nudgeV (uscV mn hi lo s) od), -p)
theorem shortV_u64 (mn mx od nod m hi lo : Int) (s : Nat) (p : Int) : U64 (shortV mn mx od nod m hi lo s p).1 := by
  unfold shortV
  split
  · exact u64_div (floorV_u64 (nudgeV_u64 _ _)) 10
  · split
    · exact roundV_u64 _
    · exact ceilV_u64 _
theorem shortV_pow (mn mx od nod m hi lo : Int) (s : Nat) (p : Int) (h0 : -390 ≤ p) (h1 : p ≤ 390) : -400 ≤ (shortV mn mx od nod m hi lo s p).2 ∧ (shortV mn mx od nod m hi lo s p).2 ≤ 400 := by
  unfold shortV
  split
  · simp only; omega
  · split <;> (simp only; omega)
theorem shortV_1 {mn mx od nod m hi lo : Int} {s : Nat} {p : Int} {r : Int × Int} (H : Hid (shortV mn mx od nod m hi lo s p = r))
    (h : ceilV (nudgeV (uscV mn hi lo s) od) ≤ floorV (nudgeV (uscV mx hi lo s) nod) / 10 * 10) :
    r = (floorV (nudgeV (uscV mx hi lo s) nod) / 10, -(p - 1)) := H.out.symm.trans (if_pos h)
theorem shortV_2 {mn mx od nod m hi lo : Int} {s : Nat} {p : Int} {r : Int × Int} (H : Hid (shortV mn mx od nod m hi lo s p = r))
    (h : floorV (nudgeV (uscV mx hi lo s) nod) / 10 * 10 < ceilV (nudgeV (uscV mn hi lo s) od))
    (h' : ceilV (nudgeV (uscV mn hi lo s) od) < floorV (nudgeV (uscV mx hi lo s) nod)) : r = (roundV (uscV m hi lo s), -p) := by
  rw [← H.out, shortV, if_neg (Int.not_le.2 h), if_pos h']
theorem shortV_3 {mn mx od nod m hi lo : Int} {s : Nat} {p : Int} {r : Int × Int} (H : Hid (shortV mn mx od nod m hi lo s p = r))
    (h : floorV (nudgeV (uscV mx hi lo s) nod) / 10 * 10 < ceilV (nudgeV (uscV mn hi lo s) od))
    (h' : floorV (nudgeV (uscV mx hi lo s) nod) ≤ ceilV (nudgeV (uscV mn hi lo s) od)) : r = (ceilV (nudgeV (uscV mn hi lo s) od), -p) := by
  rw [← H.out, shortV, if_neg (Int.not_le.2 h), if_neg (Int.not_lt.2 h')]

theorem shl_range (n : Nat) : 0 ≤ (2 : Int) ^ n := Int.le_of_lt (Int.pow_pos (by decide))

end Go.Proofs.YthcjnadceambgaaGreatDoor
namespace Go.Proofs.YthcjnadceambgaaGreatDoor
open Go.RowKit

set_option maxHeartbeats 400000 in
theorem log10Pow2_any (x : Int) (w : World) (h0 : -20000 ≤ x) (h1 : x ≤ 20000) :
    Calls Tryz.prog 166 #[.int .i64 x] w fun e w' => e = .returned (.int .i64 (x * 78913 / 262144)) ∧ w' = w := by
  go_enter Tryz.func166, Tryz.ntmps166
  go_wp2
  go_ret
  exact ⟨rfl, rfl⟩

set_option maxHeartbeats 400000 in
theorem log2Pow10_any (x : Int) (w : World) (h0 : -20000 ≤ x) (h1 : x ≤ 20000) :
    Calls Tryz.prog 177 #[.int .i64 x] w fun e w' => e = .returned (.int .i64 (x * 108853 / 32768)) ∧ w' = w := by
  go_enter Tryz.func177, Tryz.ntmps177
  go_wp2
  go_ret
  exact ⟨rfl, rfl⟩

set_option maxHeartbeats 400000 in
theorem skewed_any (x : Int) (w : World) (h0 : -20000 ≤ x) (h1 : x ≤ 20000) :
    Calls Tryz.prog 175 #[.int .i64 x] w fun e w' => e = .returned (.int .i64 ((x * 631305 - 261663) / 2097152)) ∧ w' = w := by
  go_enter Tryz.func175, Tryz.ntmps175
  go_wp2
  go_ret
  exact ⟨rfl, rfl⟩

set_option maxHeartbeats 400000 in
theorem bool2u_any (b : Bool) (w : World) :
    Calls Tryz.prog 196 #[.bool b] w fun e w' => e = .returned (.int .u64 (b2i b)) ∧ w' = w := by
  cases b
  all_goals
    go_enter Tryz.func196, Tryz.ntmps196
    go_wp2
    go_ret
    exact ⟨rfl, rfl⟩

set_option maxHeartbeats 1000000 in
theorem uscale_any (x hi lo s : Int) (Hx : U64 x) (Hhi : U64 hi) (Hlo : U64 lo)
    (w : World) (b : Nat) (c0 : w.cell? ⟨b, 0, none⟩ = some (.int .u64 hi)) (c1 : w.cell? ⟨b, 1, none⟩ = some (.int .u64 lo)) (c2 : w.cell? ⟨b, 2, none⟩ = some (.int .i64 s)) :
    Calls Tryz.prog 178 #[.int .u64 x, .pointer (some ⟨b, 0, none⟩)] w fun e w' => e = .returned (.int .u64 (uscV x hi lo (s % 64).toNat)) ∧ ∃ n, w' = w.drewN n := by
  obtain ⟨hx0, hx⟩ := Hx
  obtain ⟨hh0, hhi⟩ := Hhi
  obtain ⟨hl0, hlo⟩ := Hlo
  obtain ⟨x, rfl⟩ := Int.eq_ofNat_of_zero_le hx0
  obtain ⟨hi, rfl⟩ := Int.eq_ofNat_of_zero_le hh0
  obtain ⟨lo, rfl⟩ := Int.eq_ofNat_of_zero_le hl0
  have hx' : x < 18446744073709551616 := by omega
  have hhi' : hi < 18446744073709551616 := by omega
  have hlo' : lo < 18446744073709551616 := by omega
  clear hx hhi hlo hx0 hh0 hl0
  obtain ⟨m, hm, he⟩ : ∃ m : Nat, m ≤ 63 ∧ bits BinOp.and IntKind.i64 s 63 = (m : Int) := ⟨(s % 64).toNat, by omega, by rw [i64_and63]; omega⟩
  have em : (s % 64).toNat = m := by rw [i64_and63] at he; omega
  rw [em]
  clear em
  rw [uscV_eq]
  by_cases hc : (IntKind.u64.wrap ((x : Int) * hi / 18446744073709551616 / 2 ^ m * 2 ^ m) != (x : Int) * hi / 18446744073709551616) = true
  · rw [if_pos hc]
    go_enter Tryz.func178, Tryz.ntmps178
    go_wp2_with (first
      | (go_at_call 195; refine (Tryz.bits_Mul64 _ _ (by assumption) (by assumption) _).mono ?_; rintro e w' ⟨rfl, rfl⟩)
      | (go_at_call 196; refine (bool2u_any _ _).mono ?_; rintro e w' ⟨rfl, rfl⟩))
    go_ret
    exact ⟨rfl, 0, rfl⟩
  · rw [if_neg hc]
    have hc' := Bool.eq_false_iff.2 hc
    clear hc
    go_enter Tryz.func178, Tryz.ntmps178
    go_wp2_with (first
      | (go_at_call 195; refine (Tryz.bits_Mul64 _ _ (by assumption) (by assumption) _).mono ?_; rintro e w' ⟨rfl, rfl⟩)
      | (go_at_call 196; refine (bool2u_any _ _).mono ?_; rintro e w' ⟨rfl, rfl⟩))
    go_quiet ((go_at_call 196; exact Calls.quiet_of_same ((bool2u_any _ _).mono fun e w' h => h)))
    go_wp2
    go_ret
    exact ⟨rfl, _, rfl⟩

theorem uscale_new (x hi lo s : Int) (w : World) (Hx : U64 x) (Hhi : U64 hi) (Hlo : U64 lo) :
    Calls Tryz.prog 178 #[.int .u64 x, .pointer (some ⟨w.heap.size, 0, none⟩)] (w.alloc (.cells #[.int .u64 hi, .int .u64 lo, .int .i64 s] 190)) fun e w' => e = .returned (.int .u64 (uscV x hi lo (s % 64).toNat)) ∧ ∃ n, w' = (w.alloc (.cells #[.int .u64 hi, .int .u64 lo, .int .i64 s] 190)).drewN n :=
  uscale_any x hi lo s Hx Hhi Hlo _ _ (new3_0 ..) (new3_1 ..) (new3_2 ..)

theorem uscale_newd (x hi lo s : Int) (w : World) (n : Nat) (Hx : U64 x) (Hhi : U64 hi) (Hlo : U64 lo) :
    Calls Tryz.prog 178 #[.int .u64 x, .pointer (some ⟨w.heap.size, 0, none⟩)] ((w.alloc (.cells #[.int .u64 hi, .int .u64 lo, .int .i64 s] 190)).drewN n) fun e w' => e = .returned (.int .u64 (uscV x hi lo (s % 64).toNat)) ∧ ∃ k, w' = (w.alloc (.cells #[.int .u64 hi, .int .u64 lo, .int .i64 s] 190)).drewN k := by
  refine (uscale_any x hi lo s Hx Hhi Hlo _ _ (new3_0d ..) (new3_1d ..) (new3_2d ..)).mono ?_
  rintro e w' ⟨he, m, hw⟩
  exact ⟨he, n + m, by rw [hw, World.drewN_drewN]⟩

set_option maxHeartbeats 400000 in
theorem nudge_any (u d : Int) (w : World) (hu : U64 u) : Calls Tryz.prog 179 #[.int .u64 u, .int .i64 d] w fun e w' => e = .returned (.int .u64 (nudgeV u d)) ∧ w' = w := by
  obtain ⟨h0, h1⟩ := hu
  go_enter Tryz.func179, Tryz.ntmps179
  go_wp2
  go_ret
  exact ⟨by rw [nudgeV_eq]; rfl, rfl⟩

set_option maxHeartbeats 400000 in
theorem ceil_any (u : Int) (w : World) (hu : U64 u) : Calls Tryz.prog 180 #[.int .u64 u] w fun e w' => e = .returned (.int .u64 (ceilV u)) ∧ w' = w := by
  obtain ⟨h0, h1⟩ := hu
  go_enter Tryz.func180, Tryz.ntmps180
  go_wp2
  go_ret
  exact ⟨by rw [ceilV_eq]; rfl, rfl⟩

set_option maxHeartbeats 400000 in
theorem floor_any (u : Int) (w : World) (hu : U64 u) : Calls Tryz.prog 181 #[.int .u64 u] w fun e w' => e = .returned (.int .u64 (floorV u)) ∧ w' = w ∧ 0 ≤ floorV u ∧ floorV u < 18446744073709551616 := by
  obtain ⟨h0, h1⟩ := hu
  go_enter Tryz.func181, Tryz.ntmps181
  go_wp2
  go_ret
  exact ⟨by rw [floorV_eq]; rfl, rfl, floorV_u64 ⟨h0, h1⟩⟩

set_option maxHeartbeats 400000 in
theorem round_any (u : Int) (w : World) (hu : U64 u) : Calls Tryz.prog 182 #[.int .u64 u] w fun e w' => e = .returned (.int .u64 (roundV u)) ∧ w' = w := by
  obtain ⟨h0, h1⟩ := hu
  go_enter Tryz.func182, Tryz.ntmps182
  go_wp2
  go_ret
  exact ⟨by rw [roundV_eq]; rfl, rfl⟩

end Go.Proofs.YthcjnadceambgaaGreatDoor
namespace Go.Proofs.YthcjnadceambgaaGreatDoor
open Go.RowKit

/-- What the walk needs of the table of powers of ten. -/
def P10 (T : Nat → Int) (w : World) : Prop := ∀ i, i < 1392 → w.cell? ⟨3, i, none⟩ = some (.int .u64 (T i))

set_option maxHeartbeats 1000000 in
theorem prescale_new (T : Nat → Int) (e p lp : Int) (h0 : -5000 ≤ e) (h1 : e ≤ 5000) (h2 : -348 ≤ p) (h3 : p ≤ 347) (h4 : -5000 ≤ lp) (h5 : lp ≤ 5000) (w : World) (hP : P10 T w) :
    Calls Tryz.prog 176 #[.pointer (some ⟨w.heap.size, 0, none⟩), .int .i64 e, .int .i64 p, .int .i64 lp] (w.alloc (.cells #[.int .u64 0, .int .u64 0, .int .i64 0] 190)) fun en w' =>
      en = .returned (.tuple #[]) ∧ w' = w.alloc (.cells #[.int .u64 (T ((p + 348).toNat * 2)), .int .u64 (T ((p + 348).toNat * 2 + 1)), .int .i64 (-(e + lp + 3))] 190) := by
  have d0 := hP ((p + 348).toNat * 2) (by omega)
  have d1 := hP ((p + 348).toNat * 2 + 1) (by omega)
  have hlt : 3 < w.heap.size := World.block_lt_of_cell? w ⟨3, _, none⟩ d0
  clear hP
  go_enter Tryz.func176, Tryz.ntmps176
  go_wp2
  go_end0
  exact ⟨rfl, rfl⟩

/-- The ending of shortFloat: a pair of digits and a power; nothing that was there has changed. -/
def ShortEnd (r : Int × Int) (w : World) (en : Ending) (w' : World) : Prop := en = .returned (.tuple #[.int .u64 r.1, .int .i64 r.2]) ∧ Below w.heap.size w w'
theorem shortEnd_mk {r : Int × Int} {d p d' p' : Int} {w w' : World} (hr : r = (d, p)) (hd : d = d') (hp : p = p') (hw : Below w.heap.size w w') : ShortEnd r w (.returned (.tuple #[.int .u64 d', .int .i64 p'])) w' := by
  subst hr hd hp
  exact ⟨rfl, hw⟩
theorem short_world (w : World) (o : Obj) (n : Nat) : Below w.heap.size w ((w.alloc o).drewN n) :=
  ⟨((Below.refl _ w).alloc (Nat.le_refl _) o).os, ((Below.refl _ w).alloc (Nat.le_refl _) o).tape, ((Below.refl _ w).alloc (Nat.le_refl _) o).output, ((Below.refl _ w).alloc (Nat.le_refl _) o).size, ((Below.refl _ w).alloc (Nat.le_refl _) o).block⟩

set_option maxRecDepth 100000 in
set_option maxHeartbeats 1000000 in
theorem shortFloat_1 (T : Nat → Int) (hT : ∀ i, U64 (T i)) (e : Int) (h0 : -1085 < e) (h1 : e ≤ 971) (w : World) (hP : P10 T w) (r : Int × Int)
    (hr : shortV 9223372036854775296 9223372036854776832 0 0 9223372036854775808 (T (((-(((e + 11) * 631305 - 261663) / 2097152)) + 348).toNat * 2)) (T (((-(((e + 11) * 631305 - 261663) / 2097152)) + 348).toNat * 2 + 1)) (-(e + (-(((e + 11) * 631305 - 261663) / 2097152)) * 108853 / 32768 + 3) % 64).toNat (-(((e + 11) * 631305 - 261663) / 2097152)) = r) :
    Calls Tryz.prog 171 #[.int .u64 9223372036854775808, .int .i64 e] w (ShortEnd r w) := by
  have odd1 := i64_and1
  have um : U64 9223372036854775808 := ⟨by decide, by decide⟩
  have umn : U64 9223372036854775296 := ⟨by decide, by decide⟩
  have umx : U64 9223372036854776832 := ⟨by decide, by decide⟩
  have HS := Lib.hid hr
  clear hr
  have HP := Lib.hid hP
  clear hP
  go_enter Tryz.func171, Tryz.ntmps171
  go_wp2_with (first
    | (go_at_call 166; (with_reducible refine (log10Pow2_any _ _ (by omega) (by omega)).mono ?_); rintro e w' ⟨rfl, rfl⟩)
    | (go_at_call 177; (with_reducible refine (log2Pow10_any _ _ (by omega) (by omega)).mono ?_); rintro e w' ⟨rfl, rfl⟩)
    | (go_at_call 175; (with_reducible refine (skewed_any _ _ (by omega) (by omega)).mono ?_); rintro e w' ⟨rfl, rfl⟩)
    | (go_at_call 176; (with_reducible refine (prescale_new T _ _ _ (by omega) (by omega) (by omega) (by omega) (by omega) (by omega) _ HP.out).mono ?_); rintro e w' ⟨rfl, rfl⟩)
    | (go_at_call 178; (with_reducible refine (uscale_new _ _ _ _ _ (by with_reducible assumption) (hT _) (hT _)).mono ?_); rintro e w' ⟨rfl, n, rfl⟩)
    | (go_at_call 178; (with_reducible refine (uscale_newd _ _ _ _ _ _ (by with_reducible assumption) (hT _) (hT _)).mono ?_); rintro e w' ⟨rfl, n, rfl⟩)
    | (go_at_call 179; (with_reducible refine (nudge_any _ _ _ (uscV_u64 _ _ _ _)).mono ?_); rintro e w' ⟨rfl, rfl⟩)
    | (go_at_call 180; (with_reducible refine (ceil_any _ _ (nudgeV_u64 _ _)).mono ?_); rintro e w' ⟨rfl, rfl⟩)
    | (go_at_call 181; (with_reducible refine (floor_any _ _ (nudgeV_u64 _ _)).mono ?_); rintro e w' ⟨rfl, rfl, hf0, hf1⟩)
    | (go_at_call 182; (with_reducible refine (round_any _ _ (uscV_u64 _ _ _ _)).mono ?_); rintro e w' ⟨rfl, rfl⟩))
  all_goals go_ret2
  · exact shortEnd_mk (shortV_1 HS (by assumption)) rfl (by omega) (short_world _ _ _)
  · exact shortEnd_mk (shortV_2 HS (by assumption) (by assumption)) rfl (by omega) (short_world _ _ _)
  · exact shortEnd_mk (shortV_3 HS (by assumption) (by assumption)) rfl (by omega) (short_world _ _ _)

set_option maxRecDepth 100000 in
set_option maxHeartbeats 1000000 in
theorem shortFloat_2a (T : Nat → Int) (hT : ∀ i, U64 (T i)) (m e : Int) (h0 : -1085 ≤ e) (h1 : e ≤ 971) (hm0 : 0 ≤ m) (hm1 : m < 18446744073709551616) (hg : (m == 9223372036854775808) = false) (w : World) (hP : P10 T w) (r : Int × Int)
    (hr : shortV (IntKind.u64.wrap (m - 1024)) (IntKind.u64.wrap (m + 1024)) (m / 2048 % 2) (-(m / 2048 % 2)) m (T (((-((e + 11) * 78913 / 262144)) + 348).toNat * 2)) (T (((-((e + 11) * 78913 / 262144)) + 348).toNat * 2 + 1)) (-(e + (-((e + 11) * 78913 / 262144)) * 108853 / 32768 + 3) % 64).toNat (-((e + 11) * 78913 / 262144)) = r) :
    Calls Tryz.prog 171 #[.int .u64 m, .int .i64 e] w (ShortEnd r w) := by
  have odd1 := i64_and1
  have um : U64 m := ⟨hm0, hm1⟩
  have HS := Lib.hid hr
  clear hr
  have HP := Lib.hid hP
  clear hP
  go_enter Tryz.func171, Tryz.ntmps171
  go_wp2_with (first
    | (go_at_call 166; (with_reducible refine (log10Pow2_any _ _ (by omega) (by omega)).mono ?_); rintro e w' ⟨rfl, rfl⟩)
    | (go_at_call 177; (with_reducible refine (log2Pow10_any _ _ (by omega) (by omega)).mono ?_); rintro e w' ⟨rfl, rfl⟩)
    | (go_at_call 175; (with_reducible refine (skewed_any _ _ (by omega) (by omega)).mono ?_); rintro e w' ⟨rfl, rfl⟩)
    | (go_at_call 176; (with_reducible refine (prescale_new T _ _ _ (by omega) (by omega) (by omega) (by omega) (by omega) (by omega) _ HP.out).mono ?_); rintro e w' ⟨rfl, rfl⟩)
    | (go_at_call 178; (with_reducible refine (uscale_new _ _ _ _ _ (by first | (with_reducible assumption) | (with_reducible exact u64_wrap _)) (hT _) (hT _)).mono ?_); rintro e w' ⟨rfl, n, rfl⟩)
    | (go_at_call 178; (with_reducible refine (uscale_newd _ _ _ _ _ _ (by first | (with_reducible assumption) | (with_reducible exact u64_wrap _)) (hT _) (hT _)).mono ?_); rintro e w' ⟨rfl, n, rfl⟩)
    | (go_at_call 179; (with_reducible refine (nudge_any _ _ _ (uscV_u64 _ _ _ _)).mono ?_); rintro e w' ⟨rfl, rfl⟩)
    | (go_at_call 180; (with_reducible refine (ceil_any _ _ (nudgeV_u64 _ _)).mono ?_); rintro e w' ⟨rfl, rfl⟩)
    | (go_at_call 181; (with_reducible refine (floor_any _ _ (nudgeV_u64 _ _)).mono ?_); rintro e w' ⟨rfl, rfl, hf0, hf1⟩)
    | (go_at_call 182; (with_reducible refine (round_any _ _ (uscV_u64 _ _ _ _)).mono ?_); rintro e w' ⟨rfl, rfl⟩))
  all_goals go_ret2
  · exact shortEnd_mk (shortV_1 HS (by assumption)) rfl (by omega) (short_world _ _ _)
  · exact shortEnd_mk (shortV_2 HS (by assumption) (by assumption)) rfl (by omega) (short_world _ _ _)
  · exact shortEnd_mk (shortV_3 HS (by assumption) (by assumption)) rfl (by omega) (short_world _ _ _)

set_option maxRecDepth 100000 in
set_option maxHeartbeats 1000000 in
theorem shortFloat_2b (T : Nat → Int) (hT : ∀ i, U64 (T i)) (m e : Int) (h0 : -1085 ≤ e) (h1 : e ≤ -1085) (hm0 : 0 ≤ m) (hm1 : m < 18446744073709551616) (hg : (m == 9223372036854775808) = true) (w : World) (hP : P10 T w) (r : Int × Int)
    (hr : shortV (IntKind.u64.wrap (m - 1024)) (IntKind.u64.wrap (m + 1024)) (m / 2048 % 2) (-(m / 2048 % 2)) m (T (((-((e + 11) * 78913 / 262144)) + 348).toNat * 2)) (T (((-((e + 11) * 78913 / 262144)) + 348).toNat * 2 + 1)) (-(e + (-((e + 11) * 78913 / 262144)) * 108853 / 32768 + 3) % 64).toNat (-((e + 11) * 78913 / 262144)) = r) :
    Calls Tryz.prog 171 #[.int .u64 m, .int .i64 e] w (ShortEnd r w) := by
  have odd1 := i64_and1
  have um : U64 m := ⟨hm0, hm1⟩
  have HS := Lib.hid hr
  clear hr
  have HP := Lib.hid hP
  clear hP
  go_enter Tryz.func171, Tryz.ntmps171
  go_wp2_with (first
    | (go_at_call 166; (with_reducible refine (log10Pow2_any _ _ (by omega) (by omega)).mono ?_); rintro e w' ⟨rfl, rfl⟩)
    | (go_at_call 177; (with_reducible refine (log2Pow10_any _ _ (by omega) (by omega)).mono ?_); rintro e w' ⟨rfl, rfl⟩)
    | (go_at_call 175; (with_reducible refine (skewed_any _ _ (by omega) (by omega)).mono ?_); rintro e w' ⟨rfl, rfl⟩)
    | (go_at_call 176; (with_reducible refine (prescale_new T _ _ _ (by omega) (by omega) (by omega) (by omega) (by omega) (by omega) _ HP.out).mono ?_); rintro e w' ⟨rfl, rfl⟩)
    | (go_at_call 178; (with_reducible refine (uscale_new _ _ _ _ _ (by first | (with_reducible assumption) | (with_reducible exact u64_wrap _)) (hT _) (hT _)).mono ?_); rintro e w' ⟨rfl, n, rfl⟩)
    | (go_at_call 178; (with_reducible refine (uscale_newd _ _ _ _ _ _ (by first | (with_reducible assumption) | (with_reducible exact u64_wrap _)) (hT _) (hT _)).mono ?_); rintro e w' ⟨rfl, n, rfl⟩)
    | (go_at_call 179; (with_reducible refine (nudge_any _ _ _ (uscV_u64 _ _ _ _)).mono ?_); rintro e w' ⟨rfl, rfl⟩)
    | (go_at_call 180; (with_reducible refine (ceil_any _ _ (nudgeV_u64 _ _)).mono ?_); rintro e w' ⟨rfl, rfl⟩)
    | (go_at_call 181; (with_reducible refine (floor_any _ _ (nudgeV_u64 _ _)).mono ?_); rintro e w' ⟨rfl, rfl, hf0, hf1⟩)
    | (go_at_call 182; (with_reducible refine (round_any _ _ (uscV_u64 _ _ _ _)).mono ?_); rintro e w' ⟨rfl, rfl⟩))
  all_goals go_ret2
  · exact shortEnd_mk (shortV_1 HS (by assumption)) rfl (by omega) (short_world _ _ _)
  · exact shortEnd_mk (shortV_2 HS (by assumption) (by assumption)) rfl (by omega) (short_world _ _ _)
  · exact shortEnd_mk (shortV_3 HS (by assumption) (by assumption)) rfl (by omega) (short_world _ _ _)

set_option maxRecDepth 100000 in
set_option maxHeartbeats 1000000 in
theorem shortFloat_3a (T : Nat → Int) (hT : ∀ i, U64 (T i)) (m e : Int) (h0 : -1137 ≤ e) (h1 : e < -1085) (hm0 : 0 ≤ m) (hm1 : m < 18446744073709551616) (hg : (m == 9223372036854775808) = false) (w : World) (hP : P10 T w) (r : Int × Int)
    (hr : shortV (IntKind.u64.wrap (m - IntKind.u64.wrap (2 ^ ((11 + (-1085 - e)).toNat - 1)))) (IntKind.u64.wrap (m + IntKind.u64.wrap (2 ^ ((11 + (-1085 - e)).toNat - 1)))) (wrap64 (m / 2 ^ (11 + (-1085 - e)).toNat) % 2) (-(wrap64 (m / 2 ^ (11 + (-1085 - e)).toNat) % 2)) m (T (((-((e + (11 + (-1085 - e))) * 78913 / 262144)) + 348).toNat * 2)) (T (((-((e + (11 + (-1085 - e))) * 78913 / 262144)) + 348).toNat * 2 + 1)) (-(e + (-((e + (11 + (-1085 - e))) * 78913 / 262144)) * 108853 / 32768 + 3) % 64).toNat (-((e + (11 + (-1085 - e))) * 78913 / 262144)) = r) :
    Calls Tryz.prog 171 #[.int .u64 m, .int .i64 e] w (ShortEnd r w) := by
  have odd1 := i64_and1
  have um : U64 m := ⟨hm0, hm1⟩
  have HS := Lib.hid hr
  clear hr
  have HP := Lib.hid hP
  clear hP
  go_enter Tryz.func171, Tryz.ntmps171
  go_wp2_with (first
    | (go_at_call 166; (with_reducible refine (log10Pow2_any _ _ (by omega) (by omega)).mono ?_); rintro e w' ⟨rfl, rfl⟩)
    | (go_at_call 177; (with_reducible refine (log2Pow10_any _ _ (by omega) (by omega)).mono ?_); rintro e w' ⟨rfl, rfl⟩)
    | (go_at_call 175; (with_reducible refine (skewed_any _ _ (by omega) (by omega)).mono ?_); rintro e w' ⟨rfl, rfl⟩)
    | (go_at_call 176; (with_reducible refine (prescale_new T _ _ _ (by omega) (by omega) (by omega) (by omega) (by omega) (by omega) _ HP.out).mono ?_); rintro e w' ⟨rfl, rfl⟩)
    | (go_at_call 178; (with_reducible refine (uscale_new _ _ _ _ _ (by first | (with_reducible assumption) | (with_reducible exact u64_wrap _)) (hT _) (hT _)).mono ?_); rintro e w' ⟨rfl, n, rfl⟩)
    | (go_at_call 178; (with_reducible refine (uscale_newd _ _ _ _ _ _ (by first | (with_reducible assumption) | (with_reducible exact u64_wrap _)) (hT _) (hT _)).mono ?_); rintro e w' ⟨rfl, n, rfl⟩)
    | (go_at_call 179; (with_reducible refine (nudge_any _ _ _ (uscV_u64 _ _ _ _)).mono ?_); rintro e w' ⟨rfl, rfl⟩)
    | (go_at_call 180; (with_reducible refine (ceil_any _ _ (nudgeV_u64 _ _)).mono ?_); rintro e w' ⟨rfl, rfl⟩)
    | (go_at_call 181; (with_reducible refine (floor_any _ _ (nudgeV_u64 _ _)).mono ?_); rintro e w' ⟨rfl, rfl, hf0, hf1⟩)
    | (go_at_call 182; (with_reducible refine (round_any _ _ (uscV_u64 _ _ _ _)).mono ?_); rintro e w' ⟨rfl, rfl⟩))
  all_goals go_ret2
  · exact shortEnd_mk (shortV_1 HS (by assumption)) rfl (by omega) (short_world _ _ _)
  · exact shortEnd_mk (shortV_2 HS (by assumption) (by assumption)) rfl (by omega) (short_world _ _ _)
  · exact shortEnd_mk (shortV_3 HS (by assumption) (by assumption)) rfl (by omega) (short_world _ _ _)

set_option maxRecDepth 100000 in
set_option maxHeartbeats 1000000 in
theorem shortFloat_3b (T : Nat → Int) (hT : ∀ i, U64 (T i)) (m e : Int) (h0 : -1137 ≤ e) (h1 : e < -1085) (hm0 : 0 ≤ m) (hm1 : m < 18446744073709551616) (hg : (m == 9223372036854775808) = true) (w : World) (hP : P10 T w) (r : Int × Int)
    (hr : shortV (IntKind.u64.wrap (m - IntKind.u64.wrap (2 ^ ((11 + (-1085 - e)).toNat - 1)))) (IntKind.u64.wrap (m + IntKind.u64.wrap (2 ^ ((11 + (-1085 - e)).toNat - 1)))) (wrap64 (m / 2 ^ (11 + (-1085 - e)).toNat) % 2) (-(wrap64 (m / 2 ^ (11 + (-1085 - e)).toNat) % 2)) m (T (((-((e + (11 + (-1085 - e))) * 78913 / 262144)) + 348).toNat * 2)) (T (((-((e + (11 + (-1085 - e))) * 78913 / 262144)) + 348).toNat * 2 + 1)) (-(e + (-((e + (11 + (-1085 - e))) * 78913 / 262144)) * 108853 / 32768 + 3) % 64).toNat (-((e + (11 + (-1085 - e))) * 78913 / 262144)) = r) :
    Calls Tryz.prog 171 #[.int .u64 m, .int .i64 e] w (ShortEnd r w) := by
  have odd1 := i64_and1
  have um : U64 m := ⟨hm0, hm1⟩
  have HS := Lib.hid hr
  clear hr
  have HP := Lib.hid hP
  clear hP
  go_enter Tryz.func171, Tryz.ntmps171
  go_wp2_with (first
    | (go_at_call 166; (with_reducible refine (log10Pow2_any _ _ (by omega) (by omega)).mono ?_); rintro e w' ⟨rfl, rfl⟩)
    | (go_at_call 177; (with_reducible refine (log2Pow10_any _ _ (by omega) (by omega)).mono ?_); rintro e w' ⟨rfl, rfl⟩)
    | (go_at_call 175; (with_reducible refine (skewed_any _ _ (by omega) (by omega)).mono ?_); rintro e w' ⟨rfl, rfl⟩)
    | (go_at_call 176; (with_reducible refine (prescale_new T _ _ _ (by omega) (by omega) (by omega) (by omega) (by omega) (by omega) _ HP.out).mono ?_); rintro e w' ⟨rfl, rfl⟩)
    | (go_at_call 178; (with_reducible refine (uscale_new _ _ _ _ _ (by first | (with_reducible assumption) | (with_reducible exact u64_wrap _)) (hT _) (hT _)).mono ?_); rintro e w' ⟨rfl, n, rfl⟩)
    | (go_at_call 178; (with_reducible refine (uscale_newd _ _ _ _ _ _ (by first | (with_reducible assumption) | (with_reducible exact u64_wrap _)) (hT _) (hT _)).mono ?_); rintro e w' ⟨rfl, n, rfl⟩)
    | (go_at_call 179; (with_reducible refine (nudge_any _ _ _ (uscV_u64 _ _ _ _)).mono ?_); rintro e w' ⟨rfl, rfl⟩)
    | (go_at_call 180; (with_reducible refine (ceil_any _ _ (nudgeV_u64 _ _)).mono ?_); rintro e w' ⟨rfl, rfl⟩)
    | (go_at_call 181; (with_reducible refine (floor_any _ _ (nudgeV_u64 _ _)).mono ?_); rintro e w' ⟨rfl, rfl, hf0, hf1⟩)
    | (go_at_call 182; (with_reducible refine (round_any _ _ (uscV_u64 _ _ _ _)).mono ?_); rintro e w' ⟨rfl, rfl⟩))
  all_goals go_ret2
  · exact shortEnd_mk (shortV_1 HS (by assumption)) rfl (by omega) (short_world _ _ _)
  · exact shortEnd_mk (shortV_2 HS (by assumption) (by assumption)) rfl (by omega) (short_world _ _ _)
  · exact shortEnd_mk (shortV_3 HS (by assumption) (by assumption)) rfl (by omega) (short_world _ _ _)


/-- The shortest decimal of m times two to the e: one pair, whatever memory holds beside the table. -/
theorem shortFloat_any (T : Nat → Int) (hT : ∀ i, U64 (T i)) (m e : Int) (h0 : -1137 ≤ e) (h1 : e ≤ 971) (hm0 : 0 ≤ m) (hm1 : m < 18446744073709551616) :
    ∃ r : Int × Int, U64 r.1 ∧ -400 ≤ r.2 ∧ r.2 ≤ 400 ∧ ∀ w, P10 T w → Calls Tryz.prog 171 #[.int .u64 m, .int .i64 e] w (ShortEnd r w) := by
  have key : ∀ (mn mx od nod mm hi lo : Int) (s : Nat) (p : Int), -390 ≤ p → p ≤ 390 → (∀ r, shortV mn mx od nod mm hi lo s p = r → ∀ w, P10 T w → Calls Tryz.prog 171 #[.int .u64 m, .int .i64 e] w (ShortEnd r w)) →
      ∃ r : Int × Int, U64 r.1 ∧ -400 ≤ r.2 ∧ r.2 ≤ 400 ∧ ∀ w, P10 T w → Calls Tryz.prog 171 #[.int .u64 m, .int .i64 e] w (ShortEnd r w) :=
    fun mn mx od nod mm hi lo s p hp0 hp1 h => ⟨_, shortV_u64 mn mx od nod mm hi lo s p, (shortV_pow mn mx od nod mm hi lo s p hp0 hp1).1, (shortV_pow mn mx od nod mm hi lo s p hp0 hp1).2, h _ rfl⟩
  by_cases hm : m = 9223372036854775808
  · have hg : (m == 9223372036854775808) = true := by simpa using hm
    by_cases he : -1085 < e
    · subst hm
      exact key _ _ _ _ _ _ _ _ _ (by omega) (by omega) fun r hr w hP => shortFloat_1 T hT e he h1 w hP r hr
    · by_cases he' : e = -1085
      · exact key _ _ _ _ _ _ _ _ _ (by omega) (by omega) fun r hr w hP => shortFloat_2b T hT m e (by omega) (by omega) hm0 hm1 hg w hP r hr
      · exact key _ _ _ _ _ _ _ _ _ (by omega) (by omega) fun r hr w hP => shortFloat_3b T hT m e h0 (by omega) hm0 hm1 hg w hP r hr
  · have hg : (m == 9223372036854775808) = false := by simpa using hm
    by_cases he : -1085 ≤ e
    · exact key _ _ _ _ _ _ _ _ _ (by omega) (by omega) fun r hr w hP => shortFloat_2a T hT m e he h1 hm0 hm1 hg w hP r hr
    · exact key _ _ _ _ _ _ _ _ _ (by omega) (by omega) fun r hr w hP => shortFloat_3a T hT m e h0 (by omega) hm0 hm1 hg w hP r hr

end Go.Proofs.YthcjnadceambgaaGreatDoor
namespace Go.Proofs.YthcjnadceambgaaGreatDoor
open Go.RowKit Go.Sort Go.Lib

/-- Block b holds the nd decimal digits of u from its beginning on. -/
def Digs (W : World) (b u nd : Nat) : Prop := ∀ t, t < nd → W.cell? ⟨b, t, none⟩ = some (.int .u8 ((dg u (nd - 1 - t)).toNat : Int))
/-- How many of the first k are left when the zeros at their end are cut off. -/
def trimZ (f : Nat → UInt8) : Nat → Nat
  | 0 => 0
  | k + 1 => if f k = 48 then trimZ f k else k + 1
theorem trimZ_le (f : Nat → UInt8) : ∀ k, trimZ f k ≤ k
  | 0 => Nat.le_refl _
  | k + 1 => by
    unfold trimZ
    split
    · exact Nat.le_succ_of_le (trimZ_le f k)
    · exact Nat.le_refl _

theorem digs_put (w : World) (b n v' u : Nat) (d dk : Array UInt8) (hH : Holds (fun (b : UInt8) => Value.int .u8 (b.toNat : Int)) w b 0 d) (h : FmtInv d.size u 0 v' dk) :
    Digs ((putRow (fun (b : UInt8) => Value.int .u8 (b.toNat : Int)) w b 0 dk).drewN n) b u d.size ∧ w.grownBy ((putRow (fun (b : UInt8) => Value.int .u8 (b.toNat : Int)) w b 0 dk).drewN n) (some b) := by
  have hH' := holds_putRow _ w b 0 d dk hH h.size
  refine ⟨fun t ht => ?_, ?_⟩
  · have hc := (hH' t (by rw [h.size]; exact ht)).1
    rw [Nat.zero_add] at hc
    rw [← h.done t (Nat.zero_le _) ht]
    exact hc
  · refine gt_drewN_r ?_ n
    refine ⟨rfl, rfl, rfl, ?_, fun k hk hne => ?_⟩
    · simp [putRow, mapBlock]
    · have : b ≠ k := fun e => hne (by rw [e])
      simp [putRow, mapBlock, Array.getElem?_modify, this]

set_option maxRecDepth 100000 in
set_option maxHeartbeats 1000000 in
theorem setDigits_f (f : Nat → UInt8) (d : Array UInt8) (u b : Nat) (hf : f = fun t => dg u (d.size - 1 - t)) (p : Int) (W : World) (hH : Holds (fun (b : UInt8) => Value.int .u8 (b.toNat : Int)) W b 0 d) (hu : u < 10 ^ d.size) (hu64 : u < 18446744073709551616) (hnd : d.size ≤ 20) (h0 : -400 ≤ p) (h1 : p ≤ 400) :
    Calls Tryz.prog 164 #[.slice (some ⟨b, 0, none⟩) 32 32, .int .u64 u, .int .i64 p, .int .i64 d.size] W fun e W' =>
      e = .returned (.tuple #[.int .i64 (d.size + p), .int .i64 (trimZ f d.size)]) ∧ Digs W' b u d.size ∧ W.grownBy W' (some b) := by
  have HH := Lib.hid hH
  have HU := Lib.hid hu
  have HU6 := Lib.hid hu64
  have HF := Lib.hid hf
  clear hH hu hu64 hf
  go_enter Tryz.func164, Tryz.ntmps164
  go_wp2_with (go_at_call 183; (with_reducible refine (Tryz.internal_strconv_formatBase10 _ _ _ _ _ _ HH.out HU.out HU6.out (by omega)).mono ?_); rintro e W' ⟨rfl, n, v', dk, rfl, hi⟩)
  obtain ⟨hd, hg⟩ := digs_put W b n v' u d dk HH.out hi
  have HD := Lib.hid hd
  have HG := Lib.hid hg
  clear hd hg hi HH HU HU6
  obtain ⟨W1, hW1⟩ : ∃ W1, (putRow (fun (b : UInt8) => Value.int .u8 (b.toNat : Int)) W b 0 dk).drewN n = W1 := ⟨_, rfl⟩
  rw [hW1] at HD HG ⊢
  clear hW1
  have hcell : Hid (∀ t, t < d.size → W1.cell? ⟨b, t, none⟩ = some (.int .u8 ((f t).toNat : Int))) := by rw [HF.out]; exact HD.out
  clear HF
  go_loop [3] (fun k => ∃ j : Nat, j ≤ d.size ∧ k = .int .i64 j ∧ Hid (trimZ f j = trimZ f d.size)) (fun k => (RowKit.intOf k).toNat)
  case atStart => exact ⟨d.size, Nat.le_refl _, rfl, Lib.hid rfl⟩
  case round =>
    obtain ⟨j, hj, rfl, HT⟩ := hrel
    cases j with
    | zero =>
      go_wp2
      go_ret2
      exact ⟨by rw [← HT.out]; rfl, HD.out, HG.out⟩
    | succ i =>
      have hc := hcell.out i (by omega)
      by_cases h48 : f i = 48
      · have hc' : W1.cell? ⟨b, i, none⟩ = some (.int .u8 48) := by rw [hc, h48]; rfl
        clear hc
        have HT' : Hid (trimZ f i = trimZ f d.size) := by rw [← HT.out]; unfold Hid; rw [trimZ, if_pos h48]
        clear h48
        go_wp2
        go_round
        case rel => exact ⟨i, by omega, by go_num, HT'⟩
        case measure => simp [RowKit.intOf]
      · have hne : (((f i).toNat : Int) == 48) = false := by
          simp only [beq_eq_false_iff_ne, ne_eq]
          intro he
          exact h48 (UInt8.toNat_inj.1 (by simpa using (by omega : (f i).toNat = 48)))
        have HT' : Hid (i + 1 = trimZ f d.size) := by rw [← HT.out]; unfold Hid; rw [trimZ, if_neg h48]
        clear h48
        go_wp2
        go_ret2
        exact ⟨by rw [← HT'.out]; go_num, HD.out, HG.out⟩

theorem setDigits_any (d : Array UInt8) (u b : Nat) (p : Int) (W : World) (hH : Holds (fun (b : UInt8) => Value.int .u8 (b.toNat : Int)) W b 0 d) (hu : u < 10 ^ d.size) (hu64 : u < 18446744073709551616) (hnd : d.size ≤ 20) (h0 : -400 ≤ p) (h1 : p ≤ 400) :
    Calls Tryz.prog 164 #[.slice (some ⟨b, 0, none⟩) 32 32, .int .u64 u, .int .i64 p, .int .i64 d.size] W fun e W' =>
      e = .returned (.tuple #[.int .i64 (d.size + p), .int .i64 (trimZ (fun t => dg u (d.size - 1 - t)) d.size)]) ∧ Digs W' b u d.size ∧ W.grownBy W' (some b) :=
  setDigits_f _ d u b rfl p W hH hu hu64 hnd h0 h1

/-- The nd digits of u, the first one first. -/
def digF (u nd : Nat) : Nat → UInt8 := fun t => dg u (nd - 1 - t)

theorem setDigits_nd (u nd b : Nat) (p : Int) (W : World) (hz : ∀ t, t < 32 → W.cell? ⟨b, t, none⟩ = some (.int .u8 0) ∧ W.frozen? ⟨b, t, none⟩ = false) (hu : u < 10 ^ nd) (hu64 : u < 18446744073709551616) (hnd : nd ≤ 20) (h0 : -400 ≤ p) (h1 : p ≤ 400) :
    Calls Tryz.prog 164 #[.slice (some ⟨b, 0, none⟩) 32 32, .int .u64 u, .int .i64 p, .int .i64 nd] W fun e W' =>
      e = .returned (.tuple #[.int .i64 (nd + p), .int .i64 (trimZ (digF u nd) nd)]) ∧ (∀ t, t < nd → W'.cell? ⟨b, t, none⟩ = some (.int .u8 ((digF u nd t).toNat : Int))) ∧ W.grownBy W' (some b) := by
  have hs : (Array.replicate nd (0 : UInt8)).size = nd := Array.size_replicate
  have h := setDigits_any (Array.replicate nd 0) u b p W (fun j hj => by
    rw [hs] at hj
    have := hz j (by omega)
    rw [Nat.zero_add, getElem!_pos _ j (by rw [hs]; exact hj), Array.getElem_replicate]
    exact this) (by rw [hs]; exact hu) hu64 (by rw [hs]; exact hnd) h0 h1
  rw [hs] at h
  exact h

end Go.Proofs.YthcjnadceambgaaGreatDoor
namespace Go.Proofs.YthcjnadceambgaaGreatDoor
open Go.RowKit

abbrev eB : Nat := 5
theorem infoB : (Tryz.prog.info? 5).map (fun i => (i.zero, i.size, i.bytes)) = some (some (.int .u8 0), 1, 1) := by kernel_rfl

def fSign (neg : Bool) : List UInt8 := if neg then [45] else []
theorem fSign_len (neg : Bool) : (fSign neg).length ≤ 1 := by cases neg <;> decide
/-- The whole part: digits, then zeros. -/
def fInt (f : Nat → UInt8) (dp : Int) (nd : Nat) : List UInt8 :=
  if 0 < dp then (List.range (min nd dp.toNat)).map f ++ List.replicate (dp.toNat - min nd dp.toNat) 48 else [48]
theorem fInt_len (f : Nat → UInt8) (dp : Int) (nd : Nat) (h : dp ≤ 500) : (fInt f dp nd).length ≤ 500 := by
  unfold fInt
  split
  · simp; omega
  · simp
/-- The part behind the point: zeros, digits, zeros. -/
def fFrac (f : Nat → UInt8) (dp prec : Int) (nd : Nat) : List UInt8 :=
  if 0 < prec then [46] ++ List.replicate (min prec (max 0 (-dp))).toNat 48
      ++ (List.range (min (prec - min prec (max 0 (-dp))) (max 0 ((nd : Int) - (dp + min prec (max 0 (-dp)))))).toNat).map (fun i : Nat => f ((dp + min prec (max 0 (-dp))) + (i : Int)).toNat)
      ++ List.replicate (max 0 (prec - min prec (max 0 (-dp)) - min (prec - min prec (max 0 (-dp))) (max 0 ((nd : Int) - (dp + min prec (max 0 (-dp))))))).toNat 48
  else []

set_option maxRecDepth 100000 in
set_option maxHeartbeats 2000000 in
theorem fmtF_any (f : Nat → UInt8) (base b : Nat) (v : Value) (l : List UInt8) (neg : Bool) (dp prec : Int) (nd : Nat) (w : World)
    (hown : w.ownsRow base 5 1 v l.length (Bs l)) (hbase : base ≤ w.heap.size) (hl : l.length ≤ 70368744177664)
    (hcell : ∀ t, t < nd → w.cell? ⟨b, t, none⟩ = some (.int .u8 ((f t).toNat : Int))) (hb : b < w.heap.size) (hne : v.ownBlock ≠ some b)
    (hnd : nd ≤ 20) (hd0 : -500 ≤ dp) (hd1 : dp ≤ 500) (hp0 : -1 ≤ prec) (hp1 : prec ≤ 1000) :
    Calls Tryz.prog 161 #[v, .bool neg, .slice (some ⟨b, 0, none⟩) 32 32, .int .i64 dp, .int .i64 nd, .int .i64 prec, .int .u8 102, .bool true] w
      (AppEnd 5 base w v (l ++ fSign neg ++ fInt f dp nd ++ fFrac f dp prec nd)) := by
  have HC := Lib.hid hcell
  have HN := Lib.hid hne
  have HO := AppB.start hown
  clear hcell hne hown
  have hs1 := fSign_len neg
  have hi1 := fInt_len f dp nd hd1
  have HS1 := Lib.hid hs1
  have HI1 := Lib.hid hi1
  clear hs1 hi1
  go_enter Tryz.func161, Tryz.ntmps161
  go_upto_if 178 with fail
  go_cut [0] (fun v1 w1 => AppB 5 base w v w1 v1 (l ++ fSign neg))
  case first =>
    cases neg
    · go_wp2_with fail
      go_meet
      simpa [fSign] using HO
    · go_wp2_with (at_builtin; refine app_byte rfl _ _ _ rfl Tryz.underlying33 infoB HO rfl _ 45 rfl rfl (by first | rfl | simp) hbase (by omega) ?_; intro v1 w1 H1)
      go_meet
      simpa [fSign] using H1
  case rest =>
    go_upto_if 183 with fail
    go_cut [0] (fun v1 w1 => AppB 5 base w v w1 v1 (l ++ fSign neg ++ fInt f dp nd))
    case first =>
      by_cases hdp : 0 < dp
      · obtain ⟨m, hmn, hm20, hmd, hmin⟩ : ∃ m : Nat, m = min nd dp.toNat ∧ m ≤ 20 ∧ (m : Int) ≤ dp ∧ min (nd : Int) dp = (m : Int) := ⟨min nd dp.toNat, rfl, by omega, by omega, by omega⟩
        have HM := Lib.hid hmn
        clear hmn
        have hmx : max (m : Int) 0 = (m : Int) := by omega
        have hdB : decide (0 < dp) = true := by simpa using hdp
        rw [hdB]
        go_wp2_with fail
        go_loopw [0, 191] (fun x i wr => ∃ k : Nat, k ≤ m ∧ i = .int .i64 k ∧ AppB 5 base w v wr x (l ++ fSign neg ++ (List.range k).map f)) (fun _ i _ => m - (intOf i).toNat)
        case atStart => exact ⟨0, by omega, rfl, by simpa using hcut⟩
        case round =>
          obtain ⟨k, hk, rfl, H⟩ := hrel
          by_cases hlt : k < m
          · rename World => wr
            have hc := (H.cell (a := ⟨b, k, none⟩) hb HN.out).trans (HC.out k (by omega))
            go_wp2_with (at_builtin; refine app_byte rfl _ _ _ rfl Tryz.underlying33 infoB H rfl _ (f k) rfl rfl (by first | rfl | simp) hbase (by have := HS1.out; simp only [List.length_append, List.length_map, List.length_range, List.length_replicate]; omega) ?_; intro v1 w1 H1)
            go_roundw
            case rel => exact ⟨k + 1, by omega, by go_num, by rw [List.range_succ, List.map_append, ← List.append_assoc]; exact H1⟩
            case measure => simp [intOf]; omega
          · obtain rfl : k = m := by omega
            obtain ⟨n, hn⟩ : ∃ n : Nat, dp - (k : Int) = (n : Int) := ⟨(dp - k).toNat, by omega⟩
            have hn5 : n ≤ 500 := by omega
            have HNN : Hid (n = dp.toNat - min nd dp.toNat) := by have := HM.out; unfold Hid; omega
            go_wp2_with fail
            go_loopw [0, 203] (fun x i wr => ∃ j : Nat, j ≤ n ∧ i = .int .i64 j ∧ AppB 5 base w v wr x (l ++ fSign neg ++ (List.range k).map f ++ List.replicate j 48)) (fun _ i _ => n - (intOf i).toNat)
            case atStart => exact ⟨0, by omega, rfl, by simpa using H⟩
            case round =>
              clear H
              obtain ⟨j, hj, rfl, H⟩ := hrel
              by_cases hlt : j < n
              · go_wp2_with (at_builtin; refine app_byte rfl _ _ _ rfl Tryz.underlying33 infoB H rfl _ 48 rfl rfl (by first | rfl | simp) hbase (by have := HS1.out; have := HI1.out; simp only [List.length_append, List.length_map, List.length_range, List.length_replicate, List.length_cons, List.length_nil]; omega) ?_; intro v1 w1 H1)
                go_roundw
                case rel => exact ⟨j + 1, by omega, by go_num, by rw [List.replicate_succ', ← List.append_assoc]; exact H1⟩
                case measure => simp [intOf]; omega
              · obtain rfl : j = n := by omega
                go_wp2_with fail
                go_meet
                have e : fInt f dp nd = (List.range k).map f ++ List.replicate j 48 := by unfold fInt; rw [if_pos hdp, ← HM.out, HNN.out, ← HM.out]
                rw [e, ← List.append_assoc]
                exact H
      · have hdB : decide (0 < dp) = false := by simpa using hdp
        rw [hdB]
        go_wp2_with (at_builtin; refine app_byte rfl _ _ _ rfl Tryz.underlying33 infoB hcut rfl _ 48 rfl rfl (by first | rfl | simp) hbase (by have := HS1.out; have := HI1.out; simp only [List.length_append, List.length_map, List.length_range, List.length_replicate, List.length_cons, List.length_nil]; omega) ?_; intro v1 w1 H1)
        go_meet
        have e : fInt f dp nd = [48] := by unfold fInt; rw [if_neg (by omega)]
        rw [e]
        exact H1
    case rest =>
      by_cases hp : 0 < prec
      · have hpB : decide (0 < prec) = true := by simpa using hp
        have htg : ∃ lz mm tz : Nat, (min prec (max 0 (-dp)) = (lz : Int)) ∧ (min (prec - (lz : Int)) (max 0 ((nd : Int) - (dp + (lz : Int)))) = (mm : Int)) ∧ (max 0 (prec - (lz : Int) - (mm : Int)) = (tz : Int)) :=
          ⟨(min prec (max 0 (-dp))).toNat, (min (prec - ((min prec (max 0 (-dp))).toNat : Int)) (max 0 ((nd : Int) - (dp + ((min prec (max 0 (-dp))).toNat : Int))))).toNat, (max 0 (prec - ((min prec (max 0 (-dp))).toNat : Int) - ((min (prec - ((min prec (max 0 (-dp))).toNat : Int)) (max 0 ((nd : Int) - (dp + ((min prec (max 0 (-dp))).toNat : Int))))).toNat : Int))).toNat, by omega, by omega, by omega⟩
        obtain ⟨lz, mm, tz, hlz, hmm, htz⟩ := htg
        have HOFF : Hid (∀ k : Nat, k < mm → 0 ≤ dp + (lz : Int) + (k : Int) ∧ dp + (lz : Int) + (k : Int) < nd) := by unfold Hid; intro k hk; omega
        have HE : Hid (fFrac f dp prec nd = [46] ++ List.replicate lz 48 ++ (List.range mm).map (fun i : Nat => f (dp + lz + i).toNat) ++ List.replicate tz 48) := by
          unfold Hid fFrac
          rw [if_pos hp, hlz, hmm, htz]
          simp only [Int.toNat_natCast]
        have hb1 : lz ≤ 1000 := by omega
        have hb2 : mm ≤ 1000 := by omega
        have hb3 : tz ≤ 1000 := by omega
        go_wp2_with (at_builtin; refine app_byte rfl _ _ _ rfl Tryz.underlying33 infoB hcut rfl _ 46 rfl rfl (by first | rfl | simp) hbase (by have := HS1.out; have := HI1.out; simp only [List.length_append, List.length_map, List.length_range, List.length_replicate, List.length_cons, List.length_nil]; omega) ?_; intro v1 w1 H1)
        go_loopw [0, 240] (fun x i wr => ∃ a : Nat, a ≤ lz ∧ i = .int .i64 a ∧ AppB 5 base w v wr x (l ++ fSign neg ++ fInt f dp nd ++ [46] ++ List.replicate a 48)) (fun _ i _ => lz - (intOf i).toNat)
        case atStart => exact ⟨0, by omega, rfl, by simpa using H1⟩
        case round =>
          clear H1
          obtain ⟨a, hk, rfl, H⟩ := hrel
          by_cases hlt : a < lz
          · go_wp2_with (at_builtin; refine app_byte rfl _ _ _ rfl Tryz.underlying33 infoB H rfl _ 48 rfl rfl (by first | rfl | simp) hbase (by have := HS1.out; have := HI1.out; simp only [List.length_append, List.length_map, List.length_range, List.length_replicate, List.length_cons, List.length_nil]; omega) ?_; intro v1 w1 H1)
            go_roundw
            case rel => exact ⟨a + 1, by omega, by go_num, by rw [List.replicate_succ', ← List.append_assoc]; exact H1⟩
            case measure => simp [intOf]; omega
          · have ek : a = lz := by omega
            subst ek
            go_wp2_with fail
            go_loopw [0, 247] (fun x i wr => ∃ k : Nat, k ≤ mm ∧ i = .int .i64 k ∧ AppB 5 base w v wr x (l ++ fSign neg ++ fInt f dp nd ++ [46] ++ List.replicate a 48 ++ (List.range k).map (fun i : Nat => f (dp + a + i).toNat))) (fun _ i _ => mm - (intOf i).toNat)
            case atStart => exact ⟨0, by omega, rfl, by simpa using H⟩
            case round =>
              clear H
              obtain ⟨k, hk, rfl, H⟩ := hrel
              by_cases hlt : k < mm
              · rename World => wr
                obtain ⟨hoa, hob⟩ := HOFF.out k hlt
                have hc := (H.cell (a := ⟨b, (dp + a + k).toNat, none⟩) hb HN.out).trans (HC.out (dp + a + k).toNat (by omega))
                go_wp2_with (at_builtin; refine app_byte rfl _ _ _ rfl Tryz.underlying33 infoB H rfl _ (f (dp + a + k).toNat) rfl rfl (by first | rfl | simp) hbase (by have := HS1.out; have := HI1.out; simp only [List.length_append, List.length_map, List.length_range, List.length_replicate, List.length_cons, List.length_nil]; omega) ?_; intro v1 w1 H1)
                go_roundw
                case rel => exact ⟨k + 1, by omega, by go_num, by rw [List.range_succ, List.map_append, ← List.append_assoc]; exact H1⟩
                case measure => simp [intOf]; omega
              · have ek : k = mm := by omega
                subst ek
                clear HOFF
                go_wp2_with fail
                go_loopw [0, 261] (fun x i wr => ∃ c : Nat, c ≤ tz ∧ i = .int .i64 c ∧ AppB 5 base w v wr x (l ++ fSign neg ++ fInt f dp nd ++ [46] ++ List.replicate a 48 ++ (List.range k).map (fun i : Nat => f (dp + a + i).toNat) ++ List.replicate c 48)) (fun _ i _ => tz - (intOf i).toNat)
                case atStart => exact ⟨0, by omega, rfl, by simpa using H⟩
                case round =>
                  clear H
                  obtain ⟨c, hk, rfl, H⟩ := hrel
                  by_cases hlt : c < tz
                  · go_wp2_with (at_builtin; refine app_byte rfl _ _ _ rfl Tryz.underlying33 infoB H rfl _ 48 rfl rfl (by first | rfl | simp) hbase (by have := HS1.out; have := HI1.out; simp only [List.length_append, List.length_map, List.length_range, List.length_replicate, List.length_cons, List.length_nil]; omega) ?_; intro v1 w1 H1)
                    go_roundw
                    case rel => exact ⟨c + 1, by omega, by go_num, by rw [List.replicate_succ', ← List.append_assoc]; exact H1⟩
                    case measure => simp [intOf]; omega
                  · have ek : c = tz := by omega
                    subst ek
                    go_wp2_with fail
                    go_ret
                    have e := HE.out
                    exact ⟨_, rfl, by simpa [e] using H⟩
      · have hpB : decide (0 < prec) = false := by simpa using hp
        go_wp2_with fail
        go_ret
        have e : fFrac f dp prec nd = [] := by unfold fFrac; rw [if_neg (by omega)]
        exact ⟨_, rfl, by simpa [e] using hcut⟩

end Go.Proofs.YthcjnadceambgaaGreatDoor
namespace Go.Proofs.YthcjnadceambgaaGreatDoor
open Go.RowKit

set_option maxRecDepth 100000 in
set_option maxHeartbeats 1000000 in
theorem fmtZ_any (base : Nat) (v : Value) (l : List UInt8) (neg : Bool) (w : World)
    (hown : w.ownsRow base 5 1 v l.length (Bs l)) (hbase : base ≤ w.heap.size) (hl : l.length ≤ 70368744177664) :
    Calls Tryz.prog 161 #[v, .bool neg, .slice none 0 0, .int .i64 0, .int .i64 0, .int .i64 (-1), .int .u8 102, .bool true] w
      (AppEnd 5 base w v (l ++ fSign neg ++ [48])) := by
  have hs1 := fSign_len neg
  have HO := AppB.start hown
  clear hown
  cases neg
  · go_enter Tryz.func161, Tryz.ntmps161
    go_wp2_with (at_builtin; refine app_byte rfl _ _ _ rfl Tryz.underlying33 infoB HO rfl _ 48 rfl rfl (by first | rfl | simp) hbase (by omega) ?_; intro v1 w1 H1)
    go_ret
    exact ⟨_, rfl, by simpa [fSign] using H1⟩
  · go_enter Tryz.func161, Tryz.ntmps161
    go_wp2_with (first
      | (at_builtin; refine app_byte rfl _ _ _ rfl Tryz.underlying33 infoB HO rfl _ 45 rfl rfl (by first | rfl | simp) hbase (by omega) ?_; intro v1 w1 H1; clear HO)
      | (at_builtin; refine app_byte rfl _ _ _ rfl Tryz.underlying33 infoB H1 rfl _ 48 rfl rfl (by first | rfl | simp) hbase (by simp only [List.length_append, List.length_cons, List.length_nil]; omega) ?_; intro v2 w2 H2))
    go_ret
    exact ⟨_, rfl, by simpa [fSign] using H2⟩

def nDig (u : Nat) : Nat := if u = 0 then 0 else Lib.nDigits u
theorem nDig_lt (u : Nat) : u < 10 ^ nDig u := by
  unfold nDig
  split
  · rename_i h; subst h; decide
  · exact Lib.lt_pow_nDigits u
theorem nDig_le (u : Nat) (h : u < 18446744073709551616) : nDig u ≤ 20 := by
  unfold nDig
  split
  · omega
  · exact Lib.nDigits_le20 u h

set_option maxHeartbeats 1000000 in
theorem numDigits_all (u : Nat) (hu : u < 18446744073709551616) (w : World) (htab : Lib.TabIs Tryz.prog w "internal/strconv.uint64pow10" .u64 Lib.pow10Tab) :
    Calls Tryz.prog 165 #[.int .u64 u] w fun e w' => e = .returned (.int .i64 (nDig u)) ∧ w' = w := by
  by_cases h0 : u = 0
  · subst h0
    have hcell : w.cell? ⟨2, 0, none⟩ = some (.int .u64 1) := by
      rw [htab.cell (g := 2) (by kernel_rfl) 0 (by rw [Lib.pow10Tab_length]; omega)]
      rfl
    clear htab
    have hL : Lib.bitLen 0 = 0 := by decide
    go_enter Tryz.func165, Tryz.ntmps165
    go_wp2_with (first
      | (go_at_call 162; (with_reducible refine (Tryz.bits_Len64 _ _ (by omega) (by omega)).mono ?_); rintro e w' ⟨rfl, rfl⟩)
      | go_in)
    go_ret
    exact ⟨rfl, rfl⟩
  · have e : nDig u = Lib.nDigits u := if_neg h0
    rw [e]
    exact Tryz.internal_strconv_numDigits u (by omega) hu w htab

/-- What the walk needs of the tables: the powers of ten, upper and lower words; the powers of ten up to the nineteenth. -/
structure Tabs (T : Nat → Int) (w : World) : Prop where
  p10 : P10 T w
  u10 : Lib.TabIs Tryz.prog w "internal/strconv.uint64pow10" .u64 Lib.pow10Tab
theorem Tabs.mono {T : Nat → Int} {w w' : World} {r : Option Nat} (h : Tabs T w) (hg : w.grownBy w' r) (h2 : r ≠ some 3) (h3 : r ≠ some 2) : Tabs T w' := by
  refine ⟨fun i hi => ?_, ?_⟩
  · have h0 := h.p10 i hi
    exact hg.cell h0 (fun e => h2 e.symm)
  · have hc := h.u10.cell (g := 2) (by kernel_rfl) 0 (by rw [Lib.pow10Tab_length]; omega)
    have hlt := World.block_lt_of_cell? w _ hc
    have hb := hg.block 2 hlt (fun e => h3 e.symm)
    have h0 := h.u10
    have hn : Tryz.prog.globalNamed "internal/strconv.uint64pow10" = some 2 := by kernel_rfl
    unfold Lib.TabIs World.var? at h0 ⊢
    rw [hn] at h0 ⊢
    simp only [Option.bind_some] at h0 ⊢
    rw [hb]
    exact h0

end Go.Proofs.YthcjnadceambgaaGreatDoor
