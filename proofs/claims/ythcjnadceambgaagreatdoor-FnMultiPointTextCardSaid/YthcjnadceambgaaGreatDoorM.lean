/- Plain facts on machine numbers, which the walks of the decimal writer lean on. -/
import Derived.WalkKit
import Derived.WalkSpells
import Derived.WalkLawsBesides
import Derived.OpenShut
namespace Go.Proofs.YthcjnadceambgaaGreatDoor
open Go.RowKit

theorem i64_and63 (n : Int) : bits .and .i64 n 63 = n % 64 := by
  have h127 : (BitVec.ofInt 64 63).toNat = 2 ^ 6 - 1 := by decide
  have key : (BitVec.ofInt 64 n &&& BitVec.ofInt 64 63).toNat = (n % ((2 ^ 64 : Nat) : Int)).toNat % 2 ^ 6 := by
    rw [BitVec.toNat_and, BitVec.toNat_ofInt, h127, Nat.and_two_pow_sub_one_eq_mod]
  show IntKind.i64.wrap ((BitVec.ofInt 64 n &&& BitVec.ofInt 64 63).toNat : Nat) = n % 64
  rw [key, IntKind.wrap_i64]
  omega

theorem i64_and1 (n : Int) : bits .and .i64 n 1 = n % 2 := by
  have h127 : (BitVec.ofInt 64 1).toNat = 2 ^ 1 - 1 := by decide
  have key : (BitVec.ofInt 64 n &&& BitVec.ofInt 64 1).toNat = (n % ((2 ^ 64 : Nat) : Int)).toNat % 2 ^ 1 := by
    rw [BitVec.toNat_and, BitVec.toNat_ofInt, h127, Nat.and_two_pow_sub_one_eq_mod]
  show IntKind.i64.wrap ((BitVec.ofInt 64 n &&& BitVec.ofInt 64 1).toNat : Nat) = n % 2
  rw [key, IntKind.wrap_i64]
  omega

theorem i64_and2047 (n : Int) : bits .and .i64 n 2047 = n % 2048 := by
  have h127 : (BitVec.ofInt 64 2047).toNat = 2 ^ 11 - 1 := by decide
  have key : (BitVec.ofInt 64 n &&& BitVec.ofInt 64 2047).toNat = (n % ((2 ^ 64 : Nat) : Int)).toNat % 2 ^ 11 := by
    rw [BitVec.toNat_and, BitVec.toNat_ofInt, h127, Nat.and_two_pow_sub_one_eq_mod]
  show IntKind.i64.wrap ((BitVec.ofInt 64 n &&& BitVec.ofInt 64 2047).toNat : Nat) = n % 2048
  rw [key, IntKind.wrap_i64]
  omega
theorem u64_and52 (b : Nat) (hb : b < 18446744073709551616) : bits .and .u64 (b : Int) 4503599627370495 = ((b % 4503599627370496 : Nat) : Int) := by
  have h := u64_and_nat b 4503599627370495 hb (by omega)
  have e : b &&& 4503599627370495 = b % 4503599627370496 := Nat.and_two_pow_sub_one_eq_mod b 52
  rw [e] at h
  exact h
theorem u64_or52 (m : Nat) (hm : m < 4503599627370496) : bits .or .u64 (m : Int) 4503599627370496 = ((m + 4503599627370496 : Nat) : Int) := by
  have h := u64_or_nat m 4503599627370496 (by omega) (by omega)
  have e : m ||| 4503599627370496 = m + 4503599627370496 := by
    have := Nat.two_pow_add_eq_or_of_lt (i := 52) hm 1
    rw [Nat.or_comm]
    simpa [Nat.add_comm] using this.symm
  rw [e] at h
  exact h

/-- A number of the kind uint64. -/
def U64 (n : Int) : Prop := 0 ≤ n ∧ n < 18446744073709551616
theorem U64.of_wf {n : Int} (h : (Lit.int .u64 n).wf = true) : U64 n := by
  simp [Lit.wf, IntKind.min, IntKind.max, IntKind.signed, IntKind.bits] at h
  unfold U64
  omega
theorem u64_wrap (n : Int) : U64 (IntKind.u64.wrap n) := .of_wf (wf_wrap _ _)
theorem u64_bits (op : BinOp) (x y : Int) : U64 (bits op .u64 x y) := .of_wf (wf_bits _ _ _ _)
theorem u64_zero : U64 0 := ⟨by decide, by decide⟩
theorem u64_div {n : Int} (h : U64 n) (k : Nat) : U64 (n / (k : Int)) := by
  obtain ⟨h0, h1⟩ := h
  obtain ⟨m, rfl⟩ := Int.eq_ofNat_of_zero_le h0
  have h2 : m / k ≤ m := Nat.div_le_self m k
  have e : ((m : Int) / (k : Int)) = ((m / k : Nat) : Int) := by simp
  rw [e]
  exact ⟨Int.natCast_nonneg _, Int.lt_of_le_of_lt (Int.ofNat_le.2 h2) h1⟩
theorem u64_ite {c : Prop} [Decidable c] {a b : Int} (ha : U64 a) (hb : U64 b) : U64 (if c then a else b) := by split <;> assumption

def b2i (b : Bool) : Int := bif b then 1 else 0
theorem b2i_range (b : Bool) : 0 ≤ b2i b ∧ b2i b ≤ 1 := by cases b <;> decide

/-- A function under seal: nothing unfolds it by itself. -/
noncomputable def seal_ {α : Sort _} (a : α) : α := Classical.choose (⟨a, rfl⟩ : ∃ b, b = a)
theorem seal_eq {α : Sort _} (a : α) : seal_ a = a := Classical.choose_spec (⟨a, rfl⟩ : ∃ b, b = a)

/-- The scaled number of one multiplication by a power of ten's upper and lower word, shifted by m. -/
noncomputable def uscV : Int → Int → Int → Nat → Int := seal_ fun x hi lo m =>
  if (IntKind.u64.wrap (x * hi / 18446744073709551616 / 2 ^ m * 2 ^ m) != x * hi / 18446744073709551616) = true then
    bits BinOp.or IntKind.u64 (x * hi / 18446744073709551616 / 2 ^ m) 1
  else bits BinOp.or IntKind.u64 (IntKind.u64.wrap (x * hi / 18446744073709551616 - b2i (decide (x * hi % 18446744073709551616 < x * lo / 18446744073709551616))) / 2 ^ m)
    (b2i (decide (1 < IntKind.u64.wrap (x * hi % 18446744073709551616 - x * lo / 18446744073709551616))))
theorem uscV_eq (x hi lo : Int) (m : Nat) : uscV x hi lo m = 
  if (IntKind.u64.wrap (x * hi / 18446744073709551616 / 2 ^ m * 2 ^ m) != x * hi / 18446744073709551616) = true then
    bits BinOp.or IntKind.u64 (x * hi / 18446744073709551616 / 2 ^ m) 1
  else bits BinOp.or IntKind.u64 (IntKind.u64.wrap (x * hi / 18446744073709551616 - b2i (decide (x * hi % 18446744073709551616 < x * lo / 18446744073709551616))) / 2 ^ m)
    (b2i (decide (1 < IntKind.u64.wrap (x * hi % 18446744073709551616 - x * lo / 18446744073709551616)))) := by
  unfold uscV
  rw [seal_eq]
theorem uscV_u64 (x hi lo : Int) (m : Nat) : U64 (uscV x hi lo m) := by
  rw [uscV_eq]
  exact u64_ite (u64_bits _ _ _) (u64_bits _ _ _)

/-- Cells of a new block of three, draws let by. -/
theorem new3_0 (w : World) (x y z : Value) (t : Nat) : (w.alloc (.cells #[x, y, z] t)).cell? ⟨w.heap.size, 0, none⟩ = some x := by simp
theorem new3_1 (w : World) (x y z : Value) (t : Nat) : (w.alloc (.cells #[x, y, z] t)).cell? ⟨w.heap.size, 1, none⟩ = some y := by simp
theorem new3_2 (w : World) (x y z : Value) (t : Nat) : (w.alloc (.cells #[x, y, z] t)).cell? ⟨w.heap.size, 2, none⟩ = some z := by simp
theorem new3_0d (w : World) (x y z : Value) (t n : Nat) : ((w.alloc (.cells #[x, y, z] t)).drewN n).cell? ⟨w.heap.size, 0, none⟩ = some x := new3_0 ..
theorem new3_1d (w : World) (x y z : Value) (t n : Nat) : ((w.alloc (.cells #[x, y, z] t)).drewN n).cell? ⟨w.heap.size, 1, none⟩ = some y := new3_1 ..
theorem new3_2d (w : World) (x y z : Value) (t n : Nat) : ((w.alloc (.cells #[x, y, z] t)).drewN n).cell? ⟨w.heap.size, 2, none⟩ = some z := new3_2 ..

noncomputable def nudgeV : Int → Int → Int := seal_ fun u d => IntKind.u64.wrap (u + IntKind.u64.wrap d)
noncomputable def ceilV : Int → Int := seal_ fun u => IntKind.u64.wrap (u + 3) / 4
noncomputable def floorV : Int → Int := seal_ fun u => u / 4
noncomputable def roundV : Int → Int := seal_ fun u => IntKind.u64.wrap (IntKind.u64.wrap (u + 1) + bits BinOp.and IntKind.u64 (u / 4) 1) / 4
theorem nudgeV_eq (u d : Int) : nudgeV u d = IntKind.u64.wrap (u + IntKind.u64.wrap d) := by unfold nudgeV; rw [seal_eq]
theorem ceilV_eq (u : Int) : ceilV u = IntKind.u64.wrap (u + 3) / 4 := by unfold ceilV; rw [seal_eq]
theorem floorV_eq (u : Int) : floorV u = u / 4 := by unfold floorV; rw [seal_eq]
theorem roundV_eq (u : Int) : roundV u = IntKind.u64.wrap (IntKind.u64.wrap (u + 1) + bits BinOp.and IntKind.u64 (u / 4) 1) / 4 := by unfold roundV; rw [seal_eq]
theorem nudgeV_u64 (u d : Int) : U64 (nudgeV u d) := by rw [nudgeV_eq]; exact u64_wrap _
theorem ceilV_u64 (u : Int) : U64 (ceilV u) := by rw [ceilV_eq]; exact u64_div (u64_wrap _) 4
theorem floorV_u64 {u : Int} (h : U64 u) : U64 (floorV u) := by rw [floorV_eq]; exact u64_div h 4
theorem roundV_u64 (u : Int) : U64 (roundV u) := by rw [roundV_eq]; exact u64_div (u64_wrap _) 4

/-- The digits and the power of the shortest decimal, behind the choice of the two ends. -/
noncomputable def shortV (mn mx od nod m hi lo : Int) (s : Nat) (p : Int) : Int × Int :=
  if ceilV (nudgeV (uscV mn hi lo s) od) ≤ floorV (nudgeV (uscV mx hi lo s) nod) / 10 * 10 then (floorV (nudgeV (uscV mx hi lo s) nod) / 10, -(p - 1))
  else if ceilV (nudgeV (uscV mn hi lo s) od) < floorV (nudgeV (uscV mx hi lo s) nod) then (roundV (uscV m hi lo s), -p)
  else (ceilV (nudgeV (uscV mn hi lo s) od), -p)
theorem shortV_u64 (mn mx od nod m hi lo : Int) (s : Nat) (p : Int) : U64 (shortV mn mx od nod m hi lo s p).1 := by
  unfold shortV
  split
  · exact u64_div (floorV_u64 (nudgeV_u64 _ _)) 10
  · split
    · exact roundV_u64 _
    · exact ceilV_u64 _
theorem shortV_pow (mn mx od nod m hi lo : Int) (s : Nat) (p : Int) (h0 : -390 ≤ p) (h1 : p ≤ 390) : -400 ≤ (shortV mn mx od nod m hi lo s p).2 ∧ (shortV mn mx od nod m hi lo s p).2 ≤ 400 := by
  unfold shortV
  split
  · simp only; omega
  · split <;> (simp only; omega)
theorem shortV_1 {mn mx od nod m hi lo : Int} {s : Nat} {p : Int} {r : Int × Int} (H : Hid (shortV mn mx od nod m hi lo s p = r))
    (h : ceilV (nudgeV (uscV mn hi lo s) od) ≤ floorV (nudgeV (uscV mx hi lo s) nod) / 10 * 10) :
    r = (floorV (nudgeV (uscV mx hi lo s) nod) / 10, -(p - 1)) := H.out.symm.trans (if_pos h)
theorem shortV_2 {mn mx od nod m hi lo : Int} {s : Nat} {p : Int} {r : Int × Int} (H : Hid (shortV mn mx od nod m hi lo s p = r))
    (h : floorV (nudgeV (uscV mx hi lo s) nod) / 10 * 10 < ceilV (nudgeV (uscV mn hi lo s) od))
    (h' : ceilV (nudgeV (uscV mn hi lo s) od) < floorV (nudgeV (uscV mx hi lo s) nod)) : r = (roundV (uscV m hi lo s), -p) := by
  rw [← H.out, shortV, if_neg (Int.not_le.2 h), if_pos h']
theorem shortV_3 {mn mx od nod m hi lo : Int} {s : Nat} {p : Int} {r : Int × Int} (H : Hid (shortV mn mx od nod m hi lo s p = r))
    (h : floorV (nudgeV (uscV mx hi lo s) nod) / 10 * 10 < ceilV (nudgeV (uscV mn hi lo s) od))
    (h' : floorV (nudgeV (uscV mx hi lo s) nod) ≤ ceilV (nudgeV (uscV mn hi lo s) od)) : r = (ceilV (nudgeV (uscV mn hi lo s) od), -p) := by
  rw [← H.out, shortV, if_neg (Int.not_le.2 h), if_neg (Int.not_lt.2 h')]

theorem shl_range (n : Nat) : 0 ≤ (2 : Int) ^ n := Int.le_of_lt (Int.pow_pos (by decide))

end Go.Proofs.YthcjnadceambgaaGreatDoor
