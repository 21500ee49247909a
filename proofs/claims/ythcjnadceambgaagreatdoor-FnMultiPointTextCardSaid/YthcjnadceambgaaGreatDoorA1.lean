/- Small number functions of the decimal writer: what each returns. -/
import Derived.Test.YthcjnadceambgaaGreatDoorRows
import Derived.Test.YthcjnadceambgaaGreatDoorShelf
import Derived.Test.YthcjnadceambgaaGreatDoorM
import Derived.WalkKit
import Derived.WalkSpells
import Derived.WalkLawsBesides
import Derived.Handy
import Derived.Deep.QuietTactic
import Derived.BigQuiet
namespace Go.Proofs.YthcjnadceambgaaGreatDoor
open Go.RowKit

set_option maxHeartbeats 400000 in
theorem log10Pow2_any (x : Int) (w : World) (h0 : -20000 ≤ x) (h1 : x ≤ 20000) :
    Calls Tryz.prog 166 #[.int .i64 x] w fun e w' => e = .returned (.int .i64 (x * 78913 / 262144)) ∧ w' = w := by
  go_enter Tryz.func166, Tryz.ntmps166
  go_wp2
  go_ret
  exact ⟨rfl, rfl⟩

set_option maxHeartbeats 400000 in
theorem log2Pow10_any (x : Int) (w : World) (h0 : -20000 ≤ x) (h1 : x ≤ 20000) :
    Calls Tryz.prog 177 #[.int .i64 x] w fun e w' => e = .returned (.int .i64 (x * 108853 / 32768)) ∧ w' = w := by
  go_enter Tryz.func177, Tryz.ntmps177
  go_wp2
  go_ret
  exact ⟨rfl, rfl⟩

set_option maxHeartbeats 400000 in
theorem skewed_any (x : Int) (w : World) (h0 : -20000 ≤ x) (h1 : x ≤ 20000) :
    Calls Tryz.prog 175 #[.int .i64 x] w fun e w' => e = .returned (.int .i64 ((x * 631305 - 261663) / 2097152)) ∧ w' = w := by
  go_enter Tryz.func175, Tryz.ntmps175
  go_wp2
  go_ret
  exact ⟨rfl, rfl⟩

set_option maxHeartbeats 400000 in
theorem bool2u_any (b : Bool) (w : World) :
    Calls Tryz.prog 196 #[.bool b] w fun e w' => e = .returned (.int .u64 (b2i b)) ∧ w' = w := by
  cases b
  all_goals
    go_enter Tryz.func196, Tryz.ntmps196
    go_wp2
    go_ret
    exact ⟨rfl, rfl⟩

set_option maxHeartbeats 1000000 in
theorem uscale_any (x hi lo s : Int) (Hx : U64 x) (Hhi : U64 hi) (Hlo : U64 lo)
    (w : World) (b : Nat) (c0 : w.cell? ⟨b, 0, none⟩ = some (.int .u64 hi)) (c1 : w.cell? ⟨b, 1, none⟩ = some (.int .u64 lo)) (c2 : w.cell? ⟨b, 2, none⟩ = some (.int .i64 s)) :
    Calls Tryz.prog 178 #[.int .u64 x, .pointer (some ⟨b, 0, none⟩)] w fun e w' => e = .returned (.int .u64 (uscV x hi lo (s % 64).toNat)) ∧ ∃ n, w' = w.drewN n := by
  obtain ⟨hx0, hx⟩ := Hx
  obtain ⟨hh0, hhi⟩ := Hhi
  obtain ⟨hl0, hlo⟩ := Hlo
  obtain ⟨x, rfl⟩ := Int.eq_ofNat_of_zero_le hx0
  obtain ⟨hi, rfl⟩ := Int.eq_ofNat_of_zero_le hh0
  obtain ⟨lo, rfl⟩ := Int.eq_ofNat_of_zero_le hl0
  have hx' : x < 18446744073709551616 := by omega
  have hhi' : hi < 18446744073709551616 := by omega
  have hlo' : lo < 18446744073709551616 := by omega
  clear hx hhi hlo hx0 hh0 hl0
  obtain ⟨m, hm, he⟩ : ∃ m : Nat, m ≤ 63 ∧ bits BinOp.and IntKind.i64 s 63 = (m : Int) := ⟨(s % 64).toNat, by omega, by rw [i64_and63]; omega⟩
  have em : (s % 64).toNat = m := by rw [i64_and63] at he; omega
  rw [em]
  clear em
  rw [uscV_eq]
  by_cases hc : (IntKind.u64.wrap ((x : Int) * hi / 18446744073709551616 / 2 ^ m * 2 ^ m) != (x : Int) * hi / 18446744073709551616) = true
  · rw [if_pos hc]
    go_enter Tryz.func178, Tryz.ntmps178
    go_wp2_with (first
      | (go_at_call 195; refine (Tryz.bits_Mul64 _ _ (by assumption) (by assumption) _).mono ?_; rintro e w' ⟨rfl, rfl⟩)
      | (go_at_call 196; refine (bool2u_any _ _).mono ?_; rintro e w' ⟨rfl, rfl⟩))
    go_ret
    exact ⟨rfl, 0, rfl⟩
  · rw [if_neg hc]
    have hc' := Bool.eq_false_iff.2 hc
    clear hc
    go_enter Tryz.func178, Tryz.ntmps178
    go_wp2_with (first
      | (go_at_call 195; refine (Tryz.bits_Mul64 _ _ (by assumption) (by assumption) _).mono ?_; rintro e w' ⟨rfl, rfl⟩)
      | (go_at_call 196; refine (bool2u_any _ _).mono ?_; rintro e w' ⟨rfl, rfl⟩))
    go_quiet ((go_at_call 196; exact Calls.quiet_of_same ((bool2u_any _ _).mono fun e w' h => h)))
    go_wp2
    go_ret
    exact ⟨rfl, _, rfl⟩

theorem uscale_new (x hi lo s : Int) (w : World) (Hx : U64 x) (Hhi : U64 hi) (Hlo : U64 lo) :
    Calls Tryz.prog 178 #[.int .u64 x, .pointer (some ⟨w.heap.size, 0, none⟩)] (w.alloc (.cells #[.int .u64 hi, .int .u64 lo, .int .i64 s] 190)) fun e w' => e = .returned (.int .u64 (uscV x hi lo (s % 64).toNat)) ∧ ∃ n, w' = (w.alloc (.cells #[.int .u64 hi, .int .u64 lo, .int .i64 s] 190)).drewN n :=
  uscale_any x hi lo s Hx Hhi Hlo _ _ (new3_0 ..) (new3_1 ..) (new3_2 ..)

theorem uscale_newd (x hi lo s : Int) (w : World) (n : Nat) (Hx : U64 x) (Hhi : U64 hi) (Hlo : U64 lo) :
    Calls Tryz.prog 178 #[.int .u64 x, .pointer (some ⟨w.heap.size, 0, none⟩)] ((w.alloc (.cells #[.int .u64 hi, .int .u64 lo, .int .i64 s] 190)).drewN n) fun e w' => e = .returned (.int .u64 (uscV x hi lo (s % 64).toNat)) ∧ ∃ k, w' = (w.alloc (.cells #[.int .u64 hi, .int .u64 lo, .int .i64 s] 190)).drewN k := by
  refine (uscale_any x hi lo s Hx Hhi Hlo _ _ (new3_0d ..) (new3_1d ..) (new3_2d ..)).mono ?_
  rintro e w' ⟨he, m, hw⟩
  exact ⟨he, n + m, by rw [hw, World.drewN_drewN]⟩

set_option maxHeartbeats 400000 in
theorem nudge_any (u d : Int) (w : World) (hu : U64 u) : Calls Tryz.prog 179 #[.int .u64 u, .int .i64 d] w fun e w' => e = .returned (.int .u64 (nudgeV u d)) ∧ w' = w := by
  obtain ⟨h0, h1⟩ := hu
  go_enter Tryz.func179, Tryz.ntmps179
  go_wp2
  go_ret
  exact ⟨by rw [nudgeV_eq]; rfl, rfl⟩

set_option maxHeartbeats 400000 in
theorem ceil_any (u : Int) (w : World) (hu : U64 u) : Calls Tryz.prog 180 #[.int .u64 u] w fun e w' => e = .returned (.int .u64 (ceilV u)) ∧ w' = w := by
  obtain ⟨h0, h1⟩ := hu
  go_enter Tryz.func180, Tryz.ntmps180
  go_wp2
  go_ret
  exact ⟨by rw [ceilV_eq]; rfl, rfl⟩

set_option maxHeartbeats 400000 in
theorem floor_any (u : Int) (w : World) (hu : U64 u) : Calls Tryz.prog 181 #[.int .u64 u] w fun e w' => e = .returned (.int .u64 (floorV u)) ∧ w' = w ∧ 0 ≤ floorV u ∧ floorV u < 18446744073709551616 := by
  obtain ⟨h0, h1⟩ := hu
  go_enter Tryz.func181, Tryz.ntmps181
  go_wp2
  go_ret
  exact ⟨by rw [floorV_eq]; rfl, rfl, floorV_u64 ⟨h0, h1⟩⟩

set_option maxHeartbeats 400000 in
theorem round_any (u : Int) (w : World) (hu : U64 u) : Calls Tryz.prog 182 #[.int .u64 u] w fun e w' => e = .returned (.int .u64 (roundV u)) ∧ w' = w := by
  obtain ⟨h0, h1⟩ := hu
  go_enter Tryz.func182, Tryz.ntmps182
  go_wp2
  go_ret
  exact ⟨by rw [roundV_eq]; rfl, rfl⟩

end Go.Proofs.YthcjnadceambgaaGreatDoor
