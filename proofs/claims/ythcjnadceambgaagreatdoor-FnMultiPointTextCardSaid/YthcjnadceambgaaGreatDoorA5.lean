/- The decimal of a number, shortest, without an exponent: appended bytes that depend on the number alone. -/
import Derived.Test.YthcjnadceambgaaGreatDoorA4
import Derived.Lib.ItoaLen
namespace Go.Proofs.YthcjnadceambgaaGreatDoor
open Go.RowKit

set_option maxRecDepth 100000 in
set_option maxHeartbeats 1000000 in
theorem fmtZ_any (base : Nat) (v : Value) (l : List UInt8) (neg : Bool) (w : World)
    (hown : w.ownsRow base 5 1 v l.length (Bs l)) (hbase : base ≤ w.heap.size) (hl : l.length ≤ 70368744177664) :
    Calls Tryz.prog 161 #[v, .bool neg, .slice none 0 0, .int .i64 0, .int .i64 0, .int .i64 (-1), .int .u8 102, .bool true] w
      (AppEnd 5 base w v (l ++ fSign neg ++ [48])) := by
  have hs1 := fSign_len neg
  have HO := AppB.start hown
  clear hown
  cases neg
  · go_enter Tryz.func161, Tryz.ntmps161
    go_wp2_with (at_builtin; refine app_byte rfl _ _ _ rfl Tryz.underlying33 infoB HO rfl _ 48 rfl rfl (by first | rfl | simp) hbase (by omega) ?_; intro v1 w1 H1)
    go_ret
    exact ⟨_, rfl, by simpa [fSign] using H1⟩
  · go_enter Tryz.func161, Tryz.ntmps161
    go_wp2_with (first
      | (at_builtin; refine app_byte rfl _ _ _ rfl Tryz.underlying33 infoB HO rfl _ 45 rfl rfl (by first | rfl | simp) hbase (by omega) ?_; intro v1 w1 H1; clear HO)
      | (at_builtin; refine app_byte rfl _ _ _ rfl Tryz.underlying33 infoB H1 rfl _ 48 rfl rfl (by first | rfl | simp) hbase (by simp only [List.length_append, List.length_cons, List.length_nil]; omega) ?_; intro v2 w2 H2))
    go_ret
    exact ⟨_, rfl, by simpa [fSign] using H2⟩

def nDig (u : Nat) : Nat := if u = 0 then 0 else Lib.nDigits u
theorem nDig_lt (u : Nat) : u < 10 ^ nDig u := by
  unfold nDig
  split
  · rename_i h; subst h; decide
  · exact Lib.lt_pow_nDigits u
theorem nDig_le (u : Nat) (h : u < 18446744073709551616) : nDig u ≤ 20 := by
  unfold nDig
  split
  · omega
  · exact Lib.nDigits_le20 u h

set_option maxHeartbeats 1000000 in
theorem numDigits_all (u : Nat) (hu : u < 18446744073709551616) (w : World) (htab : Lib.TabIs Tryz.prog w "internal/strconv.uint64pow10" .u64 Lib.pow10Tab) :
    Calls Tryz.prog 165 #[.int .u64 u] w fun e w' => e = .returned (.int .i64 (nDig u)) ∧ w' = w := by
  by_cases h0 : u = 0
  · subst h0
    have hcell : w.cell? ⟨2, 0, none⟩ = some (.int .u64 1) := by
      rw [htab.cell (g := 2) (by kernel_rfl) 0 (by rw [Lib.pow10Tab_length]; omega)]
      rfl
    clear htab
    have hL : Lib.bitLen 0 = 0 := by decide
    go_enter Tryz.func165, Tryz.ntmps165
    go_wp2_with (first
      | (go_at_call 162; (with_reducible refine (Tryz.bits_Len64 _ _ (by omega) (by omega)).mono ?_); rintro e w' ⟨rfl, rfl⟩)
      | go_in)
    go_ret
    exact ⟨rfl, rfl⟩
  · have e : nDig u = Lib.nDigits u := if_neg h0
    rw [e]
    exact Tryz.internal_strconv_numDigits u (by omega) hu w htab

/-- What the walk needs of the tables: the powers of ten, upper and lower words; the powers of ten up to the nineteenth. -/
structure Tabs (T : Nat → Int) (w : World) : Prop where
  p10 : P10 T w
  u10 : Lib.TabIs Tryz.prog w "internal/strconv.uint64pow10" .u64 Lib.pow10Tab
theorem Tabs.mono {T : Nat → Int} {w w' : World} {r : Option Nat} (h : Tabs T w) (hg : w.grownBy w' r) (h2 : r ≠ some 3) (h3 : r ≠ some 2) : Tabs T w' := by
  refine ⟨fun i hi => ?_, ?_⟩
  · have h0 := h.p10 i hi
    exact hg.cell h0 (fun e => h2 e.symm)
  · have hc := h.u10.cell (g := 2) (by kernel_rfl) 0 (by rw [Lib.pow10Tab_length]; omega)
    have hlt := World.block_lt_of_cell? w _ hc
    have hb := hg.block 2 hlt (fun e => h3 e.symm)
    have h0 := h.u10
    have hn : Tryz.prog.globalNamed "internal/strconv.uint64pow10" = some 2 := by kernel_rfl
    unfold Lib.TabIs World.var? at h0 ⊢
    rw [hn] at h0 ⊢
    simp only [Option.bind_some] at h0 ⊢
    rw [hb]
    exact h0

end Go.Proofs.YthcjnadceambgaaGreatDoor
