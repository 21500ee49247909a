/- ftoa64 at 'f', shortest: the bytes that it appends. The decimal of a number as it is appended and as it is written into a text: the same bytes. A place in GeoJSON: the package's function and the reference write the same bytes. The package's GeoJSON of a line. One string behind the other. Slices of any elements that a call makes by appending: what an append leaves, and what stays as it was. The reference's list in brackets. -/
import Derived.Deep.RegionWith
import Derived.Deep.QuietTactic
import Derived.BigQuiet
import Derived.Deep.RegionHeld3
import Derived.Test.YthcjnadceambgaaGreatDoorProg
import Derived.WalkKit
import Derived.WalkSpells
import Derived.WalkLawsBesides
import Derived.Handy
import Derived.Deep.DeepCutAuto
import Derived.Test.YthcjnadceambgaaGreatDoorJST2
namespace Go.Proofs.YthcjnadceambgaaGreatDoor
open Go.RowKit

/-- A call that appends to a slice of bytes that the caller owns: whatever the slice and the memory are, it appends out. -/
def Appends (T : Nat → Int) (f : FuncId) (rest : Array Value) (out : List UInt8) : Prop :=
  ∀ (base : Nat) (v : Value) (l : List UInt8) (w : World), w.ownsRow base 5 1 v l.length (Bs l) → base ≤ w.heap.size → l.length ≤ 35184372088832 → Tabs T w → 3 < base → 2 < base →
    Calls Tryz.prog f (#[v] ++ rest) w (AppEnd 5 base w v (l ++ out))

theorem run_f64bits (b : Nat) (w : World) : (callFunc 158 #[.float .f64 b]).run Tryz.prog w = .ok (.value (.int .u64 b)) w := by kernel_rfl

set_option maxRecDepth 100000 in
set_option maxHeartbeats 1000000 in
theorem ftoa_nan (b : Nat) (ng : Bool) (mt : Nat) (hexp : bits BinOp.and IntKind.i64 ((b : Int) / 4503599627370496) 2047 = 2047) (hman : bits BinOp.and IntKind.u64 (b : Int) 4503599627370495 = (mt : Int)) (hm : ((mt : Int) != 0) = true) (hb : b < 18446744073709551616) (hneg : (((b : Int) / 9223372036854775808) != 0) = ng) (base : Nat) (v : Value) (l : List UInt8) (w : World)
    (hown : w.ownsRow base 5 1 v l.length (Bs l)) (hbase : base ≤ w.heap.size) (hl : l.length ≤ 35184372088832) :
    Calls Tryz.prog 156 #[v, .float .f64 b, .int .u8 102, .int .i64 (-1)] w
      (AppEnd 5 base w v (l ++ [78, 97, 78])) := by
  have HO := AppB.start hown
  clear hown
  have kf := run_f64bits
  go_enter Tryz.func156, Tryz.ntmps156
  go_wp2_with fail
  go_quiet (fail)
  go_wp2_with (at_builtin; refine app_str rfl _ _ _ _ rfl Tryz.underlying33 Tryz.underlying9 infoB (HO.beside (gt_drewN _ _ none)) rfl _ rfl hbase (by show l.length + 3 ≤ _; omega) ?_; intro v1 w1 H1)
  go_ret
  exact ⟨_, rfl, H1⟩

set_option maxRecDepth 100000 in
set_option maxHeartbeats 1000000 in
theorem ftoa_inf (b : Nat) (ng : Bool) (hexp : bits BinOp.and IntKind.i64 ((b : Int) / 4503599627370496) 2047 = 2047) (hman : bits BinOp.and IntKind.u64 (b : Int) 4503599627370495 = 0) (hb : b < 18446744073709551616) (hneg : (((b : Int) / 9223372036854775808) != 0) = ng) (base : Nat) (v : Value) (l : List UInt8) (w : World)
    (hown : w.ownsRow base 5 1 v l.length (Bs l)) (hbase : base ≤ w.heap.size) (hl : l.length ≤ 35184372088832) :
    Calls Tryz.prog 156 #[v, .float .f64 b, .int .u8 102, .int .i64 (-1)] w
      (AppEnd 5 base w v (l ++ (if ng then [45, 73, 110, 102] else [43, 73, 110, 102]))) := by
  have HO := AppB.start hown
  clear hown
  have kf := run_f64bits
  cases ng
  · go_enter Tryz.func156, Tryz.ntmps156
    go_wp2_with fail
    go_quiet (fail)
    go_wp2_with (at_builtin; refine app_str rfl _ _ _ _ rfl Tryz.underlying33 Tryz.underlying9 infoB (HO.beside (gt_drewN _ _ none)) rfl _ rfl hbase (by show l.length + 4 ≤ _; omega) ?_; intro v1 w1 H1)
    go_ret
    exact ⟨_, rfl, H1⟩
  · go_enter Tryz.func156, Tryz.ntmps156
    go_wp2_with fail
    go_quiet (fail)
    go_wp2_with (at_builtin; refine app_str rfl _ _ _ _ rfl Tryz.underlying33 Tryz.underlying9 infoB (HO.beside (gt_drewN _ _ none)) rfl _ rfl hbase (by show l.length + 4 ≤ _; omega) ?_; intro v1 w1 H1)
    go_ret
    exact ⟨_, rfl, H1⟩

set_option maxRecDepth 100000 in
set_option maxHeartbeats 2000000 in
theorem ftoa_zero (b : Nat) (ng : Bool) (hexp : bits BinOp.and IntKind.i64 ((b : Int) / 4503599627370496) 2047 = 0) (hman : bits BinOp.and IntKind.u64 (b : Int) 4503599627370495 = 0) (hb : b < 18446744073709551616) (hneg : (((b : Int) / 9223372036854775808) != 0) = ng) (base : Nat) (v : Value) (l : List UInt8) (w : World)
    (hown : w.ownsRow base 5 1 v l.length (Bs l)) (hbase : base ≤ w.heap.size) (hl : l.length ≤ 35184372088832) :
    Calls Tryz.prog 156 #[v, .float .f64 b, .int .u8 102, .int .i64 (-1)] w
      (AppEnd 5 base w v (l ++ (fSign ng ++ [48]))) := by
  have HO := AppB.start hown
  clear hown
  have kf := run_f64bits
  go_enter Tryz.func156, Tryz.ntmps156
  go_wp2_with fail
  go_quiet (fail)
  go_wp2_with (go_at_call 161; refine (fmtZ_any base v l ng _ (HO.beside (gt_drewN _ _ none)).own hbase (by omega)).mono ?_; rintro e w' ⟨v', rfl, H⟩)
  go_ret
  exact ⟨_, rfl, (HO.beside (gt_drewN _ _ none)).trans (by simpa using H)⟩

theorem buf_cells (w : World) (t : Nat) : ∀ j, j < 32 → (w.alloc (.cells (Array.replicate 32 (.int .u8 0)) t)).cell? ⟨w.heap.size, j, none⟩ = some (.int .u8 0) ∧ (w.alloc (.cells (Array.replicate 32 (.int .u8 0)) t)).frozen? ⟨w.heap.size, j, none⟩ = false := by
  intro j hj
  refine ⟨?_, by simp⟩
  rw [World.cell?_alloc_new]
  rw [Array.getElem?_replicate, if_pos hj]
theorem buf_kept {w w' : World} {b j : Nat} (h : Below w.heap.size w w') (hb : b < w.heap.size) {x : Value} (hc : w.cell? ⟨b, j, none⟩ = some x ∧ w.frozen? ⟨b, j, none⟩ = false) :
    w'.cell? ⟨b, j, none⟩ = some x ∧ w'.frozen? ⟨b, j, none⟩ = false := ⟨(h.cell (p := ⟨b, j, none⟩) hb).trans hc.1, (h.frozen (p := ⟨b, j, none⟩) hb).trans hc.2⟩

set_option maxRecDepth 100000 in
set_option maxHeartbeats 2000000 in
theorem ftoa_den (T : Nat → Int) (u : Nat) (p : Int) (b : Nat) (ng : Bool) (mt : Nat) (hexp : bits BinOp.and IntKind.i64 ((b : Int) / 4503599627370496) 2047 = 0) (hman : bits BinOp.and IntKind.u64 (b : Int) 4503599627370495 = (mt : Int)) (hm : ((mt : Int) == 0) = false) (hm1 : mt < 4503599627370496) (hb : b < 18446744073709551616) (hneg : (((b : Int) / 9223372036854775808) != 0) = ng) (base : Nat) (v : Value) (l : List UInt8) (w : World)
    (hown : w.ownsRow base 5 1 v l.length (Bs l)) (hbase : base ≤ w.heap.size) (hl : l.length ≤ 35184372088832) (hT : Tabs T w) (hg3 : 3 < base) (hg2 : 2 < base)
    (hu : u < 18446744073709551616) (hp0 : -400 ≤ p) (hp1 : p ≤ 400)
    (hshort : ∀ w, P10 T w → Calls Tryz.prog 171 #[.int .u64 (IntKind.u64.wrap ((mt : Int) * 2 ^ (64 - Lib.bitLen mt))), .int .i64 (-1022 - (64 - (Lib.bitLen mt : Int)) - 52)] w fun en w' => en = .returned (.tuple #[.int .u64 u, .int .i64 p]) ∧ Below w.heap.size w w') :
    Calls Tryz.prog 156 #[v, .float .f64 b, .int .u8 102, .int .i64 (-1)] w
      (AppEnd 5 base w v (l ++ (fSign ng ++ fInt (digF u (nDig u)) ((nDig u : Int) + p) (trimZ (digF u (nDig u)) (nDig u)) ++ fFrac (digF u (nDig u)) ((nDig u : Int) + p) (max ((trimZ (digF u (nDig u)) (nDig u) : Int) - ((nDig u : Int) + p)) 0) (trimZ (digF u (nDig u)) (nDig u))))) := by
  have HO := AppB.start hown
  clear hown
  have kf := run_f64bits
  have HS := Lib.hid hshort
  have HT := Lib.hid hT
  have HN := nDig_le u hu
  have HL := Lib.hid (nDig_lt u)
  have hz0 := trimZ_le (digF u (nDig u)) (nDig u)
  have hbw : base ≤ w.heap.size := hbase
  clear hshort hT
  go_enter Tryz.func156, Tryz.ntmps156
  go_wp2_with fail
  go_quiet (fail)
  go_wp2_with fail
  refine (Tryz.bits_Len64 _ _ (by omega) (by omega)).mono ?_
  rintro e w' ⟨rfl, rfl⟩
  have hbl : Lib.bitLen mt ≤ 64 := Lib.bitLen_le _ 64 (Nat.le_refl _) (by omega)
  go_wp2_with fail
  have HT1 : Hid (Tabs T ((w.drewN nq).alloc (.cells (Array.replicate 32 (.int .u8 0)) 172))) := (HT.out.mono (gt_alloc_r (gt_drewN w nq none) _) (by simp) (by simp))
  have HB := Lib.hid (buf_cells (w.drewN nq) 172)
  have HG1 := gt_alloc_r (gt_drewN w nq none) (.cells (Array.replicate 32 (.int .u8 0)) 172)
  obtain ⟨W1, hW1⟩ : ∃ W1, W1 = (w.drewN nq).alloc (.cells (Array.replicate 32 (.int .u8 0)) 172) := ⟨_, rfl⟩
  have hz1 : W1.heap.size = w.heap.size + 1 := by rw [hW1]; simp
  rw [← hW1] at HT1 HB HG1
  show Calls _ _ _ ((w.drewN nq).alloc (.cells (Array.replicate 32 (.int .u8 0)) 172)) _
  rw [← hW1]
  clear hW1 HT
  refine (HS.out _ HT1.out.p10).mono ?_
  rintro e w2 ⟨rfl, hb2⟩
  have HT2 : Hid (Tabs T w2) := HT1.out.mono (gt_below hb2 none) (by simp) (by simp)
  have HB2 : Hid (∀ j, j < 32 → w2.cell? ⟨w.heap.size, j, none⟩ = some (.int .u8 0) ∧ w2.frozen? ⟨w.heap.size, j, none⟩ = false) := fun j hj => buf_kept hb2 (by omega) (HB.out j hj)
  have HG2 : w.grownBy w2.drew none := gt_drew_r (gt_trans HG1 (gt_below hb2 none) (.inr (.inl rfl)))
  have hz2 : w.heap.size + 1 ≤ w2.heap.size := by have := hb2.size; omega
  clear HB HT1 HG1 hb2 hz1
  go_wp2_with fail
  go_region_with (first | (go_at_call 165; refine (numDigits_all u hu w2.drew HT2.out.u10).mono ?_; rintro e w' ⟨rfl, rfl⟩) | (go_at_call 164; refine (setDigits_nd u (nDig u) w.heap.size p w2.drew HB2.out HL.out hu HN hp0 hp1).mono ?_; rintro e w' ⟨rfl, hd, hg⟩))
  have HG3 := gt_trans HG2 hg (.inr (.inr ⟨_, rfl, Nat.le_refl _⟩))
  have HD : Hid (∀ t, t < trimZ (digF u (nDig u)) (nDig u) → w'.cell? ⟨w.heap.size, t, none⟩ = some (.int .u8 ((digF u (nDig u) t).toNat : Int))) := fun t ht => hd t (Nat.lt_of_lt_of_le ht hz0)
  have hsz : w.heap.size < w'.heap.size := by have h1 := hg.size; have h2 : w2.drew.heap.size = w2.heap.size := rfl; omega
  have hlt := (HO.own).lt
  have HLT : Hid (v.ownBlock ≠ some w.heap.size) := fun h => by have := hlt _ h; omega
  clear hd hg HG2 HB2 HT2 hz2 hlt
  go_wp2_with (go_at_call 161; refine (fmtF_any (digF u (nDig u)) base w.heap.size v l ng _ _ (trimZ (digF u (nDig u)) (nDig u)) _ (own_later HO.own HG3) (Nat.le_trans hbase HG3.size) (by omega) HD.out hsz HLT.out (by omega) (by omega) (by omega) (by omega) (by omega)).mono ?_; rintro e w4 ⟨v', rfl, H⟩)
  go_ret
  exact ⟨_, rfl, AppB.later HO.own HG3 (by simpa [List.append_assoc] using H)⟩

set_option maxRecDepth 100000 in
set_option maxHeartbeats 2000000 in
theorem ftoa_nor (T : Nat → Int) (u : Nat) (p : Int) (b : Nat) (ng : Bool) (ex M mt : Nat) (hexp : bits BinOp.and IntKind.i64 ((b : Int) / 4503599627370496) 2047 = (ex : Int)) (hman : bits BinOp.and IntKind.u64 (b : Int) 4503599627370495 = (mt : Int)) (he : ((ex : Int) == 2047) = false) (he0 : ((ex : Int) == 0) = false) (hex : ex ≤ 2046) (hor : bits BinOp.or IntKind.u64 (mt : Int) 4503599627370496 = (M : Int)) (hM : ((M : Int) == 0) = false) (hM1 : M < 9007199254740992) (hb : b < 18446744073709551616) (hneg : (((b : Int) / 9223372036854775808) != 0) = ng) (base : Nat) (v : Value) (l : List UInt8) (w : World)
    (hown : w.ownsRow base 5 1 v l.length (Bs l)) (hbase : base ≤ w.heap.size) (hl : l.length ≤ 35184372088832) (hT : Tabs T w) (hg3 : 3 < base) (hg2 : 2 < base)
    (hu : u < 18446744073709551616) (hp0 : -400 ≤ p) (hp1 : p ≤ 400)
    (hshort : ∀ w, P10 T w → Calls Tryz.prog 171 #[.int .u64 (IntKind.u64.wrap ((M : Int) * 2 ^ (64 - Lib.bitLen M))), .int .i64 ((ex : Int) + -1023 - (64 - (Lib.bitLen M : Int)) - 52)] w fun en w' => en = .returned (.tuple #[.int .u64 u, .int .i64 p]) ∧ Below w.heap.size w w') :
    Calls Tryz.prog 156 #[v, .float .f64 b, .int .u8 102, .int .i64 (-1)] w
      (AppEnd 5 base w v (l ++ (fSign ng ++ fInt (digF u (nDig u)) ((nDig u : Int) + p) (trimZ (digF u (nDig u)) (nDig u)) ++ fFrac (digF u (nDig u)) ((nDig u : Int) + p) (max ((trimZ (digF u (nDig u)) (nDig u) : Int) - ((nDig u : Int) + p)) 0) (trimZ (digF u (nDig u)) (nDig u))))) := by
  have HO := AppB.start hown
  clear hown
  have kf := run_f64bits
  have HS := Lib.hid hshort
  have HT := Lib.hid hT
  have HN := nDig_le u hu
  have HL := Lib.hid (nDig_lt u)
  have hz0 := trimZ_le (digF u (nDig u)) (nDig u)
  have hbw : base ≤ w.heap.size := hbase
  clear hshort hT
  go_enter Tryz.func156, Tryz.ntmps156
  go_wp2_with fail
  go_quiet (fail)
  go_wp2_with fail
  refine (Tryz.bits_Len64 _ _ (by omega) (by omega)).mono ?_
  rintro e w' ⟨rfl, rfl⟩
  have hbl : Lib.bitLen M ≤ 64 := Lib.bitLen_le _ 64 (Nat.le_refl _) (by omega)
  go_wp2_with fail
  have HT1 : Hid (Tabs T ((w.drewN nq).alloc (.cells (Array.replicate 32 (.int .u8 0)) 172))) := (HT.out.mono (gt_alloc_r (gt_drewN w nq none) _) (by simp) (by simp))
  have HB := Lib.hid (buf_cells (w.drewN nq) 172)
  have HG1 := gt_alloc_r (gt_drewN w nq none) (.cells (Array.replicate 32 (.int .u8 0)) 172)
  obtain ⟨W1, hW1⟩ : ∃ W1, W1 = (w.drewN nq).alloc (.cells (Array.replicate 32 (.int .u8 0)) 172) := ⟨_, rfl⟩
  have hz1 : W1.heap.size = w.heap.size + 1 := by rw [hW1]; simp
  rw [← hW1] at HT1 HB HG1
  show Calls _ _ _ ((w.drewN nq).alloc (.cells (Array.replicate 32 (.int .u8 0)) 172)) _
  rw [← hW1]
  clear hW1 HT
  refine (HS.out _ HT1.out.p10).mono ?_
  rintro e w2 ⟨rfl, hb2⟩
  have HT2 : Hid (Tabs T w2) := HT1.out.mono (gt_below hb2 none) (by simp) (by simp)
  have HB2 : Hid (∀ j, j < 32 → w2.cell? ⟨w.heap.size, j, none⟩ = some (.int .u8 0) ∧ w2.frozen? ⟨w.heap.size, j, none⟩ = false) := fun j hj => buf_kept hb2 (by omega) (HB.out j hj)
  have HG2 : w.grownBy w2.drew none := gt_drew_r (gt_trans HG1 (gt_below hb2 none) (.inr (.inl rfl)))
  have hz2 : w.heap.size + 1 ≤ w2.heap.size := by have := hb2.size; omega
  clear HB HT1 HG1 hb2 hz1
  go_wp2_with fail
  go_region_with (first | (go_at_call 165; refine (numDigits_all u hu w2.drew HT2.out.u10).mono ?_; rintro e w' ⟨rfl, rfl⟩) | (go_at_call 164; refine (setDigits_nd u (nDig u) w.heap.size p w2.drew HB2.out HL.out hu HN hp0 hp1).mono ?_; rintro e w' ⟨rfl, hd, hg⟩))
  have HG3 := gt_trans HG2 hg (.inr (.inr ⟨_, rfl, Nat.le_refl _⟩))
  have HD : Hid (∀ t, t < trimZ (digF u (nDig u)) (nDig u) → w'.cell? ⟨w.heap.size, t, none⟩ = some (.int .u8 ((digF u (nDig u) t).toNat : Int))) := fun t ht => hd t (Nat.lt_of_lt_of_le ht hz0)
  have hsz : w.heap.size < w'.heap.size := by have h1 := hg.size; have h2 : w2.drew.heap.size = w2.heap.size := rfl; omega
  have hlt := (HO.own).lt
  have HLT : Hid (v.ownBlock ≠ some w.heap.size) := fun h => by have := hlt _ h; omega
  clear hd hg HG2 HB2 HT2 hz2 hlt
  go_wp2_with (go_at_call 161; refine (fmtF_any (digF u (nDig u)) base w.heap.size v l ng _ _ (trimZ (digF u (nDig u)) (nDig u)) _ (own_later HO.own HG3) (Nat.le_trans hbase HG3.size) (by omega) HD.out hsz HLT.out (by omega) (by omega) (by omega) (by omega) (by omega)).mono ?_; rintro e w4 ⟨v', rfl, H⟩)
  go_ret
  exact ⟨_, rfl, AppB.later HO.own HG3 (by simpa [List.append_assoc] using H)⟩

theorem bitLen_pos (n : Nat) (h : 1 ≤ n) (h1 : n < 2 ^ 64) : 1 ≤ Lib.bitLen n := by
  rw [Lib.bitLen_half n (by omega) h1]
  omega

theorem fFrac_len (f : Nat → UInt8) (dp prec : Int) (nd : Nat) (h : prec ≤ 1000) : (fFrac f dp prec nd).length ≤ 3001 := by
  unfold fFrac
  split
  · simp only [List.length_append, List.length_cons, List.length_nil, List.length_replicate, List.length_map, List.length_range]
    omega
  · simp

/-- 'out' is the decimal of the number whose bits are b: ftoa64 appends it, whatever it appends to. -/
def DecOf (T : Nat → Int) (b : Nat) (out : List UInt8) : Prop :=
  out.length ≤ 4000 ∧ ∀ (base : Nat) (v : Value) (l : List UInt8) (w : World), w.ownsRow base 5 1 v l.length (Bs l) → base ≤ w.heap.size → l.length ≤ 35184372088832 → Tabs T w → 3 < base → 2 < base →
    Calls Tryz.prog 156 #[v, .float .f64 b, .int .u8 102, .int .i64 (-1)] w (AppEnd 5 base w v (l ++ out))

theorem dec_len (ng : Bool) (u : Nat) (p : Int) (hu : u < 18446744073709551616) (hp0 : -400 ≤ p) (hp1 : p ≤ 400) : ((fSign ng ++ fInt (digF u (nDig u)) ((nDig u : Int) + p) (trimZ (digF u (nDig u)) (nDig u)) ++ fFrac (digF u (nDig u)) ((nDig u : Int) + p) (max ((trimZ (digF u (nDig u)) (nDig u) : Int) - ((nDig u : Int) + p)) 0) (trimZ (digF u (nDig u)) (nDig u))) : List UInt8).length ≤ 4000 := by
  have h1 := fSign_len ng
  have h2 := nDig_le u hu
  have h3 := trimZ_le (digF u (nDig u)) (nDig u)
  have h4 := fInt_len (digF u (nDig u)) ((nDig u : Int) + p) (trimZ (digF u (nDig u)) (nDig u)) (by omega)
  have h5 := fFrac_len (digF u (nDig u)) ((nDig u : Int) + p) (max ((trimZ (digF u (nDig u)) (nDig u) : Int) - ((nDig u : Int) + p)) 0) (trimZ (digF u (nDig u)) (nDig u)) (by omega)
  simp only [List.length_append]
  omega

theorem ftoa64_any (T : Nat → Int) (hT : ∀ i, U64 (T i)) (b : Nat) (hb : b < 18446744073709551616) : ∃ out, DecOf T b out := by
  obtain ⟨ng, hneg⟩ : ∃ ng, (((b : Int) / 9223372036854775808) != 0) = ng := ⟨_, rfl⟩
  have hexp := i64_and2047 ((b : Int) / 4503599627370496)
  have hman := u64_and52 b hb
  obtain ⟨ex, hex⟩ : ∃ ex : Nat, ex = b / 4503599627370496 % 2048 := ⟨_, rfl⟩
  obtain ⟨mt, hmt⟩ : ∃ mt : Nat, mt = b % 4503599627370496 := ⟨_, rfl⟩
  have e1 : ((b : Int) / 4503599627370496) % 2048 = (ex : Int) := by omega
  rw [e1] at hexp
  rw [← hmt] at hman
  have hm1 : mt < 4503599627370496 := by omega
  have hx1 : ex < 2048 := by omega
  clear e1 hex hmt
  by_cases h7 : ex = 2047
  · subst h7
    by_cases hm : mt = 0
    · subst hm
      exact ⟨_, by cases ng <;> decide, fun base v l w h1 h2 h3 _ _ _ => ftoa_inf b ng hexp hman hb hneg base v l w h1 h2 h3⟩
    · exact ⟨_, by decide, fun base v l w h1 h2 h3 _ _ _ => ftoa_nan b ng mt hexp hman (by simpa using hm) hb hneg base v l w h1 h2 h3⟩
  · by_cases h0 : ex = 0
    · subst h0
      by_cases hm : mt = 0
      · subst hm
        exact ⟨_, by cases ng <;> decide, fun base v l w h1 h2 h3 _ _ _ => ftoa_zero b ng hexp hman hb hneg base v l w h1 h2 h3⟩
      · have hbl : Lib.bitLen mt ≤ 64 := Lib.bitLen_le _ 64 (Nat.le_refl _) (by omega)
        have hbl1 : 1 ≤ Lib.bitLen mt := bitLen_pos mt (by omega) (by omega)
        have hU := u64_wrap ((mt : Int) * 2 ^ (64 - Lib.bitLen mt))
        obtain ⟨⟨d, p⟩, hr0, hr1, hr2, hcall⟩ := shortFloat_any T hT (IntKind.u64.wrap ((mt : Int) * 2 ^ (64 - Lib.bitLen mt))) (-1022 - (64 - (Lib.bitLen mt : Int)) - 52) (by omega) (by omega) hU.1 hU.2
        obtain ⟨u, rfl⟩ := Int.eq_ofNat_of_zero_le hr0.1
        have hu : u < 18446744073709551616 := by have := hr0.2; simp only at this; omega
        exact ⟨_, dec_len ng u p hu hr1 hr2, fun base v l w h1 h2 h3 h4 h5 h6 => ftoa_den T u p b ng mt hexp hman (by simpa using hm) hm1 hb hneg base v l w h1 h2 h3 h4 h5 h6 hu hr1 hr2 hcall⟩
    · have hor := u64_or52 mt hm1
      have hbl : Lib.bitLen (mt + 4503599627370496) ≤ 64 := Lib.bitLen_le _ 64 (Nat.le_refl _) (by omega)
      have hbl1 : 1 ≤ Lib.bitLen (mt + 4503599627370496) := bitLen_pos _ (by omega) (by omega)
      have hU := u64_wrap (((mt + 4503599627370496 : Nat) : Int) * 2 ^ (64 - Lib.bitLen (mt + 4503599627370496)))
      obtain ⟨⟨d, p⟩, hr0, hr1, hr2, hcall⟩ := shortFloat_any T hT (IntKind.u64.wrap (((mt + 4503599627370496 : Nat) : Int) * 2 ^ (64 - Lib.bitLen (mt + 4503599627370496)))) ((ex : Int) + -1023 - (64 - (Lib.bitLen (mt + 4503599627370496) : Int)) - 52) (by omega) (by omega) hU.1 hU.2
      obtain ⟨u, rfl⟩ := Int.eq_ofNat_of_zero_le hr0.1
      have hu : u < 18446744073709551616 := by have := hr0.2; simp only at this; omega
      exact ⟨_, dec_len ng u p hu hr1 hr2, fun base v l w h1 h2 h3 h4 h5 h6 => ftoa_nor T u p b ng ex (mt + 4503599627370496) mt hexp hman (by simpa using fun h => h7 (by omega)) (by simpa using h0) (by omega) hor (by simp only [beq_eq_false_iff_ne, ne_eq]; omega) (by omega) hb hneg base v l w h1 h2 h3 h4 h5 h6 hu hr1 hr2 hcall⟩

end Go.Proofs.YthcjnadceambgaaGreatDoor
namespace Go.Proofs.YthcjnadceambgaaGreatDoor
open Go.RowKit

/-- The decimal of the number whose bits are b. -/
noncomputable def decT (T : Nat → Int) (b : Nat) : List UInt8 := open Classical in if h : (∀ i, U64 (T i)) ∧ b < 18446744073709551616 then Classical.choose (ftoa64_any T h.1 b h.2) else []
theorem decT_of (T : Nat → Int) (hT : ∀ i, U64 (T i)) (b : Nat) (hb : b < 18446744073709551616) : DecOf T b (decT T b) := by
  unfold decT
  rw [dif_pos ⟨hT, hb⟩]
  exact Classical.choose_spec (ftoa64_any T hT b hb)
theorem decT_len (T : Nat → Int) (b : Nat) : (decT T b).length ≤ 4000 := by
  unfold decT
  split
  · rename_i h
    exact (Classical.choose_spec (ftoa64_any T h.1 b h.2)).1
  · simp

theorem Tabs.lt3 {T : Nat → Int} {w : World} (h : Tabs T w) : 3 < w.heap.size := World.block_lt_of_cell? w _ (h.p10 0 (by omega))
theorem Tabs.lt2 {T : Nat → Int} {w : World} (h : Tabs T w) : 2 < w.heap.size :=
  World.block_lt_of_cell? w _ (h.u10.cell (g := 2) (by kernel_rfl) 0 (by rw [Lib.pow10Tab_length]; omega))

set_option maxRecDepth 100000 in
set_option maxHeartbeats 1000000 in
theorem appendFloat_any (T : Nat → Int) (hT : ∀ i, U64 (T i)) (b : Nat) (hb : b < 18446744073709551616) (base : Nat) (v : Value) (l : List UInt8) (w : World)
    (hown : w.ownsRow base 5 1 v l.length (Bs l)) (hbase : base ≤ w.heap.size) (hl : l.length ≤ 35184372088832) (ht : Tabs T w) (h3 : 3 < base) (h2 : 2 < base) :
    Calls Tryz.prog 125 #[v, .float .f64 b] w (AppEnd 5 base w v (l ++ decT T b)) := by
  have HD := Lib.hid ((decT_of T hT b hb).2 base v l w hown hbase hl ht h3 h2)
  clear hown ht
  go_enter Tryz.func125, Tryz.ntmps125
  go_wp2_with (first
    | (go_at_call 156; refine HD.out.mono ?_; rintro e w' ⟨v', rfl, H⟩)
    | go_in)
  go_ret
  exact ⟨_, rfl, H⟩

set_option maxRecDepth 100000 in
set_option maxHeartbeats 1000000 in
theorem WriteNumber_any (T : Nat → Int) (hT : ∀ i, U64 (T i)) (b : Nat) (hb : b < 18446744073709551616) (w : World) (ht : Tabs T w) :
    Calls Tryz.prog 118 #[.float .f64 b] w fun e w' => e = .returned (.string ⟨(decT T b).toArray⟩) ∧ Below w.heap.size w w' := by
  have h3 := ht.lt3
  have h2 := ht.lt2
  have hg : w.grownBy (w.alloc (.cells (Array.replicate 24 (.int .u8 0)) 5)) none := World.grownBy_alloc w _ none
  have hmade := World.ownsRow_made (base := w.heap.size) (e := 5) (size := 1) w (Array.replicate 24 (.int .u8 0)) 24 (Nat.le_refl _) (by unfold maxLen; omega) (by simp)
  have HD := Lib.hid ((decT_of T hT b hb).2 w.heap.size (.slice (some ⟨w.heap.size, 0, none⟩) 0 24) [] (w.alloc (.cells (Array.replicate 24 (.int .u8 0)) 5)) hmade (by simp) (by simp) (ht.mono hg (by simp) (by simp)) h3 h2)
  have HG := Lib.hid hg
  clear hmade ht hg
  have hmk : ∀ w, (Instr.makeSlice 33 (.int .i64 0) (.int .i64 (max 3 24))).run Tryz.prog w = .ok (.slice (some ⟨w.heap.size, 0, none⟩) 0 24) (w.alloc (.cells (Array.replicate 24 (.int .u8 0)) 5)) := fun _ => by kernel_rfl
  go_enter Tryz.func118, Tryz.ntmps118
  go_wp2_with (first
    | (go_at_call 156; refine HD.out.mono ?_; rintro e w' ⟨v', rfl, H⟩; have hcv := own_str (P := Tryz.prog) Tryz.underlying33 Tryz.underlying5 Tryz.underlying9 H.own)
    | go_in)
  go_ret
  exact ⟨rfl, below_gt (gt_trans HG.out H.grown (.inr (.inr ⟨_, rfl, Nat.le_refl _⟩)))⟩

end Go.Proofs.YthcjnadceambgaaGreatDoor
namespace Go.Proofs.YthcjnadceambgaaGreatDoor
open Go.RowKit

theorem i64_and3 (n : Int) : bits .and .i64 n 3 = n % 4 := by
  have h127 : (BitVec.ofInt 64 3).toNat = 2 ^ 2 - 1 := by decide
  have key : (BitVec.ofInt 64 n &&& BitVec.ofInt 64 3).toNat = (n % ((2 ^ 64 : Nat) : Int)).toNat % 2 ^ 2 := by
    rw [BitVec.toNat_and, BitVec.toNat_ofInt, h127, Nat.and_two_pow_sub_one_eq_mod]
  show IntKind.i64.wrap ((BitVec.ofInt 64 n &&& BitVec.ofInt 64 3).toNat : Nat) = n % 4
  rw [key, IntKind.wrap_i64]
  omega

set_option maxHeartbeats 400000 in
theorem dimOf_any (d : Int) (h0 : 0 ≤ d) (h1 : d ≤ 3) (w : World) :
    Calls Tryz.prog 62 #[.int .i64 d] w fun e w' => e = .returned (.int .u8 d) ∧ w' = w := by
  have he : bits .and .i64 d 3 = d := by rw [i64_and3]; omega
  go_enter Tryz.func62, Tryz.ntmps62
  go_wp2
  go_ret
  exact ⟨rfl, rfl⟩

theorem u8_and1 (d : Int) (h0 : 0 ≤ d) (h1 : d ≤ 3) : bits .and .u8 d 1 = d % 2 := bits_mask .u8 8 (by decide) wraps_u8 1 (by decide) d h0 (by omega)

set_option maxHeartbeats 400000 in
theorem Is3D_any (d : Int) (h0 : 0 ≤ d) (h1 : d ≤ 3) (w : World) :
    Calls Tryz.prog 126 #[.int .u8 d] w fun e w' => e = .returned (.bool (decide (d % 2 = 1))) ∧ w' = w := by
  have he := u8_and1 d h0 h1
  have h2 : (d % 2 != 0) = decide (d % 2 = 1) := by
    rw [Bool.eq_iff_iff]
    simp
    omega
  go_enter Tryz.func126, Tryz.ntmps126
  go_wp2
  go_ret
  exact ⟨rfl, rfl⟩

noncomputable def jsonPl (T : Nat → Int) (x y z : Nat) (d : Int) : List UInt8 := [91] ++ decT T x ++ [44] ++ decT T y ++ (if d % 2 = 1 then [44] ++ decT T z else []) ++ [93]

set_option maxRecDepth 100000 in
set_option maxHeartbeats 1000000 in
theorem appendGeoJSONCoordinate_any (T : Nat → Int) (hT : ∀ i, U64 (T i)) (x y z m : Nat) (d : Int) (hx : x < 18446744073709551616) (hy : y < 18446744073709551616) (hz : z < 18446744073709551616) (h0 : 0 ≤ d) (h1 : d ≤ 3)
    (base : Nat) (v : Value) (l : List UInt8) (w : World) (hown : w.ownsRow base 5 1 v l.length (Bs l)) (hbase : base ≤ w.heap.size) (hl : l.length ≤ 35184372000000) (ht : Tabs T w) (hg3 : 3 < base) (hg2 : 2 < base) :
    Calls Tryz.prog 73 #[v, .agg #[.float .f64 x, .float .f64 y, .float .f64 z, .float .f64 m, .int .u8 d]] w (AppEnd 5 base w v (l ++ jsonPl T x y z d)) := by
  have hlx := decT_len T x
  have hly := decT_len T y
  have hlz := decT_len T z
  have HG := Lib.hid (World.grownBy_alloc w (.cells #[.float .f64 x, .float .f64 y, .float .f64 z, .float .f64 m, .int .u8 d] 69) none)
  have HO := Lib.hid hown
  have H := AppB.start (hown.alloc (.cells #[.float .f64 x, .float .f64 y, .float .f64 z, .float .f64 m, .int .u8 d] 69))
  have HT := Lib.hid (ht.mono HG.out (by simp) (by simp))
  have hlt := hown.lt
  have hn3 : v.ownBlock ≠ some 3 := fun e => by have := hlt _ e; omega
  have hn2 : v.ownBlock ≠ some 2 := fun e => by have := hlt _ e; omega
  have hnb : v.ownBlock ≠ some w.heap.size := fun e => by have := hlt _ e; omega
  have hbase0 : base ≤ (w.alloc (.cells #[.float .f64 x, .float .f64 y, .float .f64 z, .float .f64 m, .int .u8 d] 69)).heap.size := by simp; omega
  have HC : Hid (∀ W v' l', AppB 5 base (w.alloc (.cells #[.float .f64 x, .float .f64 y, .float .f64 z, .float .f64 m, .int .u8 d] 69)) v W v' l' →
      W.cell? ⟨w.heap.size, 0, none⟩ = some (.float .f64 x) ∧ W.cell? ⟨w.heap.size, 1, none⟩ = some (.float .f64 y) ∧ W.cell? ⟨w.heap.size, 2, none⟩ = some (.float .f64 z) ∧ W.cell? ⟨w.heap.size, 3, none⟩ = some (.float .f64 m) ∧ W.cell? ⟨w.heap.size, 4, none⟩ = some (.int .u8 d)) := by
    intro W v' l' h
    refine ⟨?_, ?_, ?_, ?_, ?_⟩ <;> (rw [h.cell (by simp) hnb]; simp)
  have k0 := trivial
  have k1 := trivial
  have k2 := trivial
  have k3 := trivial
  have k4 := trivial
  clear hown ht hlt hnb
  have hfin : Hid (∀ W v', AppB 5 base (w.alloc (.cells #[.float .f64 x, .float .f64 y, .float .f64 z, .float .f64 m, .int .u8 d] 69)) v W v' (l ++ jsonPl T x y z d) → AppEnd 5 base w v (l ++ jsonPl T x y z d) (.returned v') W) :=
    fun W v' h => ⟨v', rfl, AppB.later HO.out HG.out h⟩
  by_cases hd : d % 2 = 1
  · have hdB : decide (d % 2 = 1) = true := by simpa using hd
    go_enter Tryz.func73, Tryz.ntmps73
    go_wp2_with (first
      | (at_builtin; refine app_byte rfl _ _ _ rfl Tryz.underlying33 infoB H rfl _ 91 rfl rfl (by first | rfl | simp) hbase0 (by (try simp only [List.length_append, List.length_cons, List.length_nil]); omega) ?_; intro v1 w1 H1; clear H; have H := H1; clear H1; clear k0 k1 k2 k3 k4; obtain ⟨k0, k1, k2, k3, k4⟩ := HC.out _ _ _ H)
      | (at_builtin; refine app_byte rfl _ _ _ rfl Tryz.underlying33 infoB H rfl _ 44 rfl rfl (by first | rfl | simp) hbase0 (by (try simp only [List.length_append, List.length_cons, List.length_nil]); omega) ?_; intro v1 w1 H1; clear H; have H := H1; clear H1; clear k0 k1 k2 k3 k4; obtain ⟨k0, k1, k2, k3, k4⟩ := HC.out _ _ _ H)
      | (at_builtin; refine app_byte rfl _ _ _ rfl Tryz.underlying33 infoB H rfl _ 93 rfl rfl (by first | rfl | simp) hbase0 (by (try simp only [List.length_append, List.length_cons, List.length_nil]); omega) ?_; intro v1 w1 H1; clear H; have H := H1; clear H1; clear k0 k1 k2 k3 k4)
      | (go_at_call 125; refine (appendFloat_any T hT _ (by assumption) base _ _ _ H.own (H.based hbase0) (by (try simp only [List.length_append, List.length_cons, List.length_nil]); omega) (HT.out.mono H.grown hn3 hn2) hg3 hg2).mono ?_; rintro e w' ⟨v', rfl, H'⟩; have H1 := H.trans H'; clear H H'; have H := H1; clear H1; clear k0 k1 k2 k3 k4; obtain ⟨k0, k1, k2, k3, k4⟩ := HC.out _ _ _ H)
      | (go_at_call 126; refine (Is3D_any d h0 h1 _).mono ?_; rintro e w' ⟨rfl, rfl⟩))
    go_ret
    refine hfin.out _ _ ?_
    have e : jsonPl T x y z d = [91] ++ decT T x ++ [44] ++ decT T y ++ ([44] ++ decT T z) ++ [93] := by unfold jsonPl; rw [if_pos hd]
    rw [e]
    simpa [List.append_assoc] using H
  · have hdB : decide (d % 2 = 1) = false := by simpa using hd
    go_enter Tryz.func73, Tryz.ntmps73
    go_wp2_with (first
      | (at_builtin; refine app_byte rfl _ _ _ rfl Tryz.underlying33 infoB H rfl _ 91 rfl rfl (by first | rfl | simp) hbase0 (by (try simp only [List.length_append, List.length_cons, List.length_nil]); omega) ?_; intro v1 w1 H1; clear H; have H := H1; clear H1; clear k0 k1 k2 k3 k4; obtain ⟨k0, k1, k2, k3, k4⟩ := HC.out _ _ _ H)
      | (at_builtin; refine app_byte rfl _ _ _ rfl Tryz.underlying33 infoB H rfl _ 44 rfl rfl (by first | rfl | simp) hbase0 (by (try simp only [List.length_append, List.length_cons, List.length_nil]); omega) ?_; intro v1 w1 H1; clear H; have H := H1; clear H1; clear k0 k1 k2 k3 k4; obtain ⟨k0, k1, k2, k3, k4⟩ := HC.out _ _ _ H)
      | (at_builtin; refine app_byte rfl _ _ _ rfl Tryz.underlying33 infoB H rfl _ 93 rfl rfl (by first | rfl | simp) hbase0 (by (try simp only [List.length_append, List.length_cons, List.length_nil]); omega) ?_; intro v1 w1 H1; clear H; have H := H1; clear H1; clear k0 k1 k2 k3 k4)
      | (go_at_call 125; refine (appendFloat_any T hT _ (by assumption) base _ _ _ H.own (H.based hbase0) (by (try simp only [List.length_append, List.length_cons, List.length_nil]); omega) (HT.out.mono H.grown hn3 hn2) hg3 hg2).mono ?_; rintro e w' ⟨v', rfl, H'⟩; have H1 := H.trans H'; clear H H'; have H := H1; clear H1; clear k0 k1 k2 k3 k4; obtain ⟨k0, k1, k2, k3, k4⟩ := HC.out _ _ _ H)
      | (go_at_call 126; refine (Is3D_any d h0 h1 _).mono ?_; rintro e w' ⟨rfl, rfl⟩))
    go_ret
    refine hfin.out _ _ ?_
    have e : jsonPl T x y z d = [91] ++ decT T x ++ [44] ++ decT T y ++ [] ++ [93] := by unfold jsonPl; rw [if_neg hd]
    rw [e]
    simpa [List.append_assoc] using H

end Go.Proofs.YthcjnadceambgaaGreatDoor
namespace Go.Proofs.YthcjnadceambgaaGreatDoor
open Go.RowKit

def plX (r : Nat) (f : Nat → Nat) (i : Nat) : Nat := f (i * widN r)
def plY (r : Nat) (f : Nat → Nat) (i : Nat) : Nat := f (i * widN r + 1)
def plZ (r : Nat) (f : Nat → Nat) (i : Nat) : Nat := if r % 2 = 1 then f (i * widN r + 2) else 0
def plM (r : Nat) (f : Nat → Nat) (i : Nat) : Nat := if r / 2 = 1 then f (i * widN r + widN r - 1) else 0

theorem Get_any (r n i : Nat) (a : Addr) (f : Nat → Nat) (hr : r < 4) (hn : n ≤ 2000) (hi : i * widN r + widN r ≤ n) (W : World) (hf : FVal W (some a) n f) :
    Calls Tryz.prog 72 #[.agg #[.int .u8 r, .slice (some a) n n], .int .i64 i] W fun e w' => e = .returned (.agg #[.float .f64 (plX r f i), .float .f64 (plY r f i), .float .f64 (plZ r f i), .float .f64 (plM r f i), .int .u8 r]) ∧ W.grownBy w' none := by
  rcases (by omega : r = 0 ∨ r = 1 ∨ r = 2 ∨ r = 3) with rfl | rfl | rfl | rfl
  · exact Get_0 n i a f hn (by simp [widN] at hi; omega) W hf
  · exact Get_1 n i a f hn (by simp [widN] at hi; omega) W hf
  · exact Get_2 n i a f hn (by simp [widN] at hi; omega) W hf
  · exact Get_3 n i a f hn (by simp [widN] at hi; omega) W hf

/-- What is written of the first k places. -/
noncomputable def seqTo (T : Nat → Int) (r : Nat) (f : Nat → Nat) : Nat → List UInt8
  | 0 => []
  | k + 1 => seqTo T r f k ++ (if 0 < k then [44] else []) ++ jsonPl T (plX r f k) (plY r f k) (plZ r f k) r
theorem jsonPl_len (T : Nat → Int) (x y z : Nat) (d : Int) : (jsonPl T x y z d).length ≤ 12010 := by
  have hx := decT_len T x
  have hy := decT_len T y
  have hz := decT_len T z
  unfold jsonPl
  split <;> simp only [List.length_append, List.length_cons, List.length_nil] <;> omega
theorem seqTo_len (T : Nat → Int) (r : Nat) (f : Nat → Nat) : ∀ k, (seqTo T r f k).length ≤ k * 12011
  | 0 => by simp [seqTo]
  | k + 1 => by
    have h := seqTo_len T r f k
    have h2 := jsonPl_len T (plX r f k) (plY r f k) (plZ r f k) r
    unfold seqTo
    split <;> simp only [List.length_append, List.length_cons, List.length_nil] <;> omega

theorem FVal.kept {W W' : World} {p : Option Addr} {n : Nat} {f : Nat → Nat} {r : Option Nat} (h : FVal W p n f) (hg : W.grownBy W' r) (hr : ∀ a, p = some a → r ≠ some a.block) : FVal W' p n f :=
  ⟨h.some_, fun a ha i hi => hg.cell (h.at_ a ha i hi) (fun e => by
    have hb : (a.add i).block = a.block := by unfold Addr.add; split <;> rfl
    rw [hb] at e
    exact hr a ha e.symm), h.lt⟩

set_option maxRecDepth 100000 in
set_option maxHeartbeats 2000000 in
theorem appendGeoJSONSequence_any (T : Nat → Int) (hT : ∀ i, U64 (T i)) (r n : Nat) (a : Addr) (f : Nat → Nat) (hr : r < 4) (hn : n ≤ 2000)
    (base : Nat) (v : Value) (l : List UInt8) (W : World) (hf : FVal W (some a) n f) (hab : a.block < base) (hown : W.ownsRow base 5 1 v l.length (Bs l)) (hbase : base ≤ W.heap.size) (hl : l.length ≤ 1000) (ht : Tabs T W) (hg3 : 3 < base) (hg2 : 2 < base) :
    Calls Tryz.prog 74 #[v, .agg #[.int .u8 r, .slice (some a) n n]] W (AppEnd 5 base W v (l ++ [91] ++ seqTo T r f (n / widN r) ++ [93])) := by
  have HG := Lib.hid (World.grownBy_alloc W (.cells #[.int .u8 r, .slice (some a) n n] 43) none)
  have HO := Lib.hid hown
  have H := AppB.start (hown.alloc (.cells #[.int .u8 r, .slice (some a) n n] 43))
  have HT := Lib.hid (ht.mono HG.out (by simp) (by simp))
  have hlt := hown.lt
  have hn3 : v.ownBlock ≠ some 3 := fun e => by have := hlt _ e; omega
  have hn2 : v.ownBlock ≠ some 2 := fun e => by have := hlt _ e; omega
  have hnb : v.ownBlock ≠ some W.heap.size := fun e => by have := hlt _ e; omega
  have hna : ∀ a', some a = some a' → v.ownBlock ≠ some a'.block := fun a' ha e => by have := hlt _ e; injection ha with ha; subst ha; omega
  have hbase0 : base ≤ (W.alloc (.cells #[.int .u8 r, .slice (some a) n n] 43)).heap.size := by simp; omega
  have HC : Hid (∀ W' v' l', AppB 5 base (W.alloc (.cells #[.int .u8 r, .slice (some a) n n] 43)) v W' v' l' → W'.cell? ⟨W.heap.size, 0, none⟩ = some (.int .u8 r) ∧ W'.cell? ⟨W.heap.size, 1, none⟩ = some (.slice (some a) n n)) := by
    intro W' v' l' h
    refine ⟨?_, ?_⟩ <;> (rw [h.cell (by simp) hnb]; simp)
  have HF : Hid (∀ W' v' l', AppB 5 base (W.alloc (.cells #[.int .u8 r, .slice (some a) n n] 43)) v W' v' l' → FVal W' (some a) n f) := fun W' v' l' h => (hf.mono HG.out).kept h.grown hna
  have hw2 : 2 ≤ widN r ∧ widN r ≤ 4 := by unfold widN; omega
  obtain ⟨L, hL⟩ : ∃ L : Nat, L = n / widN r := ⟨_, rfl⟩
  have hLb : L ≤ 2000 := by rw [hL]; exact Nat.le_trans (Nat.div_le_self _ _) hn
  have HLen := Lib.hid (fun W' => Length_any r n hr (some a) n hn W')
  have HGet := Lib.hid (fun (i : Nat) (hi : i < L) W' (h : FVal W' (some a) n f) => Get_any r n i a f hr hn (by
    rw [hL] at hi
    have h1 : (i + 1) * widN r ≤ n := Nat.le_trans (Nat.mul_le_mul_right _ hi) (Nat.div_mul_le_self n (widN r))
    rw [Nat.succ_mul] at h1; exact h1) W' h)
  have HCo := Lib.hid (fun (i : Nat) => appendGeoJSONCoordinate_any T hT (plX r f i) (plY r f i) (plZ r f i) (plM r f i) r (hf.lt _) (hf.lt _) (by unfold plZ; split; exact hf.lt _; omega) (by omega) (by omega) base)
  have HSL := Lib.hid (fun k (hk : k ≤ L) => (seqTo_len T r f k))
  have HJL := Lib.hid (fun k => jsonPl_len T (plX r f k) (plY r f k) (plZ r f k) r)
  rw [← hL] at HLen ⊢
  have hfin : Hid (∀ W' v', AppB 5 base (W.alloc (.cells #[.int .u8 r, .slice (some a) n n] 43)) v W' v' (l ++ [91] ++ seqTo T r f L ++ [93]) → AppEnd 5 base W v (l ++ [91] ++ seqTo T r f L ++ [93]) (.returned v') W') :=
    fun W' v' h => ⟨v', rfl, AppB.later HO.out HG.out h⟩
  obtain ⟨S, hS⟩ : ∃ S : Nat → List UInt8, S = seqTo T r f := ⟨_, rfl⟩
  rw [← hS] at HSL hfin ⊢
  have HSQ : Hid (∀ k, S (k + 1) = S k ++ (if 0 < k then [44] else []) ++ jsonPl T (plX r f k) (plY r f k) (plZ r f k) r) := by rw [hS]; exact fun k => rfl
  have hS0 : S 0 = [] := by rw [hS]; rfl
  clear hS hL hf hown ht hlt hnb hna hw2
  go_enter Tryz.func74, Tryz.ntmps74
  go_wp2_with (first
    | (at_builtin; refine app_byte rfl _ _ _ rfl Tryz.underlying33 infoB H rfl _ 91 rfl rfl (by first | rfl | simp) hbase0 (by (try simp only [List.length_append, List.length_cons, List.length_nil]); omega) ?_; intro v1 w1 H1; clear H; have H := H1; clear H1; obtain ⟨k0, k1⟩ := HC.out _ _ _ H)
    | (go_at_call 69; refine (HLen.out _).mono ?_; rintro e w' ⟨rfl, hgl⟩; have H1 := H.beside hgl; clear H; have H := H1; clear H1 hgl))
  go_loopw [0, 6] (fun x i wr => ∃ k : Nat, k ≤ L ∧ i = .int .i64 k ∧ AppB 5 base (W.alloc (.cells #[.int .u8 r, .slice (some a) n n] 43)) v wr x (l ++ [91] ++ S k)) (fun _ i _ => L - (intOf i).toNat)
  case atStart => exact ⟨0, by omega, rfl, by rw [hS0, List.append_nil]; exact H⟩
  case round =>
    clear H
    obtain ⟨k, hk, rfl, H⟩ := hrel
    rename World => wr
    have hsl := HSL.out k hk
    have hsl2 : (S k).length ≤ 24022000 := by omega
    clear hsl
    obtain ⟨k0, k1⟩ := HC.out _ _ _ H
    by_cases hkL : k < L
    · by_cases hk0 : 0 < k
      · have e : S (k + 1) = S k ++ [44] ++ jsonPl T (plX r f k) (plY r f k) (plZ r f k) r := by rw [HSQ.out k, if_pos hk0]
        go_wp2_with (first
          | (at_builtin; refine app_byte rfl _ _ _ rfl Tryz.underlying33 infoB H rfl _ 44 rfl rfl (by first | rfl | simp) hbase0 (by (try simp only [List.length_append, List.length_cons, List.length_nil]); omega) ?_; intro v1 w1 H1; clear H; have H := H1; clear H1; clear k0 k1; obtain ⟨k0, k1⟩ := HC.out _ _ _ H)
          | (go_at_call 72; refine (HGet.out k hkL _ (HF.out _ _ _ H)).mono ?_; rintro e w' ⟨rfl, hgl⟩; have H1 := H.beside hgl; clear H; have H := H1; clear H1 hgl)
          | (go_at_call 73; refine (HCo.out k _ _ _ H.own (H.based hbase0) (by (try simp only [List.length_append, List.length_cons, List.length_nil]); omega) (HT.out.mono H.grown hn3 hn2) hg3 hg2).mono ?_; rintro e w' ⟨v', rfl, H'⟩; have H1 := H.trans H'; clear H H'; have H := H1; clear H1))
        exact ⟨⟨k + 1, by omega, by go_num, by rw [e]; simpa only [List.append_assoc] using H⟩, by simp [intOf]; omega⟩
      · obtain rfl : k = 0 := by omega
        have e : S 1 = S 0 ++ [] ++ jsonPl T (plX r f 0) (plY r f 0) (plZ r f 0) r := by rw [HSQ.out 0, if_neg (by omega)]
        go_wp2_with (first
          | (go_at_call 72; refine (HGet.out 0 hkL _ (HF.out _ _ _ H)).mono ?_; rintro e w' ⟨rfl, hgl⟩; have H1 := H.beside hgl; clear H; have H := H1; clear H1 hgl)
          | (go_at_call 73; refine (HCo.out 0 _ _ _ H.own (H.based hbase0) (by (try simp only [List.length_append, List.length_cons, List.length_nil]); omega) (HT.out.mono H.grown hn3 hn2) hg3 hg2).mono ?_; rintro e w' ⟨v', rfl, H'⟩; have H1 := H.trans H'; clear H H'; have H := H1; clear H1))
        exact ⟨⟨1, by omega, by go_num, by rw [e]; simpa only [List.append_assoc, List.append_nil] using H⟩, by simp [intOf]; omega⟩
    · obtain rfl : k = L := by omega
      go_wp2_with (first
        | (at_builtin; refine app_byte rfl _ _ _ rfl Tryz.underlying33 infoB H rfl _ 93 rfl rfl (by first | rfl | simp) hbase0 (by (try simp only [List.length_append, List.length_cons, List.length_nil]); omega) ?_; intro v1 w1 H1; clear H; have H := H1; clear H1))
      go_ret
      exact hfin.out w1 v1 (by simpa only [List.append_assoc] using H)

end Go.Proofs.YthcjnadceambgaaGreatDoor
namespace Go.Proofs.YthcjnadceambgaaGreatDoor
open Go.RowKit
/-- One string behind the other, all three under names. -/
theorem cat_run (P : Program) (a b : List UInt8) (sa sb c : ByteArray) (ha : sa = ⟨a.toArray⟩) (hb : sb = ⟨b.toArray⟩) (hc : c = ⟨(a ++ b).toArray⟩) (hl : a.length + b.length ≤ 100000000) :
    ∀ W : World, (Op.stringOp .add sa sb).run P W = .ok (.string c) W := by
  intro W
  subst ha hb hc
  have e : ∀ l : List UInt8, (ByteArray.mk l.toArray).size = l.length := fun l => by simp [ByteArray.size]
  have ee : (ByteArray.mk a.toArray ++ ByteArray.mk b.toArray) = ⟨(a ++ b).toArray⟩ := by
    apply ByteArray.ext
    simp
  rw [run_string_add_sum (P := P) W _ _ (by rw [e, e]; omega), ee]

end Go.Proofs.YthcjnadceambgaaGreatDoor
namespace Go.Proofs.YthcjnadceambgaaGreatDoor
open Go.RowKit

/-- From world w0, where v0 was owned, the call has come to world w, where v is owned: n elements, the cells xs. -/
structure AppV (e size base : Nat) (w0 : World) (v0 : Value) (w : World) (v : Value) (n : Nat) (xs : List Value) : Prop where
  own : w.ownsRow base e size v n xs
  grown : w0.grownBy w v0.ownBlock
  at_ : v.ownBlock = v0.ownBlock ∨ ∃ b, v.ownBlock = some b ∧ w0.heap.size ≤ b
section
variable {e size base : Nat} {w0 w w1 w2 : World} {v0 v v1 v2 : Value} {n n1 n2 : Nat} {xs xs1 xs2 : List Value}
theorem AppV.start (h : w.ownsRow base e size v n xs) : AppV e size base w v w v n xs := ⟨h, gt_refl _ _, .inl rfl⟩
theorem AppV.nil (w : World) (e size base : Nat) : AppV e size base w (.slice none 0 0) w (.slice none 0 0) 0 [] := .start (World.ownsRow_nil w base e size)
theorem AppV.trans (h : AppV e size base w0 v0 w1 v1 n1 xs1) (k : AppV e size base w1 v1 w2 v2 n2 xs2) : AppV e size base w0 v0 w2 v2 n2 xs2 := by
  refine ⟨k.own, gt_trans h.grown k.grown ?_, ?_⟩
  · rcases h.at_ with h | ⟨b, h, hb⟩
    · exact .inl h
    · exact .inr (.inr ⟨b, h, hb⟩)
  · rcases k.at_ with k' | ⟨b, k', hb⟩
    · rcases h.at_ with h | ⟨b, h, hb⟩
      · exact .inl (k'.trans h)
      · exact .inr ⟨b, k'.trans h, hb⟩
    · exact .inr ⟨b, k', Nat.le_trans h.grown.size hb⟩
theorem AppV.beside (h : AppV e size base w0 v0 w v n xs) (k : w.grownBy w1 none) : AppV e size base w0 v0 w1 v n xs :=
  ⟨h.own.kept k (by cases v.ownBlock <;> simp), gt_trans h.grown k (.inr (.inl rfl)), h.at_⟩
theorem AppV.based (h : AppV e size base w0 v0 w v n xs) (hb : base ≤ w0.heap.size) : base ≤ w.heap.size := Nat.le_trans hb h.grown.size
theorem AppV.cell (h : AppV e size base w0 v0 w v n xs) {a : Addr} (hlt : a.block < w0.heap.size) (hne : v0.ownBlock ≠ some a.block) : w.cell? a = w0.cell? a :=
  World.cell?_of_block (h.grown.block _ hlt (fun he => hne he.symm))
theorem AppV.slice (h : AppV e size base w0 v0 w v n xs) : ∃ p c, v = .slice p n c := by
  rcases h.own.2 with h | ⟨g, cap, cur, hv, _⟩
  · exact ⟨none, 0, by rw [h.1, h.2]⟩
  · exact ⟨_, _, hv⟩
theorem AppV.grown0 (h : AppV e size base w0 (.slice none 0 0) w v n xs) : w0.grownBy w none := h.grown
end

section
variable {e size base : Nat} {w0 W : World} {v0 v : Value} {n : Nat} {xs : List Value}
variable {P : Program} {ops : Array Oper} {rest : List Oper} {o : Oper} {a : Act} {Q : Exit → Act → World → Prop}
/-- append(v, x ..), the m new elements laid anew, their cells cs. -/
theorem app_cells (hgd : o.guard = none) (s x : Operand) (t : TypeId) (ho : o.op = .call { callee := .builtin .append, args := #[s, x], argTypes := #[t, t] })
    (ht : P.underlying t = some (.slice e)) (z : Value) (bytes : Nat) (hinfo : (P.info? e).map (fun i => (i.zero, i.size, i.bytes)) = some (some z, size, bytes)) (hzs : z.cells.size = size) (hsz : 0 < size)
    (H : AppV e size base w0 v0 W v n xs) (hs : a.eval s = v) {k m c : Nat} (hx : a.eval x = .slice (some ⟨k, 0, none⟩) m c) (hk : k = W.heap.size) (cs : Array Value) (hcl : cs.size = m * size) (h1 : ∀ u ∈ cs.toList, u.oneCell' = true)
    (hbase : base ≤ w0.heap.size) (hl : (n + m) * bytes ≤ 140737488355328) (hl2 : n + m ≤ 140737488355328)
    (h : ∀ v1 w1, AppV e size base w0 v0 w1 v1 (n + m) (xs ++ cs.toList) → wpList P ops Q rest (a.put o.dst v1) w1) :
    wpList P ops Q (o :: rest) a (W.alloc (.cells cs e)) := by
  subst hk
  obtain ⟨i0, hi, hzz⟩ := Option.map_eq_some_iff.1 hinfo
  simp only [Prod.mk.injEq] at hzz
  obtain ⟨hz0, hz1, hz2⟩ := hzz
  refine wpList_append_own_at (W.alloc (.cells cs e)) hgd s x t ho base e i0 z size bytes ht hi hz0 hz1 hz2 hzs hsz v n xs hs (H.own.alloc _) ⟨W.heap.size, 0, none⟩ m c cs.toList hx (by simpa using hcl)
    (fun j u hj => ?_) h1 (by simp only [maxLen]; omega) hl (by have := H.based hbase; simp; omega) ?_
  · by_cases h0 : j = 0
    · subst h0; simp [Addr.add]; simpa using hj
    · simp [Addr.add, h0]; simpa using hj
  · intro v1 w1 hown hg _ hat
    have hb := H.beside (World.grownBy_alloc W (.cells cs e) none)
    refine h v1 w1 (hb.trans ⟨hown, hg, ?_⟩)
    rcases hat with hat | hat
    · exact .inl hat
    · exact .inr ⟨_, hat, Nat.le_refl _⟩
end
end Go.Proofs.YthcjnadceambgaaGreatDoor
namespace Go.Proofs.YthcjnadceambgaaGreatDoor
open Go.RowKit

/-- Texts with commas between them, k of them. -/
def cTo (s : Nat → List UInt8) : Nat → List UInt8
  | 0 => []
  | k + 1 => cTo s k ++ (if 0 < k then [44] else []) ++ s k
theorem cTo_mono (s : Nat → List UInt8) (k : Nat) : (cTo s k).length ≤ (cTo s (k + 1)).length := by
  show _ ≤ (cTo s k ++ (if 0 < k then [44] else []) ++ s k).length
  simp only [List.length_append]; omega
theorem cTo_le (s : Nat → List UInt8) : ∀ (n k : Nat), k ≤ n → (cTo s k).length ≤ (cTo s n).length
  | 0, k, h => by obtain rfl : k = 0 := by omega
                  exact Nat.le_refl _
  | n + 1, k, h => by
    by_cases hk : k = n + 1
    · subst hk; exact Nat.le_refl _
    · exact Nat.le_trans (cTo_le s n k (by omega)) (cTo_mono s n)
/-- A row of texts in memory. -/
structure SRow (W : World) (p : Option Addr) (n : Nat) (s : Nat → List UInt8) : Prop where
  some_ : 0 < n → ∃ a, p = some a
  at_ : ∀ a, p = some a → ∀ i, i < n → W.cell? (a.add i) = some (.string ⟨(s i).toArray⟩)

set_option maxRecDepth 100000 in
set_option maxHeartbeats 1000000 in
theorem jsonList_any (p : Option Addr) (n cap : Nat) (s : Nat → List UInt8) (hl : (cTo s n).length ≤ 30000000) (hn : n ≤ 2000) (W : World) (hs : SRow W p n s) :
    Calls Tryz.prog 86 #[.slice p n cap] W fun e w' => e = .returned (.string ⟨([91] ++ cTo s n ++ [93]).toArray⟩) ∧ w' = W := by
  have hle := cTo_le s n
  obtain ⟨S, hS⟩ : ∃ S : Nat → ByteArray, ∀ k, S k = ⟨([91] ++ cTo s k).toArray⟩ := ⟨_, fun _ => rfl⟩
  obtain ⟨U, hU⟩ : ∃ U : Nat → ByteArray, ∀ k, U k = ⟨([91] ++ cTo s k ++ [44]).toArray⟩ := ⟨_, fun _ => rfl⟩
  obtain ⟨X, hX⟩ : ∃ X : Nat → ByteArray, ∀ k, X k = ⟨(s k).toArray⟩ := ⟨_, fun _ => rfl⟩
  obtain ⟨J, hJ⟩ : ∃ J : ByteArray, J = ⟨([91] ++ cTo s n ++ [93]).toArray⟩ := ⟨_, rfl⟩
  have hx : ∀ k, k < n → (s k).length + (cTo s k).length ≤ 30000000 := fun k hk => by
    have h1 := hle (k + 1) hk
    have h2 : (cTo s (k + 1)).length = (cTo s k ++ (if 0 < k then [44] else []) ++ s k).length := rfl
    simp only [List.length_append] at h2
    omega
  have HU := Lib.hid (fun k (hk : k < n) => cat_run Tryz.prog ([91] ++ cTo s k) [44] (S k) ⟨#[44]⟩ (U k) (hS k) rfl (hU k) (by have := hx k hk; simp only [List.length_append, List.length_cons, List.length_nil]; omega))
  have HX := Lib.hid (fun k (hk : k < n) (h0 : 0 < k) => cat_run Tryz.prog ([91] ++ cTo s k ++ [44]) (s k) (U k) (X k) (S (k + 1)) (hU k) (hX k) (by rw [hS]; show ByteArray.mk ([91] ++ (cTo s k ++ (if 0 < k then [44] else []) ++ s k)).toArray = _; rw [if_pos h0]; simp only [List.append_assoc]) (by have := hx k hk; simp only [List.length_append, List.length_cons, List.length_nil]; omega))
  have HZ := Lib.hid (fun k (hk : k < n) (h0 : ¬ 0 < k) => cat_run Tryz.prog ([91] ++ cTo s k) (s k) (S k) (X k) (S (k + 1)) (hS k) (hX k) (by rw [hS]; show ByteArray.mk ([91] ++ (cTo s k ++ (if 0 < k then [44] else []) ++ s k)).toArray = _; rw [if_neg h0]; simp only [List.append_assoc, List.nil_append]) (by have := hx k hk; simp only [List.length_append, List.length_cons, List.length_nil]; omega))
  have HJ := Lib.hid (cat_run Tryz.prog ([91] ++ cTo s n) [93] (S n) ⟨#[93]⟩ J (hS n) rfl hJ (by simp only [List.length_append, List.length_cons, List.length_nil]; omega))
  have h0 : S 0 = ⟨#[91]⟩ := by rw [hS]; rfl
  have HS := Lib.hid (fun a (ha : p = some a) i (hi : i < n) => (by rw [hX]; exact hs.at_ a ha i hi : W.cell? (a.add i) = some (.string (X i))))
  have HP := Lib.hid hs.some_
  rw [← hJ]
  clear hS hU hX hJ hle hx hl hs
  go_enter Tryz.func86, Tryz.ntmps86
  go_wp2_with fail
  go_loopw [3, 8] (fun x i wr => ∃ k : Nat, k ≤ n ∧ i = .int .i64 k ∧ x = .string (S k) ∧ wr = W) (fun _ i _ => n - (intOf i).toNat)
  case atStart => exact ⟨0, by omega, rfl, by rw [h0], rfl⟩
  case round =>
    obtain ⟨k, hk, rfl, rfl, rfl⟩ := hrel
    by_cases hkn : k < n
    · obtain ⟨a, ha⟩ := HP.out (by omega)
      have q := HS.out a ha k hkn
      subst ha
      by_cases hk0 : 0 < k
      · have eU := HU.out k hkn
        have eX := HX.out k hkn hk0
        go_wp2_with fail
        exact ⟨⟨k + 1, by omega, by go_num, rfl, by trivial⟩, by simp [intOf]; omega⟩
      · have eX := HZ.out k hkn hk0
        go_wp2_with fail
        exact ⟨⟨k + 1, by omega, by go_num, rfl, by trivial⟩, by simp [intOf]; omega⟩
    · obtain rfl : k = n := by omega
      have eJ := HJ.out
      go_wp2_with fail
      go_wp2_with fail
      go_ret
      exact ⟨rfl, rfl⟩
end Go.Proofs.YthcjnadceambgaaGreatDoor
