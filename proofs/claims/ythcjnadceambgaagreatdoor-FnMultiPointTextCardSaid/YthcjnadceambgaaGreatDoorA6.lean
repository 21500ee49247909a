/- ftoa64 at 'f', shortest: the bytes that it appends. -/
import Derived.Test.YthcjnadceambgaaGreatDoorA5
import Derived.Deep.RegionWith
import Derived.Deep.QuietTactic
import Derived.BigQuiet
namespace Go.Proofs.YthcjnadceambgaaGreatDoor
open Go.RowKit

/-- A call that appends to a slice of bytes that the caller owns: whatever the slice and the memory are, it appends out. -/
def Appends (T : Nat → Int) (f : FuncId) (rest : Array Value) (out : List UInt8) : Prop :=
  ∀ (base : Nat) (v : Value) (l : List UInt8) (w : World), w.ownsRow base 5 1 v l.length (Bs l) → base ≤ w.heap.size → l.length ≤ 35184372088832 → Tabs T w → 3 < base → 2 < base →
    Calls Tryz.prog f (#[v] ++ rest) w (AppEnd 5 base w v (l ++ out))

theorem run_f64bits (b : Nat) (w : World) : (callFunc 158 #[.float .f64 b]).run Tryz.prog w = .ok (.value (.int .u64 b)) w := by kernel_rfl

set_option maxRecDepth 100000 in
set_option maxHeartbeats 1000000 in
theorem ftoa_nan (b : Nat) (ng : Bool) (mt : Nat) (hexp : bits BinOp.and IntKind.i64 ((b : Int) / 4503599627370496) 2047 = 2047) (hman : bits BinOp.and IntKind.u64 (b : Int) 4503599627370495 = (mt : Int)) (hm : ((mt : Int) != 0) = true) (hb : b < 18446744073709551616) (hneg : (((b : Int) / 9223372036854775808) != 0) = ng) (base : Nat) (v : Value) (l : List UInt8) (w : World)
    (hown : w.ownsRow base 5 1 v l.length (Bs l)) (hbase : base ≤ w.heap.size) (hl : l.length ≤ 35184372088832) :
    Calls Tryz.prog 156 #[v, .float .f64 b, .int .u8 102, .int .i64 (-1)] w
      (AppEnd 5 base w v (l ++ [78, 97, 78])) := by
  have HO := AppB.start hown
  clear hown
  have kf := run_f64bits
  go_enter Tryz.func156, Tryz.ntmps156
  go_wp2_with fail
  go_quiet (fail)
  go_wp2_with (at_builtin; refine app_str rfl _ _ _ _ rfl Tryz.underlying33 Tryz.underlying9 infoB (HO.beside (gt_drewN _ _ none)) rfl _ rfl hbase (by show l.length + 3 ≤ _; omega) ?_; intro v1 w1 H1)
  go_ret
  exact ⟨_, rfl, H1⟩

set_option maxRecDepth 100000 in
set_option maxHeartbeats 1000000 in
theorem ftoa_inf (b : Nat) (ng : Bool) (hexp : bits BinOp.and IntKind.i64 ((b : Int) / 4503599627370496) 2047 = 2047) (hman : bits BinOp.and IntKind.u64 (b : Int) 4503599627370495 = 0) (hb : b < 18446744073709551616) (hneg : (((b : Int) / 9223372036854775808) != 0) = ng) (base : Nat) (v : Value) (l : List UInt8) (w : World)
    (hown : w.ownsRow base 5 1 v l.length (Bs l)) (hbase : base ≤ w.heap.size) (hl : l.length ≤ 35184372088832) :
    Calls Tryz.prog 156 #[v, .float .f64 b, .int .u8 102, .int .i64 (-1)] w
      (AppEnd 5 base w v (l ++ (if ng then [45, 73, 110, 102] else [43, 73, 110, 102]))) := by
  have HO := AppB.start hown
  clear hown
  have kf := run_f64bits
  cases ng
  · go_enter Tryz.func156, Tryz.ntmps156
    go_wp2_with fail
    go_quiet (fail)
    go_wp2_with (at_builtin; refine app_str rfl _ _ _ _ rfl Tryz.underlying33 Tryz.underlying9 infoB (HO.beside (gt_drewN _ _ none)) rfl _ rfl hbase (by show l.length + 4 ≤ _; omega) ?_; intro v1 w1 H1)
    go_ret
    exact ⟨_, rfl, H1⟩
  · go_enter Tryz.func156, Tryz.ntmps156
    go_wp2_with fail
    go_quiet (fail)
    go_wp2_with (at_builtin; refine app_str rfl _ _ _ _ rfl Tryz.underlying33 Tryz.underlying9 infoB (HO.beside (gt_drewN _ _ none)) rfl _ rfl hbase (by show l.length + 4 ≤ _; omega) ?_; intro v1 w1 H1)
    go_ret
    exact ⟨_, rfl, H1⟩

set_option maxRecDepth 100000 in
set_option maxHeartbeats 2000000 in
theorem ftoa_zero (b : Nat) (ng : Bool) (hexp : bits BinOp.and IntKind.i64 ((b : Int) / 4503599627370496) 2047 = 0) (hman : bits BinOp.and IntKind.u64 (b : Int) 4503599627370495 = 0) (hb : b < 18446744073709551616) (hneg : (((b : Int) / 9223372036854775808) != 0) = ng) (base : Nat) (v : Value) (l : List UInt8) (w : World)
    (hown : w.ownsRow base 5 1 v l.length (Bs l)) (hbase : base ≤ w.heap.size) (hl : l.length ≤ 35184372088832) :
    Calls Tryz.prog 156 #[v, .float .f64 b, .int .u8 102, .int .i64 (-1)] w
      (AppEnd 5 base w v (l ++ (fSign ng ++ [48]))) := by
  have HO := AppB.start hown
  clear hown
  have kf := run_f64bits
  go_enter Tryz.func156, Tryz.ntmps156
  go_wp2_with fail
  go_quiet (fail)
  go_wp2_with (go_at_call 161; refine (fmtZ_any base v l ng _ (HO.beside (gt_drewN _ _ none)).own hbase (by omega)).mono ?_; rintro e w' ⟨v', rfl, H⟩)
  go_ret
  exact ⟨_, rfl, (HO.beside (gt_drewN _ _ none)).trans (by simpa using H)⟩

theorem buf_cells (w : World) (t : Nat) : ∀ j, j < 32 → (w.alloc (.cells (Array.replicate 32 (.int .u8 0)) t)).cell? ⟨w.heap.size, j, none⟩ = some (.int .u8 0) ∧ (w.alloc (.cells (Array.replicate 32 (.int .u8 0)) t)).frozen? ⟨w.heap.size, j, none⟩ = false := by
  intro j hj
  refine ⟨?_, by simp⟩
  rw [World.cell?_alloc_new]
  rw [Array.getElem?_replicate, if_pos hj]
theorem buf_kept {w w' : World} {b j : Nat} (h : Below w.heap.size w w') (hb : b < w.heap.size) {x : Value} (hc : w.cell? ⟨b, j, none⟩ = some x ∧ w.frozen? ⟨b, j, none⟩ = false) :
    w'.cell? ⟨b, j, none⟩ = some x ∧ w'.frozen? ⟨b, j, none⟩ = false := ⟨(h.cell (p := ⟨b, j, none⟩) hb).trans hc.1, (h.frozen (p := ⟨b, j, none⟩) hb).trans hc.2⟩

set_option maxRecDepth 100000 in
set_option maxHeartbeats 2000000 in
theorem ftoa_den (T : Nat → Int) (u : Nat) (p : Int) (b : Nat) (ng : Bool) (mt : Nat) (hexp : bits BinOp.and IntKind.i64 ((b : Int) / 4503599627370496) 2047 = 0) (hman : bits BinOp.and IntKind.u64 (b : Int) 4503599627370495 = (mt : Int)) (hm : ((mt : Int) == 0) = false) (hm1 : mt < 4503599627370496) (hb : b < 18446744073709551616) (hneg : (((b : Int) / 9223372036854775808) != 0) = ng) (base : Nat) (v : Value) (l : List UInt8) (w : World)
    (hown : w.ownsRow base 5 1 v l.length (Bs l)) (hbase : base ≤ w.heap.size) (hl : l.length ≤ 35184372088832) (hT : Tabs T w) (hg3 : 3 < base) (hg2 : 2 < base)
    (hu : u < 18446744073709551616) (hp0 : -400 ≤ p) (hp1 : p ≤ 400)
    (hshort : ∀ w, P10 T w → Calls Tryz.prog 171 #[.int .u64 (IntKind.u64.wrap ((mt : Int) * 2 ^ (64 - Lib.bitLen mt))), .int .i64 (-1022 - (64 - (Lib.bitLen mt : Int)) - 52)] w fun en w' => en = .returned (.tuple #[.int .u64 u, .int .i64 p]) ∧ Below w.heap.size w w') :
    Calls Tryz.prog 156 #[v, .float .f64 b, .int .u8 102, .int .i64 (-1)] w
      (AppEnd 5 base w v (l ++ (fSign ng ++ fInt (digF u (nDig u)) ((nDig u : Int) + p) (trimZ (digF u (nDig u)) (nDig u)) ++ fFrac (digF u (nDig u)) ((nDig u : Int) + p) (max ((trimZ (digF u (nDig u)) (nDig u) : Int) - ((nDig u : Int) + p)) 0) (trimZ (digF u (nDig u)) (nDig u))))) := by
  have HO := AppB.start hown
  clear hown
  have kf := run_f64bits
  have HS := Lib.hid hshort
  have HT := Lib.hid hT
  have HN := nDig_le u hu
  have HL := Lib.hid (nDig_lt u)
  have hz0 := trimZ_le (digF u (nDig u)) (nDig u)
  have hbw : base ≤ w.heap.size := hbase
  clear hshort hT
  go_enter Tryz.func156, Tryz.ntmps156
  go_wp2_with fail
  go_quiet (fail)
  go_wp2_with fail
  refine (Tryz.bits_Len64 _ _ (by omega) (by omega)).mono ?_
  rintro e w' ⟨rfl, rfl⟩
  have hbl : Lib.bitLen mt ≤ 64 := Lib.bitLen_le _ 64 (Nat.le_refl _) (by omega)
  go_wp2_with fail
  have HT1 : Hid (Tabs T ((w.drewN nq).alloc (.cells (Array.replicate 32 (.int .u8 0)) 172))) := (HT.out.mono (gt_alloc_r (gt_drewN w nq none) _) (by simp) (by simp))
  have HB := Lib.hid (buf_cells (w.drewN nq) 172)
  have HG1 := gt_alloc_r (gt_drewN w nq none) (.cells (Array.replicate 32 (.int .u8 0)) 172)
  obtain ⟨W1, hW1⟩ : ∃ W1, W1 = (w.drewN nq).alloc (.cells (Array.replicate 32 (.int .u8 0)) 172) := ⟨_, rfl⟩
  have hz1 : W1.heap.size = w.heap.size + 1 := by rw [hW1]; simp
  rw [← hW1] at HT1 HB HG1
  show Calls _ _ _ ((w.drewN nq).alloc (.cells (Array.replicate 32 (.int .u8 0)) 172)) _
  rw [← hW1]
  clear hW1 HT
  refine (HS.out _ HT1.out.p10).mono ?_
  rintro e w2 ⟨rfl, hb2⟩
  have HT2 : Hid (Tabs T w2) := HT1.out.mono (gt_below hb2 none) (by simp) (by simp)
  have HB2 : Hid (∀ j, j < 32 → w2.cell? ⟨w.heap.size, j, none⟩ = some (.int .u8 0) ∧ w2.frozen? ⟨w.heap.size, j, none⟩ = false) := fun j hj => buf_kept hb2 (by omega) (HB.out j hj)
  have HG2 : w.grownBy w2.drew none := gt_drew_r (gt_trans HG1 (gt_below hb2 none) (.inr (.inl rfl)))
  have hz2 : w.heap.size + 1 ≤ w2.heap.size := by have := hb2.size; omega
  clear HB HT1 HG1 hb2 hz1
  go_wp2_with fail
  go_region_with (first | (go_at_call 165; refine (numDigits_all u hu w2.drew HT2.out.u10).mono ?_; rintro e w' ⟨rfl, rfl⟩) | (go_at_call 164; refine (setDigits_nd u (nDig u) w.heap.size p w2.drew HB2.out HL.out hu HN hp0 hp1).mono ?_; rintro e w' ⟨rfl, hd, hg⟩))
  have HG3 := gt_trans HG2 hg (.inr (.inr ⟨_, rfl, Nat.le_refl _⟩))
  have HD : Hid (∀ t, t < trimZ (digF u (nDig u)) (nDig u) → w'.cell? ⟨w.heap.size, t, none⟩ = some (.int .u8 ((digF u (nDig u) t).toNat : Int))) := fun t ht => hd t (Nat.lt_of_lt_of_le ht hz0)
  have hsz : w.heap.size < w'.heap.size := by have h1 := hg.size; have h2 : w2.drew.heap.size = w2.heap.size := rfl; omega
  have hlt := (HO.own).lt
  have HLT : Hid (v.ownBlock ≠ some w.heap.size) := fun h => by have := hlt _ h; omega
  clear hd hg HG2 HB2 HT2 hz2 hlt
  go_wp2_with (go_at_call 161; refine (fmtF_any (digF u (nDig u)) base w.heap.size v l ng _ _ (trimZ (digF u (nDig u)) (nDig u)) _ (own_later HO.own HG3) (Nat.le_trans hbase HG3.size) (by omega) HD.out hsz HLT.out (by omega) (by omega) (by omega) (by omega) (by omega)).mono ?_; rintro e w4 ⟨v', rfl, H⟩)
  go_ret
  exact ⟨_, rfl, AppB.later HO.own HG3 (by simpa [List.append_assoc] using H)⟩

set_option maxRecDepth 100000 in
set_option maxHeartbeats 2000000 in
theorem ftoa_nor (T : Nat → Int) (u : Nat) (p : Int) (b : Nat) (ng : Bool) (ex M mt : Nat) (hexp : bits BinOp.and IntKind.i64 ((b : Int) / 4503599627370496) 2047 = (ex : Int)) (hman : bits BinOp.and IntKind.u64 (b : Int) 4503599627370495 = (mt : Int)) (he : ((ex : Int) == 2047) = false) (he0 : ((ex : Int) == 0) = false) (hex : ex ≤ 2046) (hor : bits BinOp.or IntKind.u64 (mt : Int) 4503599627370496 = (M : Int)) (hM : ((M : Int) == 0) = false) (hM1 : M < 9007199254740992) (hb : b < 18446744073709551616) (hneg : (((b : Int) / 9223372036854775808) != 0) = ng) (base : Nat) (v : Value) (l : List UInt8) (w : World)
    (hown : w.ownsRow base 5 1 v l.length (Bs l)) (hbase : base ≤ w.heap.size) (hl : l.length ≤ 35184372088832) (hT : Tabs T w) (hg3 : 3 < base) (hg2 : 2 < base)
    (hu : u < 18446744073709551616) (hp0 : -400 ≤ p) (hp1 : p ≤ 400)
    (hshort : ∀ w, P10 T w → Calls Tryz.prog 171 #[.int .u64 (IntKind.u64.wrap ((M : Int) * 2 ^ (64 - Lib.bitLen M))), .int .i64 ((ex : Int) + -1023 - (64 - (Lib.bitLen M : Int)) - 52)] w fun en w' => en = .returned (.tuple #[.int .u64 u, .int .i64 p]) ∧ Below w.heap.size w w') :
    Calls Tryz.prog 156 #[v, .float .f64 b, .int .u8 102, .int .i64 (-1)] w
      (AppEnd 5 base w v (l ++ (fSign ng ++ fInt (digF u (nDig u)) ((nDig u : Int) + p) (trimZ (digF u (nDig u)) (nDig u)) ++ fFrac (digF u (nDig u)) ((nDig u : Int) + p) (max ((trimZ (digF u (nDig u)) (nDig u) : Int) - ((nDig u : Int) + p)) 0) (trimZ (digF u (nDig u)) (nDig u))))) := by
  have HO := AppB.start hown
  clear hown
  have kf := run_f64bits
  have HS := Lib.hid hshort
  have HT := Lib.hid hT
  have HN := nDig_le u hu
  have HL := Lib.hid (nDig_lt u)
  have hz0 := trimZ_le (digF u (nDig u)) (nDig u)
  have hbw : base ≤ w.heap.size := hbase
  clear hshort hT
  go_enter Tryz.func156, Tryz.ntmps156
  go_wp2_with fail
  go_quiet (fail)
  go_wp2_with fail
  refine (Tryz.bits_Len64 _ _ (by omega) (by omega)).mono ?_
  rintro e w' ⟨rfl, rfl⟩
  have hbl : Lib.bitLen M ≤ 64 := Lib.bitLen_le _ 64 (Nat.le_refl _) (by omega)
  go_wp2_with fail
  have HT1 : Hid (Tabs T ((w.drewN nq).alloc (.cells (Array.replicate 32 (.int .u8 0)) 172))) := (HT.out.mono (gt_alloc_r (gt_drewN w nq none) _) (by simp) (by simp))
  have HB := Lib.hid (buf_cells (w.drewN nq) 172)
  have HG1 := gt_alloc_r (gt_drewN w nq none) (.cells (Array.replicate 32 (.int .u8 0)) 172)
  obtain ⟨W1, hW1⟩ : ∃ W1, W1 = (w.drewN nq).alloc (.cells (Array.replicate 32 (.int .u8 0)) 172) := ⟨_, rfl⟩
  have hz1 : W1.heap.size = w.heap.size + 1 := by rw [hW1]; simp
  rw [← hW1] at HT1 HB HG1
  show Calls _ _ _ ((w.drewN nq).alloc (.cells (Array.replicate 32 (.int .u8 0)) 172)) _
  rw [← hW1]
  clear hW1 HT
  refine (HS.out _ HT1.out.p10).mono ?_
  rintro e w2 ⟨rfl, hb2⟩
  have HT2 : Hid (Tabs T w2) := HT1.out.mono (gt_below hb2 none) (by simp) (by simp)
  have HB2 : Hid (∀ j, j < 32 → w2.cell? ⟨w.heap.size, j, none⟩ = some (.int .u8 0) ∧ w2.frozen? ⟨w.heap.size, j, none⟩ = false) := fun j hj => buf_kept hb2 (by omega) (HB.out j hj)
  have HG2 : w.grownBy w2.drew none := gt_drew_r (gt_trans HG1 (gt_below hb2 none) (.inr (.inl rfl)))
  have hz2 : w.heap.size + 1 ≤ w2.heap.size := by have := hb2.size; omega
  clear HB HT1 HG1 hb2 hz1
  go_wp2_with fail
  go_region_with (first | (go_at_call 165; refine (numDigits_all u hu w2.drew HT2.out.u10).mono ?_; rintro e w' ⟨rfl, rfl⟩) | (go_at_call 164; refine (setDigits_nd u (nDig u) w.heap.size p w2.drew HB2.out HL.out hu HN hp0 hp1).mono ?_; rintro e w' ⟨rfl, hd, hg⟩))
  have HG3 := gt_trans HG2 hg (.inr (.inr ⟨_, rfl, Nat.le_refl _⟩))
  have HD : Hid (∀ t, t < trimZ (digF u (nDig u)) (nDig u) → w'.cell? ⟨w.heap.size, t, none⟩ = some (.int .u8 ((digF u (nDig u) t).toNat : Int))) := fun t ht => hd t (Nat.lt_of_lt_of_le ht hz0)
  have hsz : w.heap.size < w'.heap.size := by have h1 := hg.size; have h2 : w2.drew.heap.size = w2.heap.size := rfl; omega
  have hlt := (HO.own).lt
  have HLT : Hid (v.ownBlock ≠ some w.heap.size) := fun h => by have := hlt _ h; omega
  clear hd hg HG2 HB2 HT2 hz2 hlt
  go_wp2_with (go_at_call 161; refine (fmtF_any (digF u (nDig u)) base w.heap.size v l ng _ _ (trimZ (digF u (nDig u)) (nDig u)) _ (own_later HO.own HG3) (Nat.le_trans hbase HG3.size) (by omega) HD.out hsz HLT.out (by omega) (by omega) (by omega) (by omega) (by omega)).mono ?_; rintro e w4 ⟨v', rfl, H⟩)
  go_ret
  exact ⟨_, rfl, AppB.later HO.own HG3 (by simpa [List.append_assoc] using H)⟩

theorem bitLen_pos (n : Nat) (h : 1 ≤ n) (h1 : n < 2 ^ 64) : 1 ≤ Lib.bitLen n := by
  rw [Lib.bitLen_half n (by omega) h1]
  omega

theorem fFrac_len (f : Nat → UInt8) (dp prec : Int) (nd : Nat) (h : prec ≤ 1000) : (fFrac f dp prec nd).length ≤ 3001 := by
  unfold fFrac
  split
  · simp only [List.length_append, List.length_cons, List.length_nil, List.length_replicate, List.length_map, List.length_range]
    omega
  · simp

/-- 'out' is the decimal of the number whose bits are b: ftoa64 appends it, whatever it appends to. -/
def DecOf (T : Nat → Int) (b : Nat) (out : List UInt8) : Prop :=
  out.length ≤ 4000 ∧ ∀ (base : Nat) (v : Value) (l : List UInt8) (w : World), w.ownsRow base 5 1 v l.length (Bs l) → base ≤ w.heap.size → l.length ≤ 35184372088832 → Tabs T w → 3 < base → 2 < base →
    Calls Tryz.prog 156 #[v, .float .f64 b, .int .u8 102, .int .i64 (-1)] w (AppEnd 5 base w v (l ++ out))

theorem dec_len (ng : Bool) (u : Nat) (p : Int) (hu : u < 18446744073709551616) (hp0 : -400 ≤ p) (hp1 : p ≤ 400) : ((fSign ng ++ fInt (digF u (nDig u)) ((nDig u : Int) + p) (trimZ (digF u (nDig u)) (nDig u)) ++ fFrac (digF u (nDig u)) ((nDig u : Int) + p) (max ((trimZ (digF u (nDig u)) (nDig u) : Int) - ((nDig u : Int) + p)) 0) (trimZ (digF u (nDig u)) (nDig u))) : List UInt8).length ≤ 4000 := by
  have h1 := fSign_len ng
  have h2 := nDig_le u hu
  have h3 := trimZ_le (digF u (nDig u)) (nDig u)
  have h4 := fInt_len (digF u (nDig u)) ((nDig u : Int) + p) (trimZ (digF u (nDig u)) (nDig u)) (by omega)
  have h5 := fFrac_len (digF u (nDig u)) ((nDig u : Int) + p) (max ((trimZ (digF u (nDig u)) (nDig u) : Int) - ((nDig u : Int) + p)) 0) (trimZ (digF u (nDig u)) (nDig u)) (by omega)
  simp only [List.length_append]
  omega

theorem ftoa64_any (T : Nat → Int) (hT : ∀ i, U64 (T i)) (b : Nat) (hb : b < 18446744073709551616) : ∃ out, DecOf T b out := by
  obtain ⟨ng, hneg⟩ : ∃ ng, (((b : Int) / 9223372036854775808) != 0) = ng := ⟨_, rfl⟩
  have hexp := i64_and2047 ((b : Int) / 4503599627370496)
  have hman := u64_and52 b hb
  obtain ⟨ex, hex⟩ : ∃ ex : Nat, ex = b / 4503599627370496 % 2048 := ⟨_, rfl⟩
  obtain ⟨mt, hmt⟩ : ∃ mt : Nat, mt = b % 4503599627370496 := ⟨_, rfl⟩
  have e1 : ((b : Int) / 4503599627370496) % 2048 = (ex : Int) := by omega
  rw [e1] at hexp
  rw [← hmt] at hman
  have hm1 : mt < 4503599627370496 := by omega
  have hx1 : ex < 2048 := by omega
  clear e1 hex hmt
  by_cases h7 : ex = 2047
  · subst h7
    by_cases hm : mt = 0
    · subst hm
      exact ⟨_, by cases ng <;> decide, fun base v l w h1 h2 h3 _ _ _ => ftoa_inf b ng hexp hman hb hneg base v l w h1 h2 h3⟩
    · exact ⟨_, by decide, fun base v l w h1 h2 h3 _ _ _ => ftoa_nan b ng mt hexp hman (by simpa using hm) hb hneg base v l w h1 h2 h3⟩
  · by_cases h0 : ex = 0
    · subst h0
      by_cases hm : mt = 0
      · subst hm
        exact ⟨_, by cases ng <;> decide, fun base v l w h1 h2 h3 _ _ _ => ftoa_zero b ng hexp hman hb hneg base v l w h1 h2 h3⟩
      · have hbl : Lib.bitLen mt ≤ 64 := Lib.bitLen_le _ 64 (Nat.le_refl _) (by omega)
        have hbl1 : 1 ≤ Lib.bitLen mt := bitLen_pos mt (by omega) (by omega)
        have hU := u64_wrap ((mt : Int) * 2 ^ (64 - Lib.bitLen mt))
        obtain ⟨⟨d, p⟩, hr0, hr1, hr2, hcall⟩ := shortFloat_any T hT (IntKind.u64.wrap ((mt : Int) * 2 ^ (64 - Lib.bitLen mt))) (-1022 - (64 - (Lib.bitLen mt : Int)) - 52) (by omega) (by omega) hU.1 hU.2
        obtain ⟨u, rfl⟩ := Int.eq_ofNat_of_zero_le hr0.1
        have hu : u < 18446744073709551616 := by have := hr0.2; simp only at this; omega
        exact ⟨_, dec_len ng u p hu hr1 hr2, fun base v l w h1 h2 h3 h4 h5 h6 => ftoa_den T u p b ng mt hexp hman (by simpa using hm) hm1 hb hneg base v l w h1 h2 h3 h4 h5 h6 hu hr1 hr2 hcall⟩
    · have hor := u64_or52 mt hm1
      have hbl : Lib.bitLen (mt + 4503599627370496) ≤ 64 := Lib.bitLen_le _ 64 (Nat.le_refl _) (by omega)
      have hbl1 : 1 ≤ Lib.bitLen (mt + 4503599627370496) := bitLen_pos _ (by omega) (by omega)
      have hU := u64_wrap (((mt + 4503599627370496 : Nat) : Int) * 2 ^ (64 - Lib.bitLen (mt + 4503599627370496)))
      obtain ⟨⟨d, p⟩, hr0, hr1, hr2, hcall⟩ := shortFloat_any T hT (IntKind.u64.wrap (((mt + 4503599627370496 : Nat) : Int) * 2 ^ (64 - Lib.bitLen (mt + 4503599627370496)))) ((ex : Int) + -1023 - (64 - (Lib.bitLen (mt + 4503599627370496) : Int)) - 52) (by omega) (by omega) hU.1 hU.2
      obtain ⟨u, rfl⟩ := Int.eq_ofNat_of_zero_le hr0.1
      have hu : u < 18446744073709551616 := by have := hr0.2; simp only at this; omega
      exact ⟨_, dec_len ng u p hu hr1 hr2, fun base v l w h1 h2 h3 h4 h5 h6 => ftoa_nor T u p b ng ex (mt + 4503599627370496) mt hexp hman (by simpa using fun h => h7 (by omega)) (by simpa using h0) (by omega) hor (by simp only [beq_eq_false_iff_ne, ne_eq]; omega) (by omega) hb hneg base v l w h1 h2 h3 h4 h5 h6 hu hr1 hr2 hcall⟩

end Go.Proofs.YthcjnadceambgaaGreatDoor
