/- The reference's text of a place. -/
import Derived.Test.YthcjnadceambgaaGreatDoorE9
namespace Go.Proofs.YthcjnadceambgaaGreatDoor
open Go.RowKit

/-- Texts with blanks between them, k of them. -/
def bTo (s : Nat → List UInt8) : Nat → List UInt8
  | 0 => []
  | k + 1 => bTo s k ++ (if 0 < k then [32] else []) ++ s k
def valN (x y z m r i : Nat) : Nat := if i = 0 then x else if i = 1 then y else if i = 2 ∧ r % 2 = 1 then z else m
theorem wktPl_bTo (T : Nat → Int) (x y z m r : Nat) (hr : r < 4) : bTo (fun i => decT T (valN x y z m r i)) (widN r) = wktPl T x y z m r := by
  rcases (by omega : r = 0 ∨ r = 1 ∨ r = 2 ∨ r = 3) with rfl | rfl | rfl | rfl <;> simp [widN, bTo, valN, wktPl, List.append_assoc]
theorem nTo_one (x y z m r : Nat) (hr : r < 4) (i : Nat) (hi : i < widN r) : (nTo r (fun _ => x) (fun _ => y) (fun _ => z) (fun _ => m) 1)[i]? = some (.float .f64 (valN x y z m r i)) := by
  rcases (by omega : r = 0 ∨ r = 1 ∨ r = 2 ∨ r = 3) with rfl | rfl | rfl | rfl
  · have hi' : i < 2 := hi
    rcases (by omega : i = 0 ∨ i = 1) with rfl | rfl <;> rfl
  · have hi' : i < 3 := hi
    rcases (by omega : i = 0 ∨ i = 1 ∨ i = 2) with rfl | rfl | rfl <;> rfl
  · have hi' : i < 3 := hi
    rcases (by omega : i = 0 ∨ i = 1 ∨ i = 2) with rfl | rfl | rfl <;> rfl
  · have hi' : i < 4 := hi
    rcases (by omega : i = 0 ∨ i = 1 ∨ i = 2 ∨ i = 3) with rfl | rfl | rfl | rfl <;> rfl
theorem bTo_len (s : Nat → List UInt8) (hs : ∀ i, (s i).length ≤ 4000) : ∀ k, (bTo s k).length ≤ k * 4001
  | 0 => by simp [bTo]
  | k + 1 => by
    have h := bTo_len s hs k
    have h2 := hs k
    unfold bTo
    split <;> (simp only [List.length_append, List.length_cons, List.length_nil]; omega)

set_option maxRecDepth 100000 in
set_option maxHeartbeats 2000000 in
theorem writePlace_any (T : Nat → Int) (hT : ∀ i, U64 (T i)) (x y z m r : Nat) (hx : x < 18446744073709551616) (hy : y < 18446744073709551616) (hz : z < 18446744073709551616) (hm : m < 18446744073709551616) (hr : r < 4) (W : World) (ht : Tabs T W) :
    Calls Tryz.prog 59 #[.agg #[.float .f64 x, .float .f64 y, .float .f64 z, .float .f64 m], .int .i64 r] W fun e w' => e = .returned (.string ⟨(wktPl T x y z m r).toArray⟩) ∧ W.grownBy w' none := by
  have hsf := run_store_flt Tryz.prog
  rw [← wktPl_bTo T x y z m r hr]
  have hf : ∀ i, valN x y z m r i < 18446744073709551616 := fun i => by unfold valN; split; exact hx; split; exact hy; split; exact hz; exact hm
  have HG := Lib.hid (gt_alloc_r (World.grownBy_alloc W (.cells #[.float .f64 x, .float .f64 y, .float .f64 z, .float .f64 m] 92) none) (.cells #[.float .f64 x, .float .f64 y, .float .f64 z, .float .f64 m] 92))
  have HNu := Lib.hid (fun W' (h0 : W'.cell? ⟨W.heap.size + 1, 0, none⟩ = some (.float .f64 x)) (h1 : W'.cell? ⟨W.heap.size + 1, 1, none⟩ = some (.float .f64 y)) (h2 : W'.cell? ⟨W.heap.size + 1, 2, none⟩ = some (.float .f64 z)) (h3 : W'.cell? ⟨W.heap.size + 1, 3, none⟩ = some (.float .f64 m)) =>
    Nums_any r hr (some ⟨W.heap.size + 1, 0, none⟩) 1 1 (fun _ => x) (fun _ => y) (fun _ => z) (fun _ => m) (by omega) W' ⟨fun _ => ⟨_, rfl⟩, fun a ha i hi => by
      injection ha with ha; subst ha; obtain rfl : i = 0 := by omega
      exact ⟨h0, h1, h2, h3⟩⟩)
  have HFV : Hid (∀ (w0 w : World) (p : Option Addr) (cc : Nat), AppV 60 1 w0.heap.size w0 (.slice none 0 0) w (.slice p (1 * widN r) cc) (1 * widN r) (nTo r (fun _ => x) (fun _ => y) (fun _ => z) (fun _ => m) 1) → FVal w p (1 * widN r) (valN x y z m r)) := fun w0 w p cc h => h.fval hf (fun i hi => nTo_one x y z m r hr i (by omega))
  have HWn := Lib.hid (fun i w (g : W.grownBy w none) => WriteNumber_any T hT (valN x y z m r i) (hf i) w (ht.mono g (by simp) (by simp)))
  have hc4 : 1 * widN r ≤ 4 := by have := widN_le r hr; omega
  have hc1 : 1 * widN r = widN r := Nat.one_mul _
  rw [← hc1]
  generalize 1 * widN r = c at HNu HFV hc4 ⊢
  obtain ⟨s, hs⟩ : ∃ s : Nat → List UInt8, s = fun i => decT T (valN x y z m r i) := ⟨_, rfl⟩
  have hs4 : ∀ i, (s i).length ≤ 4000 := fun i => by rw [hs]; exact decT_len T _
  have hs' : ∀ i, decT T (valN x y z m r i) = s i := fun i => by rw [hs]
  simp only [hs'] at HWn
  rw [← hs]
  have hbl := bTo_len s hs4
  obtain ⟨S, hS⟩ : ∃ S : Nat → ByteArray, ∀ k, S k = ⟨(bTo s k).toArray⟩ := ⟨_, fun _ => rfl⟩
  obtain ⟨U, hU⟩ : ∃ U : Nat → ByteArray, ∀ k, U k = ⟨(bTo s k ++ [32]).toArray⟩ := ⟨_, fun _ => rfl⟩
  obtain ⟨X, hX⟩ : ∃ X : Nat → ByteArray, ∀ k, X k = ⟨(s k).toArray⟩ := ⟨_, fun _ => rfl⟩
  have HU := Lib.hid (fun k (hk : k < c) => cat_run Tryz.prog (bTo s k) [32] (S k) ⟨#[32]⟩ (U k) (hS k) rfl (hU k) (by have := hbl k; simp only [List.length_cons, List.length_nil]; omega))
  have HX := Lib.hid (fun k (hk : k < c) (h0 : 0 < k) => cat_run Tryz.prog (bTo s k ++ [32]) (s k) (U k) (X k) (S (k + 1)) (hU k) (hX k) (by rw [hS]; show ByteArray.mk (bTo s k ++ (if 0 < k then [32] else []) ++ s k).toArray = _; rw [if_pos h0]) (by have := hbl k; have := hs4 k; simp only [List.length_append, List.length_cons, List.length_nil]; omega))
  have HZ := Lib.hid (fun k (hk : k < c) (h0 : ¬ 0 < k) => cat_run Tryz.prog (bTo s k) (s k) (S k) (X k) (S (k + 1)) (hS k) (hX k) (by rw [hS]; show ByteArray.mk (bTo s k ++ (if 0 < k then [32] else []) ++ s k).toArray = _; rw [if_neg h0, List.append_nil]) (by have := hbl k; have := hs4 k; omega))
  have h0 : S 0 = ⟨#[]⟩ := by rw [hS]; rfl
  have hX' : ∀ k, (ByteArray.mk (s k).toArray) = X k := fun k => (hX k).symm
  simp only [hX'] at HWn
  rw [← hS c]
  clear hS hU hX hX' hs hs' hs4 hbl hf ht hc1
  go_enter Tryz.func59, Tryz.ntmps59
  go_wp2_with (first
    | (go_at_call 60; refine (HNu.out _ (by simp) (by simp) (by simp) (by simp)).mono ?_; rintro e w' ⟨v, rfl, hv⟩; obtain ⟨p, cc, rfl⟩ := hv.slice))
  have hfv := HFV.out _ _ _ _ hv
  have HGN := Lib.hid (gt_trans HG.out hv.grown0 (.inl rfl))
  clear hv
  go_loopw [5, 13] (fun x i wr => ∃ k : Nat, k ≤ c ∧ i = .int .i64 k ∧ x = .string (S k) ∧ w'.grownBy wr none) (fun _ i _ => c - (intOf i).toNat)
  case atStart => exact ⟨0, by omega, rfl, by rw [h0], gt_refl _ _⟩
  case round =>
    obtain ⟨k, hk, rfl, rfl, hg⟩ := hrel
    rename World => wr
    by_cases hkn : k < c
    · obtain ⟨a, rfl⟩ := hfv.some_ (by omega)
      have q := (hfv.mono hg).at_ a rfl k hkn
      have HWk := Lib.hid (HWn.out k wr (gt_trans HGN.out hg (.inl rfl)))
      have HGr := Lib.hid hg
      clear hg
      by_cases hk0 : 0 < k
      · have eU := HU.out k hkn
        have eX := HX.out k hkn hk0
        go_wp2_with (first
          | (go_at_call 118; refine HWk.out.mono ?_; rintro e w'' ⟨rfl, hb⟩))
        exact ⟨⟨k + 1, by omega, by go_num, rfl, gt_trans HGr.out (gt_below hb none) (.inl rfl)⟩, by simp [intOf]; omega⟩
      · have eX := HZ.out k hkn hk0
        go_wp2_with (first
          | (go_at_call 118; refine HWk.out.mono ?_; rintro e w'' ⟨rfl, hb⟩))
        exact ⟨⟨k + 1, by omega, by go_num, rfl, gt_trans HGr.out (gt_below hb none) (.inl rfl)⟩, by simp [intOf]; omega⟩
    · obtain rfl : k = c := by omega
      go_wp2_with fail
      go_wp2_with fail
      go_ret
      exact ⟨rfl, gt_trans HGN.out hg (.inl rfl)⟩
end Go.Proofs.YthcjnadceambgaaGreatDoor
