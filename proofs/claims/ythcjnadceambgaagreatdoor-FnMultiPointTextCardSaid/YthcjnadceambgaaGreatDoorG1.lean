/- FnLineText, walked whole. -/
import Derived.Test.YthcjnadceambgaaGreatDoorF4
import Derived.Test.YthcjnadceambgaaGreatDoorE2
namespace Go.Proofs.YthcjnadceambgaaGreatDoor
open Go.RowKit

theorem line_text (T : Nat → Int) (d : Int) (r n : Nat) (hr : d % 4 = r) (hr4 : r < 4) (f : Nat → Nat) (kids : List Raw) : lineW T r (n - n % widN r) f = textT T (newT (.mk 2 d n f kids)) := by
  have hw := widN_le r hr4
  have hN : n - n % widN r = n / widN r * widN r := by
    have := Nat.mod_add_div n (widN r)
    rw [Nat.mul_comm]; omega
  have hrt : (d % 4).toNat = r := by rw [hr]; rfl
  have e : newT (.mk 2 d n f kids) = .mk 2 (d % 4) (n / widN (d % 4).toNat * widN (d % 4).toNat) f [] := by
    unfold newT
    rw [if_neg (by decide), if_pos (by decide)]
  rw [e, hrt, hN]
  unfold textT lineW lineB
  rw [hrt, Nat.mul_div_cancel _ (by omega : 0 < widN r)]
  generalize n / widN r = L
  have e0 : bodyTs T (decide ((2 : Int) = 0)) [] = [] := by unfold bodyTs; rfl
  rw [e0, List.append_nil]
  have en : nameT 2 = nLINE := rfl
  rw [en]
  by_cases hL : L = 0
  · subst hL
    have ep : plTs T r f 0 = [] := by simp [plTs]
    rw [if_pos rfl, ep, if_pos rfl]
    unfold wrapP
    rw [if_pos rfl]
    by_cases hr0 : r = 0
    · subst hr0; rfl
    · rw [if_neg hr0, if_neg hr0]
      have : wE 32 = EMPTY := by decide
      rw [this]
  · have hne : ¬ plTs T r f L = [] := fun h => hL (by have := plTs_len T r f L; rw [h] at this; exact this.symm)
    rw [if_neg hL, if_neg hne]
    unfold wrapP
    rw [if_neg hne]
    have ej : joinC (plTs T r f L) = wSeq T false r f L := by
      unfold joinC wSeq
      rw [plTs_len]
      refine cTo_congr fun i hi => ?_
      simp [plTs, hi, List.getD_eq_getElem?_getD, par]
    rw [ej]
    by_cases hr0 : r = 0
    · subst hr0; rfl
    · rw [if_neg hr0]

set_option maxRecDepth 100000 in
set_option maxHeartbeats 1000000 in
theorem LineAsText_any (T : Nat → Int) (hT : ∀ i, U64 (T i)) (r n : Nat) (v : Value) (f : Nat → Nat) (hr : r < 4) (hn : n ≤ 2000) (W : World) (hv : SeqIs W v r n f) (ht : Tabs T W) :
    Calls Tryz.prog 25 #[v] W fun e w' => e = .returned (.string ⟨(lineW T r n f).toArray⟩) ∧ W.grownBy w' none := by
  obtain ⟨a, rfl, hf, hb⟩ := hv
  have HG := Lib.hid (World.grownBy_alloc W (.cells #[.int .u8 r, .slice (some a) n n] 45) none)
  have HA := Lib.hid (fun w (g : W.grownBy w none) => LineAppendWKT_nil T hT r n a f hr hn w (hf.mono g) (Nat.lt_of_lt_of_le hb g.size) (ht.mono g (by simp) (by simp)))
  clear hf ht
  go_enter Tryz.func25, Tryz.ntmps25
  go_wp2_with (first
    | (go_at_call 57; refine (HA.out _ HG.out).mono ?_; rintro e w' ⟨v', rfl, H⟩; have hcv := own_str (P := Tryz.prog) (src := 33) (dst := 9) (et := 5) Tryz.underlying33 Tryz.underlying5 Tryz.underlying9 H.own))
  go_ret
  exact ⟨rfl, gt_trans HG.out H.grown (.inl rfl)⟩

set_option maxRecDepth 100000 in
set_option maxHeartbeats 1000000 in
theorem LineWKT_any (T : Nat → Int) (hT : ∀ i, U64 (T i)) (d : Int) (r : Nat) (hr : d % 4 = r) (p q : Option Addr) (n cap m c2 : Nat) (f : Nat → Nat) (hn : n ≤ 2000) (W : World) (hf : FVal W p n f) (ht : Tabs T W) :
    Calls Tryz.prog 10 #[.agg #[.int .i64 2, .int .i64 d, .slice p n cap, .slice q m c2]] W fun e w' => e = .returned (.string ⟨(lineW T r (n - n % widN r) f).toArray⟩) ∧ W.grownBy w' none := by
  have HG := Lib.hid (World.grownBy_alloc W (.cells #[.int .i64 2, .int .i64 d, .slice p n cap, .slice q m c2] 25) none)
  have HL := Lib.hid (fun w (g : W.grownBy w none) => line_any d r hr p q n cap m c2 f hn w (hf.mono g))
  have HM := Lib.hid (fun v w (g : W.grownBy w none) (h : SeqIs w v r (n - n % widN r) f) => LineAsText_any T hT r (n - n % widN r) v f (by omega) (by omega) w h (ht.mono g (by simp) (by simp)))
  generalize n - n % widN r = N at HL HM ⊢
  clear hr hf ht
  go_enter Tryz.func10, Tryz.ntmps10
  go_wp2_with (first
    | (go_at_call 24; refine (HL.out _ HG.out).mono ?_; rintro e w' ⟨v, rfl, hv, hg1⟩)
    | (go_at_call 25; refine (HM.out _ _ (gt_trans HG.out hg1 (.inl rfl)) hv).mono ?_; rintro e w'' ⟨rfl, hg2⟩))
  go_ret
  exact ⟨rfl, gt_trans (gt_trans HG.out hg1 (.inl rfl)) hg2 (.inl rfl)⟩

set_option maxRecDepth 100000 in
set_option maxHeartbeats 1000000 in
theorem zzFits2_any (W : World) (k d : Int) (p q : Option Addr) (n cap m c2 : Nat) :
    Calls Tryz.prog 8 #[.agg #[.int .i64 k, .int .i64 d, .slice p n cap, .slice q m c2]] W (YN W fun _ => True) := by
  go_enter Tryz.func8, Tryz.ntmps8
  go_wp2_with fail
  all_goals (go_ret; exact ⟨_, rfl, trivial, World.grownBy_alloc _ _ _⟩)
end Go.Proofs.YthcjnadceambgaaGreatDoor
