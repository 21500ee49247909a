/- FnBytesCut, walked whole: whatever the geometry and the place, it answers true. -/
import Derived.Test.YtlpaecafpbbbkaaGreatDoorBCT7
import Derived.Test.YtlpaecafpbbbkaaGreatDoorBCT14
import Derived.Test.YtlpaecafpbbbkaaGreatDoorBCT18
import Derived.Test.YtlpaecafpbbbkaaGreatDoorBCT32
set_option linter.unusedVariables false
set_option linter.unusedSimpArgs false
namespace Go.Proofs.YtlpaecafpbbbkaaGreatDoor
open Go.RowKit

theorem BIn.of_own {W : World} {base : Nat} {e : TypeId} {x : Value} {l : List UInt8} (h : W.ownsRow base e 1 x l.length (Bs l)) : BIn W x l := by
  rcases h.2 with ⟨rfl, h0⟩ | ⟨g, cap, cur, rfl, hb, hh, h1, h2, _⟩
  · exact ⟨none, 0, by rw [h0], by omega, by decide, fun _ => rfl, fun h => by omega⟩
  · refine ⟨_, cap, rfl, h1, h2, (fun h => by cases h), fun _ => ⟨g, 0, rfl, fun i u hi => ?_⟩⟩
    have hc := h.cells (g := g) rfl i (.int .u8 u.toNat) (by simp [Bs, hi])
    have ha : (⟨g, 0, none⟩ : Addr).add i = ⟨g, 0 + i, none⟩ := by unfold Addr.add; split <;> simp_all
    rwa [ha] at hc
theorem BIn.take {W : World} {p : Option Addr} {n c : Nat} {l : List UInt8} (h : BIn W (.slice p n c) l) (k : Nat) (hk : k ≤ n) : BIn W (sliced p 0 k c 1) (l.take k) := by
  obtain ⟨p', c', e, h1, h2, h3, h4⟩ := h
  injection e with e1 e2 e3
  subst e1 e2 e3
  have hl : (l.take k).length = k := by rw [List.length_take]; omega
  unfold sliced
  by_cases hc : c = 0
  · refine ⟨_, c - 0, by rw [if_pos hc, hl]; rfl, by omega, by omega, fun _ => by omega, fun h0 => ?_⟩
    omega
  · refine ⟨_, c - 0, by rw [if_neg hc, hl]; rfl, by omega, by omega, fun hn => ?_, fun h0 => ?_⟩
    · cases p with
      | none => have := h3 rfl; omega
      | some a => cases hn
    · obtain ⟨b, o, ep, hcl⟩ := h4 (by omega)
      refine ⟨b, o, by rw [ep]; simp [Addr.add], fun i u hi => ?_⟩
      rw [List.getElem?_take] at hi
      split at hi
      · exact hcl _ u hi
      · cases hi
theorem read_ok (L : List UInt8) (t' : Raw) (h1 : rdG true 2000 (-1) L = .ok t' []) (h2 : okK t' = true) (h3 : Sm 2000 L) (W : World) (x : Value) (hb : BIn W x L) :
    Calls Tryz.prog 15 #[x, .bool false] W fun e w' => (∃ k6 d6 p6 n6 cap6 q6 m6 cq6, e = .returned (.tuple #[.agg #[.int .i64 k6, .int .i64 d6, .slice p6 n6 cap6, .slice q6 m6 cq6], .bool true])) ∧ W.grownBy w' none := by
  refine (readWKB_sm 2000 W x L hb (by rw [h1]; exact fun h => by cases h) h3).mono fun e w' ⟨hg, hor⟩ => ⟨?_, hg⟩
  rcases hor with ⟨hbad, _⟩ | ⟨t, l, k6, d6, p6, n6, cap6, q6, m6, cq6, _, _, he, _⟩
  · exact absurd (hbad t' [] h1) (by rw [h2]; decide)
  · exact ⟨k6, d6, p6, n6, cap6, q6, m6, cq6, he⟩
theorem read_bad (L : List UInt8) (h1 : rdG true 2000 (-1) L = .bad false) (h3 : Sm 2000 L) (W : World) (x : Value) (hb : BIn W x L) :
    Calls Tryz.prog 15 #[x, .bool false] W fun e w' => e = .returned (.tuple #[.agg #[.int .i64 0, .int .i64 0, .slice none 0 0, .slice none 0 0], .bool false]) ∧ W.grownBy w' none := by
  refine (readWKB_sm 2000 W x L hb (by rw [h1]; exact fun h => by cases h) h3).mono fun e w' ⟨hg, hor⟩ => ⟨?_, hg⟩
  rcases hor with ⟨_, he⟩ | ⟨t, l, k6, d6, p6, n6, cap6, q6, m6, cq6, h, _⟩
  · exact he
  · rw [h1] at h; cases h

set_option maxRecDepth 100000 in
set_option maxHeartbeats 4000000 in
theorem FnBytesCut_any (h : Nat) (B : Nat → Prop) (W : World) (v : Value) (t : Raw) (at_ : Int) (hk : KD B h W v t) :
    Calls Tryz.prog 6 #[v, .int .i64 at_] W fun e w' => e = .returned (.bool true) ∧ W.grownBy w' none := by
  cases h with
  | zero => exact hk.elim
  | succ h =>
  have hk0 := hk
  obtain ⟨k, d, n, f, kids⟩ := t
  obtain ⟨p, cap, q, c2, rfl, hf, h1, h2, h3, _⟩ := hk
  obtain ⟨m, hm⟩ : ∃ m, kids.length = m := ⟨_, rfl⟩
  rw [hm] at hk0 ⊢
  obtain ⟨t, htt⟩ : ∃ t, t = Raw.mk k d n f kids := ⟨_, rfl⟩
  rw [← htt] at hk0
  obtain ⟨W1, hW1⟩ : ∃ W1, W1 = (W.alloc (.cells #[.int .i64 k, .int .i64 d, .slice p n cap, .slice q m c2] 33)) := ⟨_, rfl⟩
  have hg1 : W.grownBy W1 none := by rw [hW1]; exact World.grownBy_alloc _ _ _
  have HZ := Lib.hid (fun w => zzFits2_any w k d p q n cap m c2)
  have HS : Hid (∀ W', W1.grownBy W' none → W'.cell? ⟨W.heap.size, 0, none⟩ = some (.int .i64 k) ∧ W'.cell? ⟨W.heap.size, 1, none⟩ = some (.int .i64 d) ∧ W'.cell? ⟨W.heap.size, 2, none⟩ = some (.slice p n cap) ∧ W'.cell? ⟨W.heap.size, 3, none⟩ = some (.slice q m c2)) := fun W' g => by
    rw [hW1] at g
    exact ⟨g.cell (by simp) (by simp), g.cell (by simp) (by simp), g.cell (by simp) (by simp), g.cell (by simp) (by simp)⟩
  have HG1 := Lib.hid hg1
  have HW1 := Lib.hid hW1
  have IS := Lib.hid (fun W' b (g : W.grownBy W' none) (k0 : W'.cell? ⟨b, 0, none⟩ = some (.int .i64 k)) (k1 : W'.cell? ⟨b, 0 + 1, none⟩ = some (.int .i64 d)) (k2 : W'.cell? ⟨b, 0 + 2, none⟩ = some (.slice p n cap)) (k3 : W'.cell? ⟨b, 0 + 3, none⟩ = some (.slice q m c2)) =>
    gSmallD1 (h + 1) W' ⟨b, 0, none⟩ _ _ _ _ t (hk0.mono g) k0 k1 k2 k3)
  have IA := Lib.hid (fun W' (g : W1.grownBy W' none) => gAllN (h + 1) B W' _ t (hk0.mono (gt_trans hg1 g (.inl rfl))))
  obtain ⟨s, hs⟩ : ∃ s, s = decide (wt t ≤ 2000) := ⟨_, rfl⟩
  rw [← hs] at IS
  have hbx : True := trivial
  cases s
  · clear hk0 hs hf htt hm IA hg1 hW1 h1 h2 h3
    go_enter Tryz.func6, Tryz.ntmps6
    go_wp2_with (first
      | (go_at_call 19; refine (HZ.out _).mono ?_; rintro e w1 ⟨b1, rfl, _, hg⟩; rw [← HW1.out] at hg; obtain ⟨x0, x1, x2, x3⟩ := HS.out _ hg; have hg0 := gt_trans HG1.out hg (.inl rfl))
      | (go_at_call 20; refine (IS.out _ _ (gt_trans hg0 (World.grownBy_alloc _ _ _) (.inl rfl)) (by simp) (by simp) (by simp) (by simp)).mono ?_; rintro e w2 ⟨rfl, hg2⟩; have G2 := gt_trans hg (gt_trans (World.grownBy_alloc _ _ _) hg2 (.inl rfl)) (.inl rfl); obtain ⟨x0, x1, x2, x3⟩ := HS.out _ G2))
    all_goals first
      | (go_ret; exact ⟨rfl, hg0⟩)
      | (go_ret; exact ⟨rfl, gt_trans HG1.out G2 (.inl rfl)⟩)
      | (go_wp2_with (first | (go_at_call 20; refine (IS.out _ _ (gt_trans hg0 (World.grownBy_alloc _ _ _) (.inl rfl)) (by simp) (by simp) (by simp) (by simp)).mono ?_; rintro e w2 ⟨rfl, hg2⟩; have G2 := gt_trans hg (gt_trans (World.grownBy_alloc _ _ _) hg2 (.inl rfl)) (.inl rfl); obtain ⟨x0, x1, x2, x3⟩ := HS.out _ G2)); go_ret; exact ⟨rfl, gt_trans HG1.out G2 (.inl rfl)⟩)
  have hw : wt t ≤ 2000 := by simpa using hs.symm
  obtain ⟨al, hal⟩ : ∃ al, al = allN t := ⟨_, rfl⟩
  rw [← hal] at IA
  cases al
  · clear hk0 hs hf htt hm hg1 hW1 h1 h2 h3 hw hal
    go_enter Tryz.func6, Tryz.ntmps6
    go_wp2_with (first
      | (go_at_call 19; refine (HZ.out _).mono ?_; rintro e w1 ⟨b1, rfl, _, hg⟩; rw [← HW1.out] at hg; obtain ⟨x0, x1, x2, x3⟩ := HS.out _ hg; have hg0 := gt_trans HG1.out hg (.inl rfl))
      | (go_at_call 20; refine (IS.out _ _ (gt_trans hg0 (World.grownBy_alloc _ _ _) (.inl rfl)) (by simp) (by simp) (by simp) (by simp)).mono ?_; rintro e w2 ⟨rfl, hg2⟩; have G2 := gt_trans hg (gt_trans (World.grownBy_alloc _ _ _) hg2 (.inl rfl)) (.inl rfl); obtain ⟨x0, x1, x2, x3⟩ := HS.out _ G2)
      | (go_at_call 17; refine (IA.out _ G2).mono ?_; rintro e w3 ⟨rfl, hg3⟩; have G3 := gt_trans G2 hg3 (.inl rfl); obtain ⟨x0, x1, x2, x3⟩ := HS.out _ G3))
    all_goals first
      | (go_ret; exact ⟨rfl, hg0⟩)
      | (go_ret; exact ⟨rfl, gt_trans HG1.out G3 (.inl rfl)⟩)
      | (go_wp2_with (first | (go_at_call 20; refine (IS.out _ _ (gt_trans hg0 (World.grownBy_alloc _ _ _) (.inl rfl)) (by simp) (by simp) (by simp) (by simp)).mono ?_; rintro e w2 ⟨rfl, hg2⟩; have G2 := gt_trans hg (gt_trans (World.grownBy_alloc _ _ _) hg2 (.inl rfl)) (.inl rfl); obtain ⟨x0, x1, x2, x3⟩ := HS.out _ G2) | (go_at_call 17; refine (IA.out _ G2).mono ?_; rintro e w3 ⟨rfl, hg3⟩; have G3 := gt_trans G2 hg3 (.inl rfl); obtain ⟨x0, x1, x2, x3⟩ := HS.out _ G3)); go_ret; exact ⟨rfl, gt_trans HG1.out G3 (.inl rfl)⟩)
  have hnn := noN_of_all B W (h + 1) _ t hk0 hal.symm
  have HN := Lib.hid (fun w (g : W1.grownBy w none) => (NewD (h + 1) B w _ _ (hk0.mono (gt_trans hg1 g (.inl rfl))) hw).mono (fun e w' ⟨v', he, hk', hg⟩ => (by
    obtain ⟨k6, d6, n6, f6, kids6, p6, c6, q6, c7, e6, hv⟩ := hk'.form
    exact ⟨k6, d6, p6, n6, c6, q6, _, c7, by rw [he, hv], by rw [← hv]; exact hk', hg⟩ : ∃ k6 d6 p6 n6 c6 q6 m6 c7, e = Ending.returned (.agg #[.int .i64 k6, .int .i64 d6, .slice p6 n6 c6, .slice q6 m6 c7]) ∧ KD (Fr w w') (h + 1) w' (.agg #[.int .i64 k6, .int .i64 d6, .slice p6 n6 c6, .slice q6 m6 c7]) (newT t) ∧ w.grownBy w' none)))
  obtain ⟨⟨t', hR, hok⟩, hSm, hcut⟩ := cut_law t hw hnn
  obtain ⟨g1', g2'⟩ := new_gd t hw hnn
  have HWr := Lib.hid (fun (B : Nat → Prop) (w : World) k6 d6 p6 q6 n6 c6 m6 c7 (hk6 : KD B (h + 1) w (.agg #[.int .i64 k6, .int .i64 d6, .slice p6 n6 c6, .slice q6 m6 c7]) (newT t)) => WriteWKB_any (h + 1) B w k6 d6 p6 q6 n6 c6 m6 c7 (newT t) hk6 g1' (by omega))
  have HRd := Lib.hid (fun W x (hb : BIn W x (wrT (newT t))) => read_ok _ t' hR hok hSm W x hb)
  have HRc := Lib.hid (fun a (ha : a < (wrT (newT t)).length) W x (hb : BIn W x ((wrT (newT t)).take a)) => read_bad _ (hcut a ha).1 (hcut a ha).2 W x hb)
  obtain ⟨L, hL⟩ : ∃ L, L = wrT (newT t) := ⟨_, rfl⟩
  rw [← hL] at HWr HRd HRc
  generalize newT t = tn at HN HWr
  obtain ⟨N, hN⟩ : ∃ N, N = L.length := ⟨_, rfl⟩
  rw [← hN] at HWr HRc
  have HNN := Lib.hid hN
  clear hk0 hs hf htt hm hg1 hW1 h1 h2 h3 hw hal hnn hR hok hSm hcut g1' g2' hL hN
  by_cases ha : 0 ≤ at_ ∧ at_ < (N : Int)
  · obtain ⟨a, rfl⟩ : ∃ a : Nat, at_ = (a : Int) := ⟨at_.toNat, by omega⟩
    have haN : a < N := by omega
    have ha1 : ¬ (N : Int) ≤ (a : Int) := by omega
    have ha2 : ¬ (a : Int) < 0 := by omega
    have HRc2 := Lib.hid (HRc.out a haN)
    clear ha
    go_enter Tryz.func6, Tryz.ntmps6
    go_wp2_with (first
      | (go_at_call 19; refine (HZ.out _).mono ?_; rintro e w1 ⟨b1, rfl, _, hg⟩; rw [← HW1.out] at hg; obtain ⟨x0, x1, x2, x3⟩ := HS.out _ hg; have hg0 := gt_trans HG1.out hg (.inl rfl))
      | (go_at_call 20; refine (IS.out _ _ (gt_trans hg0 (World.grownBy_alloc _ _ _) (.inl rfl)) (by simp) (by simp) (by simp) (by simp)).mono ?_; rintro e w2 ⟨rfl, hg2⟩; have G2 := gt_trans hg (gt_trans (World.grownBy_alloc _ _ _) hg2 (.inl rfl)) (.inl rfl); obtain ⟨x0, x1, x2, x3⟩ := HS.out _ G2)
      | (go_at_call 17; refine (IA.out _ G2).mono ?_; rintro e w3 ⟨rfl, hg3⟩; have G3 := gt_trans G2 hg3 (.inl rfl); obtain ⟨x0, x1, x2, x3⟩ := HS.out _ G3)
      | (go_at_call 22; refine (HN.out _ G3).mono ?_; rintro e w5 ⟨k6, d6, p6, n6, c6, q6, m6, c7, rfl, hk5, hg5⟩; have G5 := gt_trans G3 hg5 (.inl rfl); have Hk5 := Lib.hid hk5; clear hk5)
      | (go_at_call 21; refine (HWr.out _ _ _ _ _ _ _ _ _ _ Hk5.out).mono ?_; rintro e w6 ⟨x6, rfl, hown, hg6⟩; have G6 := gt_trans G5 hg6 (.inl rfl); rw [HNN.out] at hown; have HB6 := Lib.hid (BIn.of_own hown); obtain ⟨p9, c9, hx9, hn9, _⟩ := own_form hown; clear hown; rw [← HNN.out] at hx9 hn9; subst hx9; have hBt := HB6.out.take a (by omega); obtain ⟨pd, nd, cd, hxd⟩ : ∃ pd nd cd, sliced p9 0 a c9 1 = .slice pd nd cd := ⟨_, _, _, rfl⟩; rw [hxd] at hBt; have HBt := Lib.hid hBt; have hsl : ∀ w, (Instr.slice 39 (.slice p9 N c9) none (some (.int .i64 a)) none).run Tryz.prog w = .ok (.slice pd nd cd) w := (fun w => by rw [run_slice_h _ _ _ _ _ Tryz.underlying39 .i64 a (by omega) (by omega), ← hxd]; rfl); clear hxd hBt)
      | (go_at_call 15; (first
          | ((with_reducible refine (HRd.out _ _ HB6.out).mono ?_); rintro e w7 ⟨⟨k9, d9, p9', n9, c9', q9, m9, c9'', rfl⟩, hg7⟩; have G7 := gt_trans G6 hg7 (.inl rfl); have HB7 := Lib.hid (HBt.out.mono hg7))
          | ((with_reducible refine (HRc2.out _ _ (HB7.out.mono (World.grownBy_alloc _ _ _))).mono ?_); rintro e w8 ⟨rfl, hg8⟩))))
    all_goals first
      | (go_ret; exact ⟨rfl, hg0⟩)
      | (go_ret; exact ⟨rfl, gt_trans (gt_trans HG1.out G7 (.inl rfl)) (gt_alloc_r (gt_trans (World.grownBy_alloc _ _ _) hg8 (.inl rfl)) _) (.inl rfl)⟩)
  · by_cases ha1 : at_ < 0
    · clear ha
      go_enter Tryz.func6, Tryz.ntmps6
      go_wp2_with (first
        | (go_at_call 19; refine (HZ.out _).mono ?_; rintro e w1 ⟨b1, rfl, _, hg⟩; rw [← HW1.out] at hg; obtain ⟨x0, x1, x2, x3⟩ := HS.out _ hg; have hg0 := gt_trans HG1.out hg (.inl rfl))
        | (go_at_call 20; refine (IS.out _ _ (gt_trans hg0 (World.grownBy_alloc _ _ _) (.inl rfl)) (by simp) (by simp) (by simp) (by simp)).mono ?_; rintro e w2 ⟨rfl, hg2⟩; have G2 := gt_trans hg (gt_trans (World.grownBy_alloc _ _ _) hg2 (.inl rfl)) (.inl rfl); obtain ⟨x0, x1, x2, x3⟩ := HS.out _ G2)
        | (go_at_call 17; refine (IA.out _ G2).mono ?_; rintro e w3 ⟨rfl, hg3⟩; have G3 := gt_trans G2 hg3 (.inl rfl); obtain ⟨x0, x1, x2, x3⟩ := HS.out _ G3)
        | (go_at_call 22; refine (HN.out _ G3).mono ?_; rintro e w5 ⟨k6, d6, p6, n6, c6, q6, m6, c7, rfl, hk5, hg5⟩; have G5 := gt_trans G3 hg5 (.inl rfl); have Hk5 := Lib.hid hk5; clear hk5)
        | (go_at_call 21; refine (HWr.out _ _ _ _ _ _ _ _ _ _ Hk5.out).mono ?_; rintro e w6 ⟨x6, rfl, hown, hg6⟩; have G6 := gt_trans G5 hg6 (.inl rfl); rw [HNN.out] at hown; have HB6 := Lib.hid (BIn.of_own hown); obtain ⟨p9, c9, hx9, hn9, _⟩ := own_form hown; clear hown; rw [← HNN.out] at hx9 hn9; subst hx9))
      all_goals first
        | (go_ret; exact ⟨rfl, hg0⟩)
        | (go_ret; exact ⟨rfl, gt_trans HG1.out G6 (.inl rfl)⟩)
    · have ha2 : (N : Int) ≤ at_ := by omega
      have ha3 : ¬ at_ < (N : Int) := by omega
      clear ha
      go_enter Tryz.func6, Tryz.ntmps6
      go_wp2_with (first
        | (go_at_call 19; refine (HZ.out _).mono ?_; rintro e w1 ⟨b1, rfl, _, hg⟩; rw [← HW1.out] at hg; obtain ⟨x0, x1, x2, x3⟩ := HS.out _ hg; have hg0 := gt_trans HG1.out hg (.inl rfl))
        | (go_at_call 20; refine (IS.out _ _ (gt_trans hg0 (World.grownBy_alloc _ _ _) (.inl rfl)) (by simp) (by simp) (by simp) (by simp)).mono ?_; rintro e w2 ⟨rfl, hg2⟩; have G2 := gt_trans hg (gt_trans (World.grownBy_alloc _ _ _) hg2 (.inl rfl)) (.inl rfl); obtain ⟨x0, x1, x2, x3⟩ := HS.out _ G2)
        | (go_at_call 17; refine (IA.out _ G2).mono ?_; rintro e w3 ⟨rfl, hg3⟩; have G3 := gt_trans G2 hg3 (.inl rfl); obtain ⟨x0, x1, x2, x3⟩ := HS.out _ G3)
        | (go_at_call 22; refine (HN.out _ G3).mono ?_; rintro e w5 ⟨k6, d6, p6, n6, c6, q6, m6, c7, rfl, hk5, hg5⟩; have G5 := gt_trans G3 hg5 (.inl rfl); have Hk5 := Lib.hid hk5; clear hk5)
        | (go_at_call 21; refine (HWr.out _ _ _ _ _ _ _ _ _ _ Hk5.out).mono ?_; rintro e w6 ⟨x6, rfl, hown, hg6⟩; have G6 := gt_trans G5 hg6 (.inl rfl); rw [HNN.out] at hown; have HB6 := Lib.hid (BIn.of_own hown); obtain ⟨p9, c9, hx9, hn9, _⟩ := own_form hown; clear hown; rw [← HNN.out] at hx9 hn9; subst hx9))
      all_goals first
        | (go_ret; exact ⟨rfl, hg0⟩)
        | (go_ret; exact ⟨rfl, gt_trans HG1.out G6 (.inl rfl)⟩)
end Go.Proofs.YtlpaecafpbbbkaaGreatDoor
