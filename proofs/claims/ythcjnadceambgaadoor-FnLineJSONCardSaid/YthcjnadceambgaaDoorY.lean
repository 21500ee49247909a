/- The reference's GeoJSON of a line string, out of its numbers. -/
import Derived.Test.YthcjnadceambgaaDoorX
namespace Go.Proofs.YthcjnadceambgaaDoor
open Go.RowKit

theorem own_at4 {w : World} {base n c : Nat} {e : TypeId} {p : Option Addr} {xs : List Value} (h : w.ownsRow base e 4 (.slice p n c) n xs) : (0 < n → ∃ a, p = some a) ∧ ∀ a, p = some a → ∀ i j v, xs[i * 4 + j]? = some v → w.cell? (if j = 0 then a.add (i * 4) else ⟨(a.add (i * 4)).block, (a.add (i * 4)).off + j, none⟩) = some v := by
  refine ⟨fun hn => ?_, fun a ha i j v hv => ?_⟩
  · rcases h.2 with h' | ⟨g, cap, cur, hv, _⟩
    · omega
    · injection hv with h1; exact ⟨_, h1⟩
  · rcases h.2 with h' | ⟨g, cap, cur, hv', _⟩
    · have := h'.1; rw [ha] at this; cases this
    · injection hv' with h1 h2 h3
      subst h3
      rw [h1] at ha h
      injection ha with ha
      subst ha
      have hc := h.cells (g := g) rfl (i * 4 + j) v hv
      have hadd : ∀ k, (⟨g, 0, none⟩ : Addr).add k = ⟨g, 0 + k, none⟩ := fun k => by unfold Addr.add; split <;> simp_all
      rw [hadd] at hc
      rw [hadd]
      split
      · next h0 => subst h0; exact hc
      · have e : 0 + (i * 4 + j) = 0 + i * 4 + j := by omega
        rw [e] at hc
        exact hc
theorem AppV.prow {e base : Nat} {w0 w : World} {v0 : Value} {p : Option Addr} {n c r : Nat} {f : Nat → Nat} (h : AppV e 4 base w0 v0 w (.slice p n c) n (pCells r f n)) : PRow w p n (plX r f) (plY r f) (plZ r f) (plM r f) := by
  obtain ⟨h1, h2⟩ := own_at4 h.own
  refine ⟨h1, fun a ha i hi => ⟨?_, ?_, ?_, ?_⟩⟩
  · exact h2 a ha i 0 _ ((pCells_at r f n i hi 0 (by omega)).trans rfl)
  · exact h2 a ha i 1 _ ((pCells_at r f n i hi 1 (by omega)).trans rfl)
  · exact h2 a ha i 2 _ ((pCells_at r f n i hi 2 (by omega)).trans rfl)
  · exact h2 a ha i 3 _ ((pCells_at r f n i hi 3 (by omega)).trans rfl)

theorem Places_any (r : Nat) (hr : r < 4) (p : Option Addr) (n cap : Nat) (f : Nat → Nat) (hn : n ≤ 2000) (W : World) (hf : FVal W p n f) :
    Calls Tryd.prog 36 #[.slice p n cap, .int .i64 r] W fun e w' => ∃ v, e = .returned v ∧ AppV 74 4 W.heap.size W (.slice none 0 0) w' v (n / widN r) (pCells r f (n / widN r)) := by
  rcases (by omega : r = 0 ∨ r = 1 ∨ r = 2 ∨ r = 3) with rfl | rfl | rfl | rfl
  · exact Places_0 p n cap f hn W hf
  · exact Places_1 p n cap f hn W hf
  · exact Places_2 p n cap f hn W hf
  · exact Places_3 p n cap f hn W hf

theorem seqTo_cTo (T : Nat → Int) (r : Nat) (f : Nat → Nat) : ∀ k, seqTo T r f k = cTo (fun i => jsonPl T (plX r f i) (plY r f i) (plZ r f i) r) k
  | 0 => rfl
  | k + 1 => by unfold seqTo cTo; rw [seqTo_cTo T r f k]

set_option maxRecDepth 100000 in
set_option maxHeartbeats 2000000 in
theorem jsonBody_2 (T : Nat → Int) (hT : ∀ i, U64 (T i)) (r n : Nat) (hr : r < 4) (hn : n ≤ 2000) (p : Option Addr) (cap : Nat) (f : Nat → Nat) (W : World) (hf : FVal W p n f) (ht : Tabs T W) :
    Calls Tryd.prog 22 #[.agg #[.int .i64 2, .int .i64 r, .slice p n cap, .slice none 0 0]] W fun e w' => e = .returned (.string ⟨([91] ++ seqTo T r f (n / widN r) ++ [93]).toArray⟩) ∧ W.grownBy w' none := by
  have hsf := run_store_flt Tryd.prog
  have HB := World.grownBy_alloc W (.cells #[.int .i64 2, .int .i64 r, .slice p n cap, .slice none 0 0] 31) none
  have HBX : Hid (∀ W', (W.alloc (.cells #[.int .i64 2, .int .i64 r, .slice p n cap, .slice none 0 0] 31)).grownBy W' none → W'.cell? ⟨W.heap.size, 1, none⟩ = some (.int .i64 r) ∧ W'.cell? ⟨W.heap.size, 3, none⟩ = some (.slice none 0 0)) := fun W' g => ⟨g.cell (by simp) (by simp), g.cell (by simp) (by simp)⟩
  have HPl := Lib.hid (fun w (g : W.grownBy w none) => Places_any r hr p n cap f hn w (hf.mono g))
  have HW := Lib.hid (fun i w (g : W.grownBy w none) => jsonPlace_any T hT (plX r f i) (plY r f i) (plZ r f i) (plM r f i) r (hf.lt _) (hf.lt _) (by unfold plZ; split; exact hf.lt _; omega) hr w (ht.mono g (by simp) (by simp)))
  have hL : n / widN r ≤ 2000 := Nat.le_trans (Nat.div_le_self _ _) hn
  have HL := Lib.hid (fun p cap w (h : SRow w p (n / widN r) (fun i => jsonPl T (plX r f i) (plY r f i) (plZ r f i) r)) => jsonList_any p (n / widN r) cap _ (by rw [← seqTo_cTo]; have := seqTo_len T r f (n / widN r); omega) hL w h)
  obtain ⟨J, hJ⟩ : ∃ J : ByteArray, J = ⟨([91] ++ seqTo T r f (n / widN r) ++ [93]).toArray⟩ := ⟨_, rfl⟩
  rw [← seqTo_cTo, ← hJ] at HL
  rw [← hJ]
  obtain ⟨s, hs⟩ : ∃ s : Nat → List UInt8, s = fun i => jsonPl T (plX r f i) (plY r f i) (plZ r f i) r := ⟨_, rfl⟩
  have hs' : ∀ i, jsonPl T (plX r f i) (plY r f i) (plZ r f i) r = s i := fun i => by rw [hs]
  simp only [hs'] at HW
  rw [← hs] at HL
  generalize n / widN r = c at HPl HL hL
  clear hJ hs hs' hf ht
  go_enter Tryd.func22, Tryd.ntmps22
  go_wp2_with (first
    | (go_at_call 36; refine (HPl.out _ HB).mono ?_; rintro e w' ⟨v, rfl, hv⟩; obtain ⟨pp, cc, rfl⟩ := hv.slice))
  have hprow := hv.prow
  have HGN := Lib.hid (gt_trans HB hv.grown0 (.inl rfl))
  have HBN : Hid (∀ w2, w'.grownBy w2 none → w2.cell? ⟨W.heap.size, 1, none⟩ = some (.int .i64 r) ∧ w2.cell? ⟨W.heap.size, 3, none⟩ = some (.slice none 0 0)) := fun w2 g => HBX.out w2 (gt_trans hv.grown0 g (.inl rfl))
  have hz0 : W.heap.size < w'.heap.size := by have := hv.grown0.size; simp at this; omega
  clear hv HBX
  go_loopw [5, 34] (fun x i wr => ∃ k : Nat, k ≤ c ∧ i = .int .i64 k ∧ AppV 9 1 w'.heap.size w' (.slice none 0 0) wr x k (sCells s k)) (fun _ i _ => c - (intOf i).toNat)
  case atStart => exact ⟨0, by omega, rfl, AppV.nil _ _ _ _⟩
  case round =>
    obtain ⟨k, hk, rfl, H⟩ := hrel
    rename World => wr
    obtain ⟨x1, x3⟩ := HBN.out wr H.grown0
    have hz : W.heap.size < wr.heap.size := Nat.lt_of_lt_of_le hz0 H.grown0.size
    by_cases hkn : k < c
    · obtain ⟨a, rfl⟩ := hprow.some_ (by omega)
      obtain ⟨q0, q1, q2, q3⟩ := (hprow.mono H.grown0).at_ a rfl k hkn
      have HWk := Lib.hid (HW.out k)
      have HF : Hid (∀ w2, Below wr.heap.size wr w2 → W.grownBy w2 none) := fun w2 g => gt_trans HGN.out (gt_trans H.grown0 (gt_below g none) (.inl rfl)) (.inl rfl)
      have HH : Hid (∀ w2 w3, Below wr.heap.size wr w2 → w2.grownBy w3 none → AppV 9 1 w'.heap.size w' (.slice none 0 0) w3 u5 k (sCells s k)) := fun w2 w3 g g3 => H.beside (gt_trans (gt_below g none) g3 (.inl rfl))
      clear H
      go_wp2_with (first
        | (go_at_call 37; refine (HWk.out _ (HF.out _ (by go_grown))).mono ?_; rintro e w'' ⟨rfl, hb⟩; have H := HH.out _ _ (by go_grown) hb)
        | (at_builtin; refine app_cells rfl _ _ _ rfl Tryd.underlying76 (.string ⟨#[]⟩) 16 infoS rfl (by omega) H rfl rfl (by first | rfl | simp) _ (by first | rfl | simp) (by simp [Value.oneCell']) (Nat.le_refl _) (by omega) (by omega) ?_; intro v1 w1 H1; clear H; have H := H1; clear H1))
      refine ⟨⟨k + 1, by omega, by go_num, ?_⟩, by simp [intOf]; omega⟩
      rw [sCells_succ]
      exact H
    · obtain rfl : k = c := by omega
      obtain ⟨p2, c2, rfl⟩ := H.slice
      have HLk := Lib.hid (HL.out p2 c2 wr H.srow)
      go_wp2_with fail
      go_wp2_with fail
      refine wp_loop_rounds 1 ?_
      rw [rounds_succ]
      go_wp2_with fail
      go_wp2_with (go_at_call 38; refine HLk.out.mono ?_; rintro e w'' ⟨rfl, rfl⟩)
      go_ret
      exact ⟨rfl, gt_trans HGN.out H.grown0 (.inl rfl)⟩
end Go.Proofs.YthcjnadceambgaaDoor
