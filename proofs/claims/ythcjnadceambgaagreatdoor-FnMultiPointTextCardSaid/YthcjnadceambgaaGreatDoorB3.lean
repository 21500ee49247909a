/- The package's text of a line string: its methods. -/
import Derived.Test.YthcjnadceambgaaGreatDoorB2
namespace Go.Proofs.YthcjnadceambgaaGreatDoor
open Go.RowKit

/-- The text behind a line string's name and tag; c is what stands ahead of it. -/
noncomputable def lineB (T : Nat → Int) (c : UInt8) (r n : Nat) (f : Nat → Nat) : List UInt8 := if n / widN r = 0 then wE c else [40] ++ wSeq T false r f (n / widN r) ++ [41]
theorem wE_len (c : UInt8) : (wE c).length ≤ 6 := by unfold wE EMPTY; split <;> decide
theorem lineB_len (T : Nat → Int) (c : UInt8) (r n : Nat) (f : Nat → Nat) (hn : n ≤ 2000) : (lineB T c r n f).length ≤ 32012008 := by
  have h := wSeq_len T false r f (n / widN r)
  have h1 := wE_len c
  have h2 : n / widN r ≤ 2000 := Nat.le_trans (Nat.div_le_self _ _) hn
  unfold lineB
  split
  · omega
  · simp only [List.length_append, List.length_cons, List.length_nil]; omega

set_option maxRecDepth 100000 in
set_option maxHeartbeats 1000000 in
theorem LineIsEmpty_any (r n : Nat) (hr : r < 4) (a : Option Addr) (hn : n ≤ 2000) (W : World) :
    Calls Tryz.prog 142 #[.agg #[.int .u8 r, .slice a n n]] W fun e w' => e = .returned (.bool (((n / widN r : Nat) : Int) == 0)) ∧ W.grownBy w' none := by
  have HL := Lib.hid (fun w => Length_any r n hr a n hn w)
  have HG := Lib.hid (World.grownBy_alloc W (.cells #[.int .u8 r, .slice a n n] 45) none)
  generalize n / widN r = L at HL ⊢
  go_enter Tryz.func142, Tryz.ntmps142
  go_wp2_with (first | (go_at_call 69; refine (HL.out _).mono ?_; rintro e w' ⟨rfl, hg⟩))
  go_ret
  exact ⟨rfl, gt_trans HG.out hg (.inl rfl)⟩

set_option maxRecDepth 100000 in
set_option maxHeartbeats 1000000 in
theorem LineBody_any (T : Nat → Int) (hT : ∀ i, U64 (T i)) (r n : Nat) (a : Addr) (f : Nat → Nat) (hr : r < 4) (hn : n ≤ 2000) (l' : List UInt8) (c : UInt8)
    (base : Nat) (v : Value) (l : List UInt8) (hl' : l = l' ++ [c]) (W : World) (hf : FVal W (some a) n f) (hab : a.block < base) (hown : W.ownsRow base 5 1 v l.length (Bs l)) (hbase : base ≤ W.heap.size) (hl : l.length ≤ 35000000000000) (ht : Tabs T W) (hg3 : 3 < base) (hg2 : 2 < base) :
    Calls Tryz.prog 117 #[.agg #[.int .u8 r, .slice (some a) n n], v] W (AppEnd 5 base W v (l ++ lineB T c r n f)) := by
  have HG := Lib.hid (World.grownBy_alloc W (.cells #[.int .u8 r, .slice (some a) n n] 45) none)
  have HO := Lib.hid hown
  have HC : Hid (∀ W', (W.alloc (.cells #[.int .u8 r, .slice (some a) n n] 45)).grownBy W' none → W'.cell? ⟨W.heap.size, 0, none⟩ = some (.int .u8 r) ∧ W'.cell? ⟨W.heap.size, 1, none⟩ = some (.slice (some a) n n)) := fun W' g => ⟨g.cell (by simp) (by simp), g.cell (by simp) (by simp)⟩
  have HIE := Lib.hid (fun w => LineIsEmpty_any r n hr (some a) hn w)
  have HE := Lib.hid (fun w (h : w.ownsRow base 5 1 v l.length (Bs l)) (hb : base ≤ w.heap.size) => appendWKTEmpty_any l' c base v l hl' w h hb hl)
  have HS := Lib.hid (fun w (hf : FVal w (some a) n f) (h : w.ownsRow base 5 1 v l.length (Bs l)) (hb : base ≤ w.heap.size) (ht : Tabs T w) => appendWKTSequence_any T hT r n a f false hr hn base v l w hf hab h hb hl ht hg3 hg2)
  have hfin : Hid (∀ s W1 W' v', W.grownBy W1 none → AppB 5 base W1 v W' v' s → AppEnd 5 base W v s (.returned v') W') := fun s W1 W' v' g h => ⟨v', rfl, AppB.later HO.out g h⟩
  have HF := Lib.hid (fun w (g : W.grownBy w none) => hf.mono g)
  have HT := Lib.hid (fun w (g : W.grownBy w none) => ht.mono g (by simp) (by simp))
  have HB : Hid (∀ w, W.grownBy w none → base ≤ w.heap.size) := fun w g => Nat.le_trans hbase g.size
  clear hf ht hown
  by_cases hL : n / widN r = 0
  · have e : lineB T c r n f = wE c := by unfold lineB; rw [if_pos hL]
    rw [e]
    have hb : (((n / widN r : Nat) : Int) == 0) = true := by rw [hL]; rfl
    rw [hb] at HIE
    clear e hb hL
    go_enter Tryz.func117, Tryz.ntmps117
    go_wp2_with (first
      | (go_at_call 142; refine (HIE.out _).mono ?_; rintro e w' ⟨rfl, hg⟩; have G := gt_trans HG.out hg (.inl rfl); obtain ⟨k0, k1⟩ := HC.out _ hg)
      | (go_at_call 120; refine (HE.out _ (own_later HO.out G) (HB.out _ G)).mono ?_; rintro e w2 ⟨v', rfl, H⟩))
    go_ret
    exact hfin.out _ _ _ _ G H
  · have e : lineB T c r n f = [40] ++ wSeq T false r f (n / widN r) ++ [41] := by unfold lineB; rw [if_neg hL]
    rw [e]
    have hb : (((n / widN r : Nat) : Int) == 0) = false := by simp only [beq_eq_false_iff_ne]; omega
    rw [hb] at HIE
    clear e hb hL
    go_enter Tryz.func117, Tryz.ntmps117
    go_wp2_with (first
      | (go_at_call 142; refine (HIE.out _).mono ?_; rintro e w' ⟨rfl, hg⟩; have G := gt_trans HG.out hg (.inl rfl); obtain ⟨k0, k1⟩ := HC.out _ hg)
      | (go_at_call 143; refine (HS.out _ (HF.out _ G) (own_later HO.out G) (HB.out _ G) (HT.out _ G)).mono ?_; rintro e w2 ⟨v', rfl, H⟩))
    go_ret
    have H1 : AppB 5 base w' v w2 v' (l ++ ([40] ++ wSeq T false r f (n / widN r) ++ [41])) := by simpa only [List.append_assoc] using H
    exact hfin.out _ _ _ _ G H1

theorem tag_last (name : List UInt8) (c0 : UInt8) (r : Nat) (hr : r < 4) : ∃ l', (name ++ [c0]) ++ tag r = l' ++ [if r = 0 then c0 else 32] := by
  rcases (by omega : r = 0 ∨ r = 1 ∨ r = 2 ∨ r = 3) with rfl | rfl | rfl | rfl
  · exact ⟨name, by simp [tag]⟩
  · exact ⟨name ++ [c0] ++ [32, 90], by simp [tag]⟩
  · exact ⟨name ++ [c0] ++ [32, 77], by simp [tag]⟩
  · exact ⟨name ++ [c0] ++ [32, 90, 77], by simp [tag]⟩
def nLINE : List UInt8 := [76, 73, 78, 69, 83, 84, 82, 73, 78, 71]
noncomputable def lineW (T : Nat → Int) (r n : Nat) (f : Nat → Nat) : List UInt8 := nLINE ++ tag r ++ lineB T (if r = 0 then 71 else 32) r n f
theorem tag_len (r : Nat) : (tag r).length ≤ 4 := by
  match r with
  | 0 => decide
  | 1 => decide
  | 2 => decide
  | n + 3 => simp [tag]
theorem lineW_len (T : Nat → Int) (r n : Nat) (f : Nat → Nat) (hn : n ≤ 2000) : (lineW T r n f).length ≤ 32012100 := by
  have h := lineB_len T (if r = 0 then 71 else 32) r n f hn
  have h1 := tag_len r
  unfold lineW nLINE
  simp only [List.length_append, List.length_cons, List.length_nil]; omega

set_option maxRecDepth 100000 in
set_option maxHeartbeats 1000000 in
theorem LineCT_any (r : Nat) (y : Value) (hy : ∃ p n c, y = .slice p n c) (W : World) :
    Calls Tryz.prog 100 #[.agg #[.int .u8 r, y]] W fun e w' => e = .returned (.int .u8 r) ∧ W.grownBy w' none := by
  obtain ⟨p, n, c, rfl⟩ := hy
  go_enter Tryz.func100, Tryz.ntmps100
  go_wp2_with go_in
  go_ret
  exact ⟨rfl, gt_alloc_r (World.grownBy_alloc _ _ _) _⟩

set_option maxRecDepth 100000 in
set_option maxHeartbeats 2000000 in
theorem LineAppendWKT_nil (T : Nat → Int) (hT : ∀ i, U64 (T i)) (r n : Nat) (a : Addr) (f : Nat → Nat) (hr : r < 4) (hn : n ≤ 2000) (W : World) (hf : FVal W (some a) n f) (hab : a.block < W.heap.size) (ht : Tabs T W) :
    Calls Tryz.prog 57 #[.agg #[.int .u8 r, .slice (some a) n n], .slice none 0 0] W (AppEnd 5 W.heap.size W (.slice none 0 0) (lineW T r n f)) := by
  have hg3 := ht.lt3
  have hg2 := ht.lt2
  have HG := Lib.hid (World.grownBy_alloc W (.cells #[.int .u8 r, .slice (some a) n n] 45) none)
  have HC : Hid (∀ W', (W.alloc (.cells #[.int .u8 r, .slice (some a) n n] 45)).grownBy W' none → W'.cell? ⟨W.heap.size, 0, none⟩ = some (.int .u8 r) ∧ W'.cell? ⟨W.heap.size, 1, none⟩ = some (.slice (some a) n n)) := fun W' g => ⟨g.cell (by simp) (by simp), g.cell (by simp) (by simp)⟩
  have HCT := Lib.hid (fun w => LineCT_any r (.slice (some a) n n) ⟨_, _, _, rfl⟩ w)
  have HH := Lib.hid (fun w (h : w.ownsRow W.heap.size 5 1 (.slice none 0 0) ([] : List UInt8).length (Bs [])) (hb : W.heap.size ≤ w.heap.size) => appendWKTHeader_any nLINE r hr (by decide) W.heap.size (.slice none 0 0) [] w h hb (by simp))
  obtain ⟨l', hl'⟩ := tag_last [76, 73, 78, 69, 83, 84, 82, 73, 78] 71 r hr
  have HBd := Lib.hid (fun w v (hf : FVal w (some a) n f) (h : w.ownsRow W.heap.size 5 1 v (nLINE ++ tag r).length (Bs (nLINE ++ tag r))) (hb : W.heap.size ≤ w.heap.size) (ht : Tabs T w) => LineBody_any T hT r n a f hr hn l' (if r = 0 then 71 else 32) W.heap.size v (nLINE ++ tag r) hl' w hf hab h hb (by have := tag_len r; simp only [nLINE, List.length_append, List.length_cons, List.length_nil]; omega) ht hg3 hg2)
  have HF := Lib.hid (fun w (g : W.grownBy w none) => hf.mono g)
  have HT := Lib.hid (fun w (g : W.grownBy w none) => ht.mono g (by simp) (by simp))
  have hfin : Hid (∀ s W1 W' v', W.grownBy W1 none → AppB 5 W.heap.size W1 (.slice none 0 0) W' v' s → AppEnd 5 W.heap.size W (.slice none 0 0) s (.returned v') W') := fun s W1 W' v' g h => ⟨v', rfl, AppB.later (l := []) (World.ownsRow_nil _ _ _ _) g h⟩
  have HW : lineW T r n f = nLINE ++ tag r ++ lineB T (if r = 0 then 71 else 32) r n f := rfl
  rw [HW]
  generalize (if r = 0 then (71 : UInt8) else 32) = cc at HBd ⊢
  generalize lineB T cc r n f = LB at HBd ⊢
  generalize tag r = tg at HH HBd ⊢
  clear hf ht HW hl'
  go_enter Tryz.func57, Tryz.ntmps57
  go_wp2_with (first
    | (go_at_call 100; refine (HCT.out _).mono ?_; rintro e w' ⟨rfl, hg⟩; have G := gt_trans HG.out hg (.inl rfl); obtain ⟨k0, k1⟩ := HC.out _ hg)
    | (go_at_call 116; refine (HH.out _ (World.ownsRow_nil _ _ _ _) G.size).mono ?_; rintro e w2 ⟨v', rfl, H⟩; clear k0 k1; obtain ⟨k0, k1⟩ := HC.out _ (gt_trans hg H.grown (.inl rfl)); have G2 := gt_trans G H.grown (.inl rfl))
    | (go_at_call 117; refine (HBd.out _ _ (HF.out _ G2) H.own G2.size (HT.out _ G2)).mono ?_; rintro e w3 ⟨v3, rfl, H3⟩; have H4 := H.trans H3))
  go_ret
  exact hfin.out _ _ _ _ G H4
end Go.Proofs.YthcjnadceambgaaGreatDoor
