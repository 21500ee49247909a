/- The package's texts of its containers. FnMultiPolygonText: the package's side. -/
import Derived.Test.YthcjnadceambgaaGreatDoorTPT21
namespace Go.Proofs.YthcjnadceambgaaGreatDoor
open Go.RowKit

set_option maxRecDepth 100000 in
set_option maxHeartbeats 400000 in
theorem PgIsEmpty_any (p : Option Addr) (n c r : Nat) (W : World) : Calls Tryz.prog 147 #[.agg #[.slice p n c, .int .u8 r]] W fun e w' => e = .returned (.bool ((n : Int) == 0)) ∧ W.grownBy w' none := by
  go_enter Tryz.func147, Tryz.ntmps147
  go_wp2_with fail
  go_ret
  exact ⟨rfl, World.grownBy_alloc _ _ _⟩
set_option maxRecDepth 100000 in
set_option maxHeartbeats 4000000 in
theorem PgBody_of {D : (Nat → Prop) → World → Value → Raw → Prop} (K : DK D) (hfm : ∀ {B : Nat → Prop} {W : World} {v : Value} {t : Raw}, D B W v t → ∃ (r : Nat) (p : Option Addr) (n c : Nat), v = .agg #[.int .u8 r, .slice p n c]) (T : Nat → Int) (HE : IC D 117 T (itemT T false)) : JC (DNode 3 D) 122 T := by
  intro B W v t l' ch base vv hd hok hown hbs hl hB
  obtain ⟨r, f, kids, p, c, rfl, hr, rfl, hc1, hc2, hrow⟩ := hd
  obtain ⟨n, hn⟩ : ∃ n, kids.length = n := ⟨_, rfl⟩
  have hn2 : n ≤ 2000 := by rw [← hn]; unfold okT at hok; exact hok.2.1
  have hoks : okTs kids := by unfold okT at hok; exact hok.2.2
  rw [pl_node0] at hl
  have hbase := hbs.le
  have HO := Lib.hid hown
  have HG := Lib.hid (World.grownBy_alloc W (.cells #[.slice p n c, .int .u8 r] 76) none)
  obtain ⟨W1, hW1⟩ : ∃ W1, W1 = W.alloc (.cells #[.slice p n c, .int .u8 r] 76) := ⟨_, rfl⟩
  have HW1 := Lib.hid hW1
  have HG1 : W.grownBy W1 none := by rw [hW1]; exact HG.out
  have hs1 : W1.heap.size = W.heap.size + 1 := by rw [hW1]; simp
  have H0 : AppB 5 base W1 vv W1 vv (l' ++ [ch]) := AppB.start (own_later hown HG1)
  have HC : Hid (∀ w v' l1, AppB 5 base W1 vv w v' l1 → w.cell? ⟨W.heap.size, 0, none⟩ = some (.slice p n c) ∧ w.cell? ⟨W.heap.size, 1, none⟩ = some (.int .u8 r)) := fun w v' l1 H => by
    have hne : vv.ownBlock ≠ some W.heap.size := fun e => by have := (hown.lt _ e).2; omega
    exact ⟨(H.cell (a := ⟨W.heap.size, 0, none⟩) (by show W.heap.size < _; omega) hne).trans (by rw [hW1]; simp), (H.cell (a := ⟨W.heap.size, 1, none⟩) (by show W.heap.size < _; omega) hne).trans (by rw [hW1]; simp)⟩
  have hob : ∀ b, vv.ownBlock = some b → base ≤ b := fun b e => (hown.lt b e).1
  have HKp : Hid (∀ w v' l1, AppB 5 base W1 vv w v' l1 → Kept B W w) := fun w v' l1 H => (Kept.grown HG1).trans (.grownRow H.grown (fun b e hb => by have := hob b e; have := hB b hb; omega))
  have HBs : Hid (∀ w v' l1, AppB 5 base W1 vv w v' l1 → Bsd T base w) := fun w v' l1 H => (hbs.mono HG1 (fun b e => by cases e)).mono H.grown hob
  have hb1 : base ≤ W1.heap.size := by omega
  have HFM : Hid (∀ (B : Nat → Prop) (W : World) (v : Value) (t : Raw), D B W v t → ∃ (r : Nat) (p : Option Addr) (n c : Nat), v = .agg #[.int .u8 r, .slice p n c]) := fun B W v t h => hfm h
  obtain ⟨P, hP⟩ : ∃ P, P = 16100 * pls kids := ⟨_, rfl⟩
  obtain ⟨S, hS⟩ : ∃ S : Nat → List UInt8, S = jS T false kids := ⟨_, rfl⟩
  have HRow : Hid (∀ w, Kept B W w → ∀ k, k < n → ∃ t a c0 c1, kids[k]? = some t ∧ p = some a ∧ w.cell? (a.add (k * 2)) = some c0 ∧ w.cell? ⟨(a.add (k * 2)).block, (a.add (k * 2)).off + 1, none⟩ = some c1 ∧ D B W (.agg #[c0, c1]) t ∧ (S k).length + 16100 * pl t ≤ P ∧ S (k + 1) = S k ++ (if 0 < k then [44] else []) ++ itemT T false t) := fun w g k hk => by
    obtain ⟨a, ha⟩ := hrow.1 (by omega)
    obtain ⟨hba, h2⟩ := hrow.2 a ha
    have hi : kids[k]? = some (kids[k]'(by omega)) := List.getElem?_eq_getElem (by omega)
    obtain ⟨c0, c1, h0, h1, hd⟩ := h2 k _ hi
    refine ⟨_, a, c0, c1, hi, ha, g _ _ (by rw [add_block]; exact hba) h0, g _ _ (by show B (a.add (k * 2)).block; rw [add_block]; exact hba) h1, hd, ?_, by rw [hS]; exact jS_succ T false kids k _ hi⟩
    have h3 := jS_len T false kids k
    have h4 := pls_tk kids k _ hi
    have h5 := pls_tk_le kids (k + 1)
    rw [hS, hP]
    omega
  have HIt : Hid (∀ w l1 cc v' cv k t, kids[k]? = some t → D B W cv t → Kept B W w → SepC cc → w.ownsRow base 5 1 v' (l1 ++ [cc]).length (Bs (l1 ++ [cc])) → Bsd T base w → (l1 ++ [cc]).length + 16100 * pl t ≤ 35000000000000 → Calls Tryz.prog 117 #[cv, v'] w (AppEnd 5 base w v' (l1 ++ [cc] ++ itemT T false t))) := fun w l1 cc v' cv k t hi hd g hc ho hbs hl => HE B w cv t l1 cc base v' (K.keep g hd) (okTs_mem hoks hi) hc ho hbs hl hB
  have HSl : Hid (∀ k, (S k).length ≤ P) := fun k => by
    have h3 := jS_len T false kids k
    have h5 := pls_tk_le kids k
    rw [hS, hP]; omega
  have hSn := HSl.out n
  have hS0 : S 0 = [] := by rw [hS]; exact jS_zero T false kids
  have HIE := Lib.hid (fun w => PgIsEmpty_any p n c r w)
  have HE0 := Lib.hid (fun w v' (h : w.ownsRow base 5 1 v' (l' ++ [ch]).length (Bs (l' ++ [ch]))) (hb : base ≤ w.heap.size) => appendWKTEmpty_any l' ch base v' (l' ++ [ch]) rfl w h hb (by omega))
  by_cases hn0 : n = 0
  · have hkn : kids = [] := List.eq_nil_of_length_eq_zero (by omega)
    have hfin : Hid (∀ w' v', AppB 5 base W1 vv w' v' (l' ++ [ch] ++ wE ch) → AppEnd 5 base W vv (l' ++ [ch] ++ bodyC T ch (.mk 3 (r : Nat) 0 f kids)) (.returned v') w') := fun w' v' H => by
      refine ⟨v', rfl, AppB.later HO.out HG1 ?_⟩
      have e : bodyC T ch (.mk 3 (r : Nat) 0 f []) = wE ch := by rw [bodyC_eq, Int.toNat_natCast, plTs_zero]; unfold bodyTs; rw [if_pos (by rfl)]
      rw [hkn, e]
      exact H
    have hb : ((n : Int) == 0) = true := by rw [hn0]; rfl
    rw [hb] at HIE
    generalize wE ch = we at HE0 hfin
    clear hrow hown hbs hok hoks hS hP HE hfm hkn hn0 HIt HRow hSn hS0 hb
    go_enter Tryz.func122, Tryz.ntmps122
    go_wp2_with (first
      | (go_at_call 147; rw [← HW1.out]; refine (HIE.out _).mono ?_; rintro e w2 ⟨rfl, hg⟩; have H := H0.beside hg; obtain ⟨k0, k1⟩ := HC.out _ _ _ H)
      | (go_at_call 120; refine (HE0.out _ _ H.own (H.based hb1)).mono ?_; rintro e w3 ⟨v3, rfl, H3⟩; have H4 := H.trans H3))
    go_ret
    exact hfin.out _ _ H4
  · have hb : ((n : Int) == 0) = false := by rw [beq_eq_false_iff_ne]; omega
    rw [hb] at HIE
    obtain ⟨HD, hHD⟩ : ∃ HD, HD = l' ++ [ch] := ⟨_, rfl⟩
    have hfin : Hid (∀ w' v', AppB 5 base W1 vv w' v' (HD ++ [40] ++ S n ++ [41]) → AppEnd 5 base W vv (l' ++ [ch] ++ bodyC T ch (.mk 3 (r : Nat) 0 f kids)) (.returned v') w') := fun w' v' H => by
      refine ⟨v', rfl, AppB.later HO.out HG1 ?_⟩
      have e : bodyC T ch (.mk 3 (r : Nat) 0 f kids) = bodyT T (.mk 3 (r : Nat) 0 f kids) := by
        have h9 := bodyTs_len T (decide ((3 : Int) = 0)) kids
        rw [bodyC_eq]; unfold bodyT; rw [Int.toNat_natCast, plTs_zero, if_neg (fun e => by rw [List.nil_append] at e; rw [e] at h9; simp at h9; omega)]
      rw [e, node_body T 3 r f kids (by omega), hn, show decide ((3 : Int) = 0) = false from rfl, ← hS]
      rw [hHD] at H
      simpa only [List.append_assoc] using H
    rw [← hHD] at H0 hl
    have HCl := Lib.hid hl
    clear hrow hown hbs hok hoks hS HE hfm HE0 hHD hb
    have hPl : HD.length + P + 16000 ≤ 35000000000000 := by have := HCl.out; omega
    clear hP hl
    go_enter Tryz.func122, Tryz.ntmps122
    go_wp2_with (first
      | (go_at_call 147; rw [← HW1.out]; refine (HIE.out _).mono ?_; rintro e w2 ⟨rfl, hg⟩; have H := H0.beside hg; obtain ⟨k0, k1⟩ := HC.out _ _ _ H)
      | (at_builtin; refine app_byte rfl _ _ _ rfl Tryz.underlying33 infoB H rfl _ 40 rfl rfl (by first | rfl | simp) hb1 (by (try simp only [List.length_append, List.length_cons, List.length_nil]); omega) ?_; intro v1 w1 H1; clear H k0 k1; have H := H1; clear H1; obtain ⟨k0, k1⟩ := HC.out _ _ _ H))
    go_loopw [1, 17] (fun x i wr => ∃ k : Nat, k ≤ n ∧ i = .int .i64 k ∧ AppB 5 base W1 vv wr x (HD ++ [40] ++ S k ++ (if 0 < k ∧ k < n then [44] else []))) (fun _ i _ => n - (intOf i).toNat)
    case atStart => exact ⟨0, by omega, rfl, by rw [hS0, List.append_nil, if_neg (by omega), List.append_nil]; exact H⟩
    case round =>
      clear H k0 k1
      obtain ⟨k, hk, rfl, H⟩ := hrel
      rename World => wr
      obtain ⟨k0, k1⟩ := HC.out _ _ _ H
      by_cases hkL : k < n
      · obtain ⟨t, a, c0, c1, hti, rfl, q0, q1, hd, hpl, hsc⟩ := HRow.out wr (HKp.out _ _ _ H) k hkL
        have HI1 := Lib.hid (fun w l1 cc v' g hc ho hbs hl => HIt.out w l1 cc v' _ k t hti hd g hc ho hbs hl)
        obtain ⟨er, ep, en, ec, he⟩ := HFM.out _ _ _ _ hd
        simp only [Value.agg.injEq, Array.mk.injEq, List.cons.injEq, and_true] at he
        obtain ⟨rfl, rfl⟩ := he
        have HSc := Lib.hid hsc
        generalize itemT T false t = it at HI1 HSc
        generalize pl t = plt at HI1 hpl
        clear hti hd hsc
        obtain ⟨X, cc, hX, hcc, hXl, hXs⟩ : ∃ X cc, HD ++ [40] ++ S k ++ (if 0 < k ∧ k < n then [44] else []) = X ++ [cc] ∧ SepC cc ∧ (X ++ [cc]).length ≤ HD.length + 2 + (S k).length ∧ X ++ [cc] ++ it = HD ++ [40] ++ S (k + 1) := by
          by_cases hk0 : 0 < k
          · refine ⟨HD ++ [40] ++ S k, 44, by rw [if_pos ⟨hk0, hkL⟩], .inr (.inl rfl), by simp only [List.length_append, List.length_cons, List.length_nil]; omega, by rw [HSc.out, if_pos hk0]; simp only [List.append_assoc]⟩
          · have hSk : S k = [] := by rw [show k = 0 by omega]; exact hS0
            refine ⟨HD, 40, by rw [if_neg (fun h => hk0 h.1), hSk, List.append_nil, List.append_nil], .inl rfl, by simp only [List.length_append, List.length_cons, List.length_nil]; omega, by rw [HSc.out, if_neg hk0, hSk]; simp only [List.append_assoc, List.nil_append]⟩
        rw [hX] at H
        have HXs := Lib.hid hXs
        clear hX hXs
        have HIc : Hid (SepC cc) := hcc
        clear hcc
        by_cases hk1 : k + 1 < n
        · have hki : ((k : Int) + 1) < (n : Int) := by omega
          go_wp2_with (first
            | (go_at_call 117; refine (HI1.out _ _ cc _ (HKp.out _ _ _ (H.beside (World.grownBy_alloc _ _ _))) HIc.out (H.beside (World.grownBy_alloc _ _ _)).own (HBs.out _ _ _ (H.beside (World.grownBy_alloc _ _ _))) (by omega)).mono ?_; rintro e w' ⟨v', rfl, H'⟩; have H1 := (H.beside (World.grownBy_alloc _ _ _)).trans H'; rw [HXs.out] at H1; clear H H' k0 k1; have H := H1; clear H1; obtain ⟨k0, k1⟩ := HC.out _ _ _ H)
            | (at_builtin; refine app_byte rfl _ _ _ rfl Tryz.underlying33 infoB H rfl _ 44 rfl rfl (by first | rfl | simp) hb1 (by have := HSl.out (k + 1); (try simp only [List.length_append, List.length_cons, List.length_nil]); omega) ?_; intro v1 w1 H1; clear H; have H := H1; clear H1))
          exact ⟨⟨k + 1, by omega, by go_num, by rw [if_pos ⟨by omega, hk1⟩]; exact H⟩, by simp [intOf]; omega⟩
        · have hki : ¬ ((k : Int) + 1) < (n : Int) := by omega
          go_wp2_with (first
            | (go_at_call 117; refine (HI1.out _ _ cc _ (HKp.out _ _ _ (H.beside (World.grownBy_alloc _ _ _))) HIc.out (H.beside (World.grownBy_alloc _ _ _)).own (HBs.out _ _ _ (H.beside (World.grownBy_alloc _ _ _))) (by omega)).mono ?_; rintro e w' ⟨v', rfl, H'⟩; have H1 := (H.beside (World.grownBy_alloc _ _ _)).trans H'; rw [HXs.out] at H1; clear H H' k0 k1; have H := H1; clear H1; obtain ⟨k0, k1⟩ := HC.out _ _ _ H))
          exact ⟨⟨k + 1, by omega, by go_num, by rw [if_neg (fun h => hk1 h.2), List.append_nil]; exact H⟩, by simp [intOf]; omega⟩
      · obtain rfl : k = n := by omega
        rw [if_neg (fun h => hkL h.2), List.append_nil] at H
        go_wp2_with (first
          | (at_builtin; refine app_byte rfl _ _ _ rfl Tryz.underlying33 infoB H rfl _ 41 rfl rfl (by first | rfl | simp) hb1 (by (try simp only [List.length_append, List.length_cons, List.length_nil]); omega) ?_; intro v1 w1 H1; clear H; have H := H1; clear H1))
        go_ret
        exact hfin.out _ _ H

def nMl0 : List UInt8 := [77, 85, 76, 84, 73, 76, 73, 78, 69, 83, 84, 82, 73, 78]
def nMl : List UInt8 := [77, 85, 76, 84, 73, 76, 73, 78, 69, 83, 84, 82, 73, 78, 71]
set_option maxRecDepth 100000 in
set_option maxHeartbeats 4000000 in
theorem MlAppend_of {D : (Nat → Prop) → World → Value → Raw → Prop} (K : DK D) (hfm : ∀ {B : Nat → Prop} {W : World} {v : Value} {t : Raw}, D B W v t → ∃ (r : Nat) (p : Option Addr) (n c : Nat), v = .agg #[.int .u8 r, .slice p n c]) (T : Nat → Int) (HE : IC D 117 T (itemT T false)) : AC (DNode 5 D) 141 T := by
  intro B W v t l base vv hd hok hown hbs hl hB
  obtain ⟨r, f, kids, p, c, rfl, hr, rfl, hc1, hc2, hrow⟩ := hd
  obtain ⟨n, hn⟩ : ∃ n, kids.length = n := ⟨_, rfl⟩
  have hn2 : n ≤ 2000 := by rw [← hn]; unfold okT at hok; exact hok.2.1
  have hoks : okTs kids := by unfold okT at hok; exact hok.2.2
  rw [pl_node0] at hl
  have hbase := hbs.le
  have HO := Lib.hid hown
  have HG := Lib.hid (World.grownBy_alloc W (.cells #[.slice p n c, .int .u8 r] 79) none)
  obtain ⟨W1, hW1⟩ : ∃ W1, W1 = W.alloc (.cells #[.slice p n c, .int .u8 r] 79) := ⟨_, rfl⟩
  have HW1 := Lib.hid hW1
  have HG1 : W.grownBy W1 none := by rw [hW1]; exact HG.out
  have hs1 : W1.heap.size = W.heap.size + 1 := by rw [hW1]; simp
  have H0 : AppB 5 base W1 vv W1 vv l := AppB.start (own_later hown HG1)
  have HC : Hid (∀ w v' l1, AppB 5 base W1 vv w v' l1 → w.cell? ⟨W.heap.size, 0, none⟩ = some (.slice p n c) ∧ w.cell? ⟨W.heap.size, 1, none⟩ = some (.int .u8 r)) := fun w v' l1 H => by
    have hne : vv.ownBlock ≠ some W.heap.size := fun e => by have := (hown.lt _ e).2; omega
    exact ⟨(H.cell (a := ⟨W.heap.size, 0, none⟩) (by show W.heap.size < _; omega) hne).trans (by rw [hW1]; simp), (H.cell (a := ⟨W.heap.size, 1, none⟩) (by show W.heap.size < _; omega) hne).trans (by rw [hW1]; simp)⟩
  have hob : ∀ b, vv.ownBlock = some b → base ≤ b := fun b e => (hown.lt b e).1
  have HKp : Hid (∀ w v' l1, AppB 5 base W1 vv w v' l1 → Kept B W w) := fun w v' l1 H => (Kept.grown HG1).trans (.grownRow H.grown (fun b e hb => by have := hob b e; have := hB b hb; omega))
  have HBs : Hid (∀ w v' l1, AppB 5 base W1 vv w v' l1 → Bsd T base w) := fun w v' l1 H => (hbs.mono HG1 (fun b e => by cases e)).mono H.grown hob
  have hb1 : base ≤ W1.heap.size := by omega
  have HFM : Hid (∀ (B : Nat → Prop) (W : World) (v : Value) (t : Raw), D B W v t → ∃ (r : Nat) (p : Option Addr) (n c : Nat), v = .agg #[.int .u8 r, .slice p n c]) := fun B W v t h => hfm h
  obtain ⟨P, hP⟩ : ∃ P, P = 16100 * pls kids := ⟨_, rfl⟩
  obtain ⟨S, hS⟩ : ∃ S : Nat → List UInt8, S = jS T false kids := ⟨_, rfl⟩
  have HRow : Hid (∀ w, Kept B W w → ∀ k, k < n → ∃ t a c0 c1, kids[k]? = some t ∧ p = some a ∧ w.cell? (a.add (k * 2)) = some c0 ∧ w.cell? ⟨(a.add (k * 2)).block, (a.add (k * 2)).off + 1, none⟩ = some c1 ∧ D B W (.agg #[c0, c1]) t ∧ (S k).length + 16100 * pl t ≤ P ∧ S (k + 1) = S k ++ (if 0 < k then [44] else []) ++ itemT T false t) := fun w g k hk => by
    obtain ⟨a, ha⟩ := hrow.1 (by omega)
    obtain ⟨hba, h2⟩ := hrow.2 a ha
    have hi : kids[k]? = some (kids[k]'(by omega)) := List.getElem?_eq_getElem (by omega)
    obtain ⟨c0, c1, h0, h1, hd⟩ := h2 k _ hi
    refine ⟨_, a, c0, c1, hi, ha, g _ _ (by rw [add_block]; exact hba) h0, g _ _ (by show B (a.add (k * 2)).block; rw [add_block]; exact hba) h1, hd, ?_, by rw [hS]; exact jS_succ T false kids k _ hi⟩
    have h3 := jS_len T false kids k
    have h4 := pls_tk kids k _ hi
    have h5 := pls_tk_le kids (k + 1)
    rw [hS, hP]
    omega
  have HIt : Hid (∀ w l1 cc v' cv k t, kids[k]? = some t → D B W cv t → Kept B W w → SepC cc → w.ownsRow base 5 1 v' (l1 ++ [cc]).length (Bs (l1 ++ [cc])) → Bsd T base w → (l1 ++ [cc]).length + 16100 * pl t ≤ 35000000000000 → Calls Tryz.prog 117 #[cv, v'] w (AppEnd 5 base w v' (l1 ++ [cc] ++ itemT T false t))) := fun w l1 cc v' cv k t hi hd g hc ho hbs hl => HE B w cv t l1 cc base v' (K.keep g hd) (okTs_mem hoks hi) hc ho hbs hl hB
  have HSl : Hid (∀ k, (S k).length ≤ P) := fun k => by
    have h3 := jS_len T false kids k
    have h5 := pls_tk_le kids k
    rw [hS, hP]; omega
  have hSn := HSl.out n
  have hS0 : S 0 = [] := by rw [hS]; exact jS_zero T false kids
  have htl := tag_len r
  obtain ⟨l0, hl0⟩ := tag_last nMl0 71 r hr
  have hnm : nameT 5 = nMl := by decide
  have hnm2 : nMl0 ++ [71] = nMl := rfl
  rw [hnm2] at hl0
  have hHl : (nMl ++ tag r).length ≤ 30 := by
    show (nMl ++ tag r).length ≤ 30
    simp only [nMl, List.length_append, List.length_cons, List.length_nil]; omega
  have HH := Lib.hid (fun w (h : w.ownsRow base 5 1 vv l.length (Bs l)) (hb : base ≤ w.heap.size) => appendWKTHeader_any nMl r hr (by decide) base vv l w h hb (by omega))
  have HE0 := Lib.hid (fun w v' (h : w.ownsRow base 5 1 v' (l ++ (nMl ++ tag r)).length (Bs (l ++ (nMl ++ tag r)))) (hb : base ≤ w.heap.size) => appendWKTEmpty_any (l ++ l0) (if r = 0 then (71 : UInt8) else 32) base v' (l ++ (nMl ++ tag r)) (by rw [hl0]; simp) w h hb (by rw [List.length_append]; omega))
  by_cases hn0 : n = 0
  · have hkn : kids = [] := List.eq_nil_of_length_eq_zero (by omega)
    have hfin : Hid (∀ w' v', AppB 5 base W1 vv w' v' (l ++ (nMl ++ tag r) ++ wE (if r = 0 then (71 : UInt8) else 32)) → AppEnd 5 base W vv (l ++ textT T (.mk 5 (r : Nat) 0 f kids)) (.returned v') w') := fun w' v' H => by
      refine ⟨v', rfl, AppB.later HO.out HG1 ?_⟩
      rw [hkn, node_text0, hnm]
      have e : wE (if r = 0 then (71 : UInt8) else 32) = (if r = 0 then 32 :: EMPTY else EMPTY) := by
        by_cases h : r = 0
        · rw [if_pos h, if_pos h]; decide
        · rw [if_neg h, if_neg h]; decide
      rw [e] at H
      simpa only [List.append_assoc] using H
    have hb : ((n : Int) == 0) = true := by rw [hn0]; rfl
    generalize wE (if r = 0 then (71 : UInt8) else 32) = we at HE0 hfin
    clear hrow hown hbs hok hoks hS hP HE hfm hl0 htl hkn hHl hnm hn0 HIt HRow hSn hS0
    go_enter Tryz.func141, Tryz.ntmps141
    go_wp2_with (first
      | (go_at_call 116; rw [← HW1.out]; refine (HH.out _ H0.own hb1).mono ?_; rintro e w2 ⟨v2, rfl, H⟩; obtain ⟨k0, k1⟩ := HC.out _ _ _ H)
      | (go_at_call 120; refine (HE0.out _ _ H.own (H.based hb1)).mono ?_; rintro e w3 ⟨v3, rfl, H3⟩; have H4 := H.trans H3))
    go_ret
    exact hfin.out _ _ H4
  · have hb : ((n : Int) == 0) = false := by rw [beq_eq_false_iff_ne]; omega
    obtain ⟨HD, hHD⟩ : ∃ HD, HD = l ++ (nMl ++ tag r) := ⟨_, rfl⟩
    have hHDl : HD.length ≤ l.length + 30 := by rw [hHD, List.length_append]; omega
    have hfin : Hid (∀ w' v', AppB 5 base W1 vv w' v' (HD ++ [40] ++ S n ++ [41]) → AppEnd 5 base W vv (l ++ textT T (.mk 5 (r : Nat) 0 f kids)) (.returned v') w') := fun w' v' H => by
      refine ⟨v', rfl, AppB.later HO.out HG1 ?_⟩
      rw [node_text T 5 r f kids (by omega), hnm, hn, show decide ((5 : Int) = 0) = false from rfl, ← hS]
      rw [hHD] at H
      simpa only [List.append_assoc] using H
    rw [← hHD] at HH
    have HCl := Lib.hid hl
    clear hrow hown hbs hok hoks hS HE hfm hl0 htl hHl hnm HE0 hHD
    have hPl : l.length + P + 16100 ≤ 35000000000000 := by have := HCl.out; omega
    clear hP hl
    go_enter Tryz.func141, Tryz.ntmps141
    go_wp2_with (first
      | (go_at_call 116; rw [← HW1.out]; refine (HH.out _ H0.own hb1).mono ?_; rintro e w2 ⟨v2, rfl, H⟩; obtain ⟨k0, k1⟩ := HC.out _ _ _ H)
      | (at_builtin; refine app_byte rfl _ _ _ rfl Tryz.underlying33 infoB H rfl _ 40 rfl rfl (by first | rfl | simp) hb1 (by (try simp only [List.length_append, List.length_cons, List.length_nil]); omega) ?_; intro v1 w1 H1; clear H k0 k1; have H := H1; clear H1; obtain ⟨k0, k1⟩ := HC.out _ _ _ H))
    go_loopw [1, 23] (fun x i wr => ∃ k : Nat, k ≤ n ∧ i = .int .i64 k ∧ AppB 5 base W1 vv wr x (HD ++ [40] ++ S k)) (fun _ i _ => n - (intOf i).toNat)
    case atStart => exact ⟨0, by omega, rfl, by rw [hS0, List.append_nil]; exact H⟩
    case round =>
      clear H k0 k1
      obtain ⟨k, hk, rfl, H⟩ := hrel
      rename World => wr
      by_cases hkL : k < n
      · obtain ⟨t, a, c0, c1, hti, rfl, q0, q1, hd, hpl, hsc⟩ := HRow.out wr (HKp.out _ _ _ H) k hkL
        have HI1 := Lib.hid (fun w l1 cc v' g hc ho hbs hl => HIt.out w l1 cc v' _ k t hti hd g hc ho hbs hl)
        obtain ⟨er, ep, en, ec, he⟩ := HFM.out _ _ _ _ hd
        simp only [Value.agg.injEq, Array.mk.injEq, List.cons.injEq, and_true] at he
        obtain ⟨rfl, rfl⟩ := he
        have HSc := Lib.hid hsc
        generalize itemT T false t = it at HI1 HSc
        generalize pl t = plt at HI1 hpl
        clear hti hd hsc
        by_cases hk0 : 0 < k
        · have HS1 : Hid (S (k + 1) = S k ++ [44] ++ it) := by rw [HSc.out, if_pos hk0]; rfl
          have hk0i : (0 : Int) < (k : Int) := by omega
          have hlt := H.own.lt
          go_wp2_with (first
            | (at_builtin; refine app_byte rfl _ _ _ rfl Tryz.underlying33 infoB (AppB.start (H.own.alloc _)) rfl _ 44 rfl rfl (by first | rfl | simp) (by have := H.based hb1; simp; omega) (by (try simp only [List.length_append, List.length_cons, List.length_nil]); omega) ?_; intro v1 w1 H1; have z0 : w1.cell? ⟨wr.heap.size, 0, none⟩ = some (.int .u8 er) := by { rw [H1.cell (by simp) (fun e => Nat.lt_irrefl wr.heap.size (hlt _ e).2)]; simp }; have z1 : w1.cell? ⟨wr.heap.size, 1, none⟩ = some (.slice ep en ec) := by { rw [H1.cell (by simp) (fun e => Nat.lt_irrefl wr.heap.size (hlt _ e).2)]; simp }; have H2 := (H.beside (World.grownBy_alloc _ _ _)).trans H1; clear H H1; have H := H2; clear H2)
            | (go_at_call 117; refine (HI1.out _ _ 44 _ (HKp.out _ _ _ H) (.inr (.inl rfl)) H.own (HBs.out _ _ _ H) (by (try simp only [List.length_append, List.length_cons, List.length_nil]); omega)).mono ?_; rintro e w' ⟨v', rfl, H'⟩; have H1 := H.trans H'; clear H H'; have H := H1; clear H1))
          exact ⟨⟨k + 1, by omega, by go_num, by rw [HS1.out]; simpa only [List.append_assoc] using H⟩, by simp [intOf]; omega⟩
        · have hk00 : k = 0 := by omega
          have hSk : S k = [] := by rw [hk00]; exact hS0
          have HS1 : Hid (S (k + 1) = it) := by rw [HSc.out, if_neg hk0, hSk]; rfl
          rw [hSk, List.append_nil] at H
          have hk0i : ¬ (0 : Int) < (k : Int) := by omega
          clear hk00 hSk
          go_wp2_with (first
            | (go_at_call 117; refine (HI1.out _ _ 40 _ (HKp.out _ _ _ (H.beside (World.grownBy_alloc _ _ _))) (.inl rfl) (H.beside (World.grownBy_alloc _ _ _)).own (HBs.out _ _ _ (H.beside (World.grownBy_alloc _ _ _))) (by (try simp only [List.length_append, List.length_cons, List.length_nil]); omega)).mono ?_; rintro e w' ⟨v', rfl, H'⟩; have H1 := (H.beside (World.grownBy_alloc _ _ _)).trans H'; clear H H'; have H := H1; clear H1))
          exact ⟨⟨k + 1, by omega, by go_num, by rw [HS1.out]; simpa only [List.append_assoc] using H⟩, by simp [intOf]; omega⟩
      · obtain rfl : k = n := by omega
        go_wp2_with (first
          | (at_builtin; refine app_byte rfl _ _ _ rfl Tryz.underlying33 infoB H rfl _ 41 rfl rfl (by first | rfl | simp) hb1 (by (try simp only [List.length_append, List.length_cons, List.length_nil]); omega) ?_; intro v1 w1 H1; clear H; have H := H1; clear H1))
        go_ret
        exact hfin.out _ _ H

def nMp0 : List UInt8 := [77, 85, 76, 84, 73, 80, 79, 76, 89, 71, 79]
def nMp : List UInt8 := [77, 85, 76, 84, 73, 80, 79, 76, 89, 71, 79, 78]
set_option maxRecDepth 100000 in
set_option maxHeartbeats 4000000 in
theorem MpAppend_of {D : (Nat → Prop) → World → Value → Raw → Prop} (K : DK D) (hfm : ∀ {B : Nat → Prop} {W : World} {v : Value} {t : Raw}, D B W v t → ∃ (p : Option Addr) (n c r : Nat), v = .agg #[.slice p n c, .int .u8 r]) (T : Nat → Int) (HE : IC D 122 T (itemT T false)) : AC (DNode 6 D) 67 T := by
  intro B W v t l base vv hd hok hown hbs hl hB
  obtain ⟨r, f, kids, p, c, rfl, hr, rfl, hc1, hc2, hrow⟩ := hd
  obtain ⟨n, hn⟩ : ∃ n, kids.length = n := ⟨_, rfl⟩
  have hn2 : n ≤ 2000 := by rw [← hn]; unfold okT at hok; exact hok.2.1
  have hoks : okTs kids := by unfold okT at hok; exact hok.2.2
  rw [pl_node0] at hl
  have hbase := hbs.le
  have HO := Lib.hid hown
  have HG := Lib.hid (World.grownBy_alloc W (.cells #[.slice p n c, .int .u8 r] 57) none)
  obtain ⟨W1, hW1⟩ : ∃ W1, W1 = W.alloc (.cells #[.slice p n c, .int .u8 r] 57) := ⟨_, rfl⟩
  have HW1 := Lib.hid hW1
  have HG1 : W.grownBy W1 none := by rw [hW1]; exact HG.out
  have hs1 : W1.heap.size = W.heap.size + 1 := by rw [hW1]; simp
  have H0 : AppB 5 base W1 vv W1 vv l := AppB.start (own_later hown HG1)
  have HC : Hid (∀ w v' l1, AppB 5 base W1 vv w v' l1 → w.cell? ⟨W.heap.size, 0, none⟩ = some (.slice p n c) ∧ w.cell? ⟨W.heap.size, 1, none⟩ = some (.int .u8 r)) := fun w v' l1 H => by
    have hne : vv.ownBlock ≠ some W.heap.size := fun e => by have := (hown.lt _ e).2; omega
    exact ⟨(H.cell (a := ⟨W.heap.size, 0, none⟩) (by show W.heap.size < _; omega) hne).trans (by rw [hW1]; simp), (H.cell (a := ⟨W.heap.size, 1, none⟩) (by show W.heap.size < _; omega) hne).trans (by rw [hW1]; simp)⟩
  have hob : ∀ b, vv.ownBlock = some b → base ≤ b := fun b e => (hown.lt b e).1
  have HKp : Hid (∀ w v' l1, AppB 5 base W1 vv w v' l1 → Kept B W w) := fun w v' l1 H => (Kept.grown HG1).trans (.grownRow H.grown (fun b e hb => by have := hob b e; have := hB b hb; omega))
  have HBs : Hid (∀ w v' l1, AppB 5 base W1 vv w v' l1 → Bsd T base w) := fun w v' l1 H => (hbs.mono HG1 (fun b e => by cases e)).mono H.grown hob
  have hb1 : base ≤ W1.heap.size := by omega
  have HFM : Hid (∀ (B : Nat → Prop) (W : World) (v : Value) (t : Raw), D B W v t → ∃ (p : Option Addr) (n c r : Nat), v = .agg #[.slice p n c, .int .u8 r]) := fun B W v t h => hfm h
  obtain ⟨P, hP⟩ : ∃ P, P = 16100 * pls kids := ⟨_, rfl⟩
  obtain ⟨S, hS⟩ : ∃ S : Nat → List UInt8, S = jS T false kids := ⟨_, rfl⟩
  have HRow : Hid (∀ w, Kept B W w → ∀ k, k < n → ∃ t a c0 c1, kids[k]? = some t ∧ p = some a ∧ w.cell? (a.add (k * 2)) = some c0 ∧ w.cell? ⟨(a.add (k * 2)).block, (a.add (k * 2)).off + 1, none⟩ = some c1 ∧ D B W (.agg #[c0, c1]) t ∧ (S k).length + 16100 * pl t ≤ P ∧ S (k + 1) = S k ++ (if 0 < k then [44] else []) ++ itemT T false t) := fun w g k hk => by
    obtain ⟨a, ha⟩ := hrow.1 (by omega)
    obtain ⟨hba, h2⟩ := hrow.2 a ha
    have hi : kids[k]? = some (kids[k]'(by omega)) := List.getElem?_eq_getElem (by omega)
    obtain ⟨c0, c1, h0, h1, hd⟩ := h2 k _ hi
    refine ⟨_, a, c0, c1, hi, ha, g _ _ (by rw [add_block]; exact hba) h0, g _ _ (by show B (a.add (k * 2)).block; rw [add_block]; exact hba) h1, hd, ?_, by rw [hS]; exact jS_succ T false kids k _ hi⟩
    have h3 := jS_len T false kids k
    have h4 := pls_tk kids k _ hi
    have h5 := pls_tk_le kids (k + 1)
    rw [hS, hP]
    omega
  have HIt : Hid (∀ w l1 cc v' cv k t, kids[k]? = some t → D B W cv t → Kept B W w → SepC cc → w.ownsRow base 5 1 v' (l1 ++ [cc]).length (Bs (l1 ++ [cc])) → Bsd T base w → (l1 ++ [cc]).length + 16100 * pl t ≤ 35000000000000 → Calls Tryz.prog 122 #[cv, v'] w (AppEnd 5 base w v' (l1 ++ [cc] ++ itemT T false t))) := fun w l1 cc v' cv k t hi hd g hc ho hbs hl => HE B w cv t l1 cc base v' (K.keep g hd) (okTs_mem hoks hi) hc ho hbs hl hB
  have HSl : Hid (∀ k, (S k).length ≤ P) := fun k => by
    have h3 := jS_len T false kids k
    have h5 := pls_tk_le kids k
    rw [hS, hP]; omega
  have hSn := HSl.out n
  have hS0 : S 0 = [] := by rw [hS]; exact jS_zero T false kids
  have htl := tag_len r
  obtain ⟨l0, hl0⟩ := tag_last nMp0 78 r hr
  have hnm : nameT 6 = nMp := by decide
  have hnm2 : nMp0 ++ [78] = nMp := rfl
  rw [hnm2] at hl0
  have hHl : (nMp ++ tag r).length ≤ 30 := by
    show (nMp ++ tag r).length ≤ 30
    simp only [nMp, List.length_append, List.length_cons, List.length_nil]; omega
  have HH := Lib.hid (fun w (h : w.ownsRow base 5 1 vv l.length (Bs l)) (hb : base ≤ w.heap.size) => appendWKTHeader_any nMp r hr (by decide) base vv l w h hb (by omega))
  have HE0 := Lib.hid (fun w v' (h : w.ownsRow base 5 1 v' (l ++ (nMp ++ tag r)).length (Bs (l ++ (nMp ++ tag r)))) (hb : base ≤ w.heap.size) => appendWKTEmpty_any (l ++ l0) (if r = 0 then (78 : UInt8) else 32) base v' (l ++ (nMp ++ tag r)) (by rw [hl0]; simp) w h hb (by rw [List.length_append]; omega))
  by_cases hn0 : n = 0
  · have hkn : kids = [] := List.eq_nil_of_length_eq_zero (by omega)
    have hfin : Hid (∀ w' v', AppB 5 base W1 vv w' v' (l ++ (nMp ++ tag r) ++ wE (if r = 0 then (78 : UInt8) else 32)) → AppEnd 5 base W vv (l ++ textT T (.mk 6 (r : Nat) 0 f kids)) (.returned v') w') := fun w' v' H => by
      refine ⟨v', rfl, AppB.later HO.out HG1 ?_⟩
      rw [hkn, node_text0, hnm]
      have e : wE (if r = 0 then (78 : UInt8) else 32) = (if r = 0 then 32 :: EMPTY else EMPTY) := by
        by_cases h : r = 0
        · rw [if_pos h, if_pos h]; decide
        · rw [if_neg h, if_neg h]; decide
      rw [e] at H
      simpa only [List.append_assoc] using H
    have hb : ((n : Int) == 0) = true := by rw [hn0]; rfl
    generalize wE (if r = 0 then (78 : UInt8) else 32) = we at HE0 hfin
    clear hrow hown hbs hok hoks hS hP HE hfm hl0 htl hkn hHl hnm hn0 HIt HRow hSn hS0
    go_enter Tryz.func67, Tryz.ntmps67
    go_wp2_with (first
      | (go_at_call 116; rw [← HW1.out]; refine (HH.out _ H0.own hb1).mono ?_; rintro e w2 ⟨v2, rfl, H⟩; obtain ⟨k0, k1⟩ := HC.out _ _ _ H)
      | (go_at_call 120; refine (HE0.out _ _ H.own (H.based hb1)).mono ?_; rintro e w3 ⟨v3, rfl, H3⟩; have H4 := H.trans H3))
    go_ret
    exact hfin.out _ _ H4
  · have hb : ((n : Int) == 0) = false := by rw [beq_eq_false_iff_ne]; omega
    obtain ⟨HD, hHD⟩ : ∃ HD, HD = l ++ (nMp ++ tag r) := ⟨_, rfl⟩
    have hHDl : HD.length ≤ l.length + 30 := by rw [hHD, List.length_append]; omega
    have hfin : Hid (∀ w' v', AppB 5 base W1 vv w' v' (HD ++ [40] ++ S n ++ [41]) → AppEnd 5 base W vv (l ++ textT T (.mk 6 (r : Nat) 0 f kids)) (.returned v') w') := fun w' v' H => by
      refine ⟨v', rfl, AppB.later HO.out HG1 ?_⟩
      rw [node_text T 6 r f kids (by omega), hnm, hn, show decide ((6 : Int) = 0) = false from rfl, ← hS]
      rw [hHD] at H
      simpa only [List.append_assoc] using H
    rw [← hHD] at HH
    have HCl := Lib.hid hl
    clear hrow hown hbs hok hoks hS HE hfm hl0 htl hHl hnm HE0 hHD
    have hPl : l.length + P + 16100 ≤ 35000000000000 := by have := HCl.out; omega
    clear hP hl
    go_enter Tryz.func67, Tryz.ntmps67
    go_wp2_with (first
      | (go_at_call 116; rw [← HW1.out]; refine (HH.out _ H0.own hb1).mono ?_; rintro e w2 ⟨v2, rfl, H⟩; obtain ⟨k0, k1⟩ := HC.out _ _ _ H)
      | (at_builtin; refine app_byte rfl _ _ _ rfl Tryz.underlying33 infoB H rfl _ 40 rfl rfl (by first | rfl | simp) hb1 (by (try simp only [List.length_append, List.length_cons, List.length_nil]); omega) ?_; intro v1 w1 H1; clear H k0 k1; have H := H1; clear H1; obtain ⟨k0, k1⟩ := HC.out _ _ _ H))
    go_loopw [1, 23] (fun x i wr => ∃ k : Nat, k ≤ n ∧ i = .int .i64 k ∧ AppB 5 base W1 vv wr x (HD ++ [40] ++ S k)) (fun _ i _ => n - (intOf i).toNat)
    case atStart => exact ⟨0, by omega, rfl, by rw [hS0, List.append_nil]; exact H⟩
    case round =>
      clear H k0 k1
      obtain ⟨k, hk, rfl, H⟩ := hrel
      rename World => wr
      by_cases hkL : k < n
      · obtain ⟨t, a, c0, c1, hti, rfl, q0, q1, hd, hpl, hsc⟩ := HRow.out wr (HKp.out _ _ _ H) k hkL
        have HI1 := Lib.hid (fun w l1 cc v' g hc ho hbs hl => HIt.out w l1 cc v' _ k t hti hd g hc ho hbs hl)
        obtain ⟨ep, en, ec, er, he⟩ := HFM.out _ _ _ _ hd
        simp only [Value.agg.injEq, Array.mk.injEq, List.cons.injEq, and_true] at he
        obtain ⟨rfl, rfl⟩ := he
        have HSc := Lib.hid hsc
        generalize itemT T false t = it at HI1 HSc
        generalize pl t = plt at HI1 hpl
        clear hti hd hsc
        by_cases hk0 : 0 < k
        · have HS1 : Hid (S (k + 1) = S k ++ [44] ++ it) := by rw [HSc.out, if_pos hk0]; rfl
          have hk0i : (0 : Int) < (k : Int) := by omega
          have hlt := H.own.lt
          go_wp2_with (first
            | (at_builtin; refine app_byte rfl _ _ _ rfl Tryz.underlying33 infoB (AppB.start (H.own.alloc _)) rfl _ 44 rfl rfl (by first | rfl | simp) (by have := H.based hb1; simp; omega) (by (try simp only [List.length_append, List.length_cons, List.length_nil]); omega) ?_; intro v1 w1 H1; have z0 : w1.cell? ⟨wr.heap.size, 0, none⟩ = some (.slice ep en ec) := by { rw [H1.cell (by simp) (fun e => Nat.lt_irrefl wr.heap.size (hlt _ e).2)]; simp }; have z1 : w1.cell? ⟨wr.heap.size, 1, none⟩ = some (.int .u8 er) := by { rw [H1.cell (by simp) (fun e => Nat.lt_irrefl wr.heap.size (hlt _ e).2)]; simp }; have H2 := (H.beside (World.grownBy_alloc _ _ _)).trans H1; clear H H1; have H := H2; clear H2)
            | (go_at_call 122; refine (HI1.out _ _ 44 _ (HKp.out _ _ _ H) (.inr (.inl rfl)) H.own (HBs.out _ _ _ H) (by (try simp only [List.length_append, List.length_cons, List.length_nil]); omega)).mono ?_; rintro e w' ⟨v', rfl, H'⟩; have H1 := H.trans H'; clear H H'; have H := H1; clear H1))
          exact ⟨⟨k + 1, by omega, by go_num, by rw [HS1.out]; simpa only [List.append_assoc] using H⟩, by simp [intOf]; omega⟩
        · have hk00 : k = 0 := by omega
          have hSk : S k = [] := by rw [hk00]; exact hS0
          have HS1 : Hid (S (k + 1) = it) := by rw [HSc.out, if_neg hk0, hSk]; rfl
          rw [hSk, List.append_nil] at H
          have hk0i : ¬ (0 : Int) < (k : Int) := by omega
          clear hk00 hSk
          go_wp2_with (first
            | (go_at_call 122; refine (HI1.out _ _ 40 _ (HKp.out _ _ _ (H.beside (World.grownBy_alloc _ _ _))) (.inl rfl) (H.beside (World.grownBy_alloc _ _ _)).own (HBs.out _ _ _ (H.beside (World.grownBy_alloc _ _ _))) (by (try simp only [List.length_append, List.length_cons, List.length_nil]); omega)).mono ?_; rintro e w' ⟨v', rfl, H'⟩; have H1 := (H.beside (World.grownBy_alloc _ _ _)).trans H'; clear H H'; have H := H1; clear H1))
          exact ⟨⟨k + 1, by omega, by go_num, by rw [HS1.out]; simpa only [List.append_assoc] using H⟩, by simp [intOf]; omega⟩
      · obtain rfl : k = n := by omega
        go_wp2_with (first
          | (at_builtin; refine app_byte rfl _ _ _ rfl Tryz.underlying33 infoB H rfl _ 41 rfl rfl (by first | rfl | simp) hb1 (by (try simp only [List.length_append, List.length_cons, List.length_nil]); omega) ?_; intro v1 w1 H1; clear H; have H := H1; clear H1))
        go_ret
        exact hfin.out _ _ H

def nGc0 : List UInt8 := [71, 69, 79, 77, 69, 84, 82, 89, 67, 79, 76, 76, 69, 67, 84, 73, 79]
def nGc : List UInt8 := [71, 69, 79, 77, 69, 84, 82, 89, 67, 79, 76, 76, 69, 67, 84, 73, 79, 78]
set_option maxRecDepth 100000 in
set_option maxHeartbeats 4000000 in
theorem GcAppend_of {D : (Nat → Prop) → World → Value → Raw → Prop} (K : DK D) (hfm : ∀ {B : Nat → Prop} {W : World} {v : Value} {t : Raw}, D B W v t → ∃ (k : Int) (ty b : Nat), v = .agg #[.int .i64 k, .iface ty (.pointer (some ⟨b, 0, none⟩))]) (T : Nat → Int) (HE : IC D 151 T (itemT T true)) : AC (DNode 0 D) 138 T := by
  intro B W v t l base vv hd hok hown hbs hl hB
  obtain ⟨r, f, kids, p, c, rfl, hr, rfl, hc1, hc2, hrow⟩ := hd
  obtain ⟨n, hn⟩ : ∃ n, kids.length = n := ⟨_, rfl⟩
  have hn2 : n ≤ 2000 := by rw [← hn]; unfold okT at hok; exact hok.2.1
  have hoks : okTs kids := by unfold okT at hok; exact hok.2.2
  rw [pl_node0] at hl
  have hbase := hbs.le
  have HO := Lib.hid hown
  have HG := Lib.hid (World.grownBy_alloc W (.cells #[.slice p n c, .int .u8 r] 123) none)
  obtain ⟨W1, hW1⟩ : ∃ W1, W1 = W.alloc (.cells #[.slice p n c, .int .u8 r] 123) := ⟨_, rfl⟩
  have HW1 := Lib.hid hW1
  have HG1 : W.grownBy W1 none := by rw [hW1]; exact HG.out
  have hs1 : W1.heap.size = W.heap.size + 1 := by rw [hW1]; simp
  have H0 : AppB 5 base W1 vv W1 vv l := AppB.start (own_later hown HG1)
  have HC : Hid (∀ w v' l1, AppB 5 base W1 vv w v' l1 → w.cell? ⟨W.heap.size, 0, none⟩ = some (.slice p n c) ∧ w.cell? ⟨W.heap.size, 1, none⟩ = some (.int .u8 r)) := fun w v' l1 H => by
    have hne : vv.ownBlock ≠ some W.heap.size := fun e => by have := (hown.lt _ e).2; omega
    exact ⟨(H.cell (a := ⟨W.heap.size, 0, none⟩) (by show W.heap.size < _; omega) hne).trans (by rw [hW1]; simp), (H.cell (a := ⟨W.heap.size, 1, none⟩) (by show W.heap.size < _; omega) hne).trans (by rw [hW1]; simp)⟩
  have hob : ∀ b, vv.ownBlock = some b → base ≤ b := fun b e => (hown.lt b e).1
  have HKp : Hid (∀ w v' l1, AppB 5 base W1 vv w v' l1 → Kept B W w) := fun w v' l1 H => (Kept.grown HG1).trans (.grownRow H.grown (fun b e hb => by have := hob b e; have := hB b hb; omega))
  have HBs : Hid (∀ w v' l1, AppB 5 base W1 vv w v' l1 → Bsd T base w) := fun w v' l1 H => (hbs.mono HG1 (fun b e => by cases e)).mono H.grown hob
  have hb1 : base ≤ W1.heap.size := by omega
  have HFM : Hid (∀ (B : Nat → Prop) (W : World) (v : Value) (t : Raw), D B W v t → ∃ (k : Int) (ty b : Nat), v = .agg #[.int .i64 k, .iface ty (.pointer (some ⟨b, 0, none⟩))]) := fun B W v t h => hfm h
  obtain ⟨P, hP⟩ : ∃ P, P = 16100 * pls kids := ⟨_, rfl⟩
  obtain ⟨S, hS⟩ : ∃ S : Nat → List UInt8, S = jS T true kids := ⟨_, rfl⟩
  have HRow : Hid (∀ w, Kept B W w → ∀ k, k < n → ∃ t a c0 c1, kids[k]? = some t ∧ p = some a ∧ w.cell? (a.add (k * 2)) = some c0 ∧ w.cell? ⟨(a.add (k * 2)).block, (a.add (k * 2)).off + 1, none⟩ = some c1 ∧ D B W (.agg #[c0, c1]) t ∧ (S k).length + 16100 * pl t ≤ P ∧ S (k + 1) = S k ++ (if 0 < k then [44] else []) ++ itemT T true t) := fun w g k hk => by
    obtain ⟨a, ha⟩ := hrow.1 (by omega)
    obtain ⟨hba, h2⟩ := hrow.2 a ha
    have hi : kids[k]? = some (kids[k]'(by omega)) := List.getElem?_eq_getElem (by omega)
    obtain ⟨c0, c1, h0, h1, hd⟩ := h2 k _ hi
    refine ⟨_, a, c0, c1, hi, ha, g _ _ (by rw [add_block]; exact hba) h0, g _ _ (by show B (a.add (k * 2)).block; rw [add_block]; exact hba) h1, hd, ?_, by rw [hS]; exact jS_succ T true kids k _ hi⟩
    have h3 := jS_len T true kids k
    have h4 := pls_tk kids k _ hi
    have h5 := pls_tk_le kids (k + 1)
    rw [hS, hP]
    omega
  have HIt : Hid (∀ w l1 cc v' cv k t, kids[k]? = some t → D B W cv t → Kept B W w → SepC cc → w.ownsRow base 5 1 v' (l1 ++ [cc]).length (Bs (l1 ++ [cc])) → Bsd T base w → (l1 ++ [cc]).length + 16100 * pl t ≤ 35000000000000 → Calls Tryz.prog 151 #[cv, v'] w (AppEnd 5 base w v' (l1 ++ [cc] ++ itemT T true t))) := fun w l1 cc v' cv k t hi hd g hc ho hbs hl => HE B w cv t l1 cc base v' (K.keep g hd) (okTs_mem hoks hi) hc ho hbs hl hB
  have HSl : Hid (∀ k, (S k).length ≤ P) := fun k => by
    have h3 := jS_len T true kids k
    have h5 := pls_tk_le kids k
    rw [hS, hP]; omega
  have hSn := HSl.out n
  have hS0 : S 0 = [] := by rw [hS]; exact jS_zero T true kids
  have htl := tag_len r
  obtain ⟨l0, hl0⟩ := tag_last nGc0 78 r hr
  have hnm : nameT 0 = nGc := by decide
  have hnm2 : nGc0 ++ [78] = nGc := rfl
  rw [hnm2] at hl0
  have hHl : (nGc ++ tag r).length ≤ 30 := by
    show (nGc ++ tag r).length ≤ 30
    simp only [nGc, List.length_append, List.length_cons, List.length_nil]; omega
  have HH := Lib.hid (fun w (h : w.ownsRow base 5 1 vv l.length (Bs l)) (hb : base ≤ w.heap.size) => appendWKTHeader_any nGc r hr (by decide) base vv l w h hb (by omega))
  have HE0 := Lib.hid (fun w v' (h : w.ownsRow base 5 1 v' (l ++ (nGc ++ tag r)).length (Bs (l ++ (nGc ++ tag r)))) (hb : base ≤ w.heap.size) => appendWKTEmpty_any (l ++ l0) (if r = 0 then (78 : UInt8) else 32) base v' (l ++ (nGc ++ tag r)) (by rw [hl0]; simp) w h hb (by rw [List.length_append]; omega))
  by_cases hn0 : n = 0
  · have hkn : kids = [] := List.eq_nil_of_length_eq_zero (by omega)
    have hfin : Hid (∀ w' v', AppB 5 base W1 vv w' v' (l ++ (nGc ++ tag r) ++ wE (if r = 0 then (78 : UInt8) else 32)) → AppEnd 5 base W vv (l ++ textT T (.mk 0 (r : Nat) 0 f kids)) (.returned v') w') := fun w' v' H => by
      refine ⟨v', rfl, AppB.later HO.out HG1 ?_⟩
      rw [hkn, node_text0, hnm]
      have e : wE (if r = 0 then (78 : UInt8) else 32) = (if r = 0 then 32 :: EMPTY else EMPTY) := by
        by_cases h : r = 0
        · rw [if_pos h, if_pos h]; decide
        · rw [if_neg h, if_neg h]; decide
      rw [e] at H
      simpa only [List.append_assoc] using H
    have hb : ((n : Int) == 0) = true := by rw [hn0]; rfl
    generalize wE (if r = 0 then (78 : UInt8) else 32) = we at HE0 hfin
    clear hrow hown hbs hok hoks hS hP HE hfm hl0 htl hkn hHl hnm hn0 HIt HRow hSn hS0
    go_enter Tryz.func138, Tryz.ntmps138
    go_wp2_with (first
      | (go_at_call 116; rw [← HW1.out]; refine (HH.out _ H0.own hb1).mono ?_; rintro e w2 ⟨v2, rfl, H⟩; obtain ⟨k0, k1⟩ := HC.out _ _ _ H)
      | (go_at_call 120; refine (HE0.out _ _ H.own (H.based hb1)).mono ?_; rintro e w3 ⟨v3, rfl, H3⟩; have H4 := H.trans H3))
    go_ret
    exact hfin.out _ _ H4
  · have hb : ((n : Int) == 0) = false := by rw [beq_eq_false_iff_ne]; omega
    obtain ⟨HD, hHD⟩ : ∃ HD, HD = l ++ (nGc ++ tag r) := ⟨_, rfl⟩
    have hHDl : HD.length ≤ l.length + 30 := by rw [hHD, List.length_append]; omega
    have hfin : Hid (∀ w' v', AppB 5 base W1 vv w' v' (HD ++ [40] ++ S n ++ [41]) → AppEnd 5 base W vv (l ++ textT T (.mk 0 (r : Nat) 0 f kids)) (.returned v') w') := fun w' v' H => by
      refine ⟨v', rfl, AppB.later HO.out HG1 ?_⟩
      rw [node_text T 0 r f kids (by omega), hnm, hn, show decide ((0 : Int) = 0) = true from rfl, ← hS]
      rw [hHD] at H
      simpa only [List.append_assoc] using H
    rw [← hHD] at HH
    have HCl := Lib.hid hl
    clear hrow hown hbs hok hoks hS HE hfm hl0 htl hHl hnm HE0 hHD
    have hPl : l.length + P + 16100 ≤ 35000000000000 := by have := HCl.out; omega
    clear hP hl
    go_enter Tryz.func138, Tryz.ntmps138
    go_wp2_with (first
      | (go_at_call 116; rw [← HW1.out]; refine (HH.out _ H0.own hb1).mono ?_; rintro e w2 ⟨v2, rfl, H⟩; obtain ⟨k0, k1⟩ := HC.out _ _ _ H)
      | (at_builtin; refine app_byte rfl _ _ _ rfl Tryz.underlying33 infoB H rfl _ 40 rfl rfl (by first | rfl | simp) hb1 (by (try simp only [List.length_append, List.length_cons, List.length_nil]); omega) ?_; intro v1 w1 H1; clear H k0 k1; have H := H1; clear H1; obtain ⟨k0, k1⟩ := HC.out _ _ _ H))
    go_loopw [1, 23] (fun x i wr => ∃ k : Nat, k ≤ n ∧ i = .int .i64 k ∧ AppB 5 base W1 vv wr x (HD ++ [40] ++ S k)) (fun _ i _ => n - (intOf i).toNat)
    case atStart => exact ⟨0, by omega, rfl, by rw [hS0, List.append_nil]; exact H⟩
    case round =>
      clear H k0 k1
      obtain ⟨k, hk, rfl, H⟩ := hrel
      rename World => wr
      by_cases hkL : k < n
      · obtain ⟨t, a, c0, c1, hti, rfl, q0, q1, hd, hpl, hsc⟩ := HRow.out wr (HKp.out _ _ _ H) k hkL
        have HI1 := Lib.hid (fun w l1 cc v' g hc ho hbs hl => HIt.out w l1 cc v' _ k t hti hd g hc ho hbs hl)
        obtain ⟨ek, ety, eb, he⟩ := HFM.out _ _ _ _ hd
        simp only [Value.agg.injEq, Array.mk.injEq, List.cons.injEq, and_true] at he
        obtain ⟨rfl, rfl⟩ := he
        have HSc := Lib.hid hsc
        generalize itemT T true t = it at HI1 HSc
        generalize pl t = plt at HI1 hpl
        clear hti hd hsc
        by_cases hk0 : 0 < k
        · have HS1 : Hid (S (k + 1) = S k ++ [44] ++ it) := by rw [HSc.out, if_pos hk0]; rfl
          have hk0i : (0 : Int) < (k : Int) := by omega
          have hlt := H.own.lt
          go_wp2_with (first
            | (at_builtin; refine app_byte rfl _ _ _ rfl Tryz.underlying33 infoB (AppB.start (H.own.alloc _)) rfl _ 44 rfl rfl (by first | rfl | simp) (by have := H.based hb1; simp; omega) (by (try simp only [List.length_append, List.length_cons, List.length_nil]); omega) ?_; intro v1 w1 H1; have z0 : w1.cell? ⟨wr.heap.size, 0, none⟩ = some (.int .i64 ek) := by { rw [H1.cell (by simp) (fun e => Nat.lt_irrefl wr.heap.size (hlt _ e).2)]; simp }; have z1 : w1.cell? ⟨wr.heap.size, 1, none⟩ = some (.iface ety (.pointer (some ⟨eb, 0, none⟩))) := by { rw [H1.cell (by simp) (fun e => Nat.lt_irrefl wr.heap.size (hlt _ e).2)]; simp }; have H2 := (H.beside (World.grownBy_alloc _ _ _)).trans H1; clear H H1; have H := H2; clear H2)
            | (go_at_call 151; refine (HI1.out _ _ 44 _ (HKp.out _ _ _ H) (.inr (.inl rfl)) H.own (HBs.out _ _ _ H) (by (try simp only [List.length_append, List.length_cons, List.length_nil]); omega)).mono ?_; rintro e w' ⟨v', rfl, H'⟩; have H1 := H.trans H'; clear H H'; have H := H1; clear H1))
          exact ⟨⟨k + 1, by omega, by go_num, by rw [HS1.out]; simpa only [List.append_assoc] using H⟩, by simp [intOf]; omega⟩
        · have hk00 : k = 0 := by omega
          have hSk : S k = [] := by rw [hk00]; exact hS0
          have HS1 : Hid (S (k + 1) = it) := by rw [HSc.out, if_neg hk0, hSk]; rfl
          rw [hSk, List.append_nil] at H
          have hk0i : ¬ (0 : Int) < (k : Int) := by omega
          clear hk00 hSk
          go_wp2_with (first
            | (go_at_call 151; refine (HI1.out _ _ 40 _ (HKp.out _ _ _ (H.beside (World.grownBy_alloc _ _ _))) (.inl rfl) (H.beside (World.grownBy_alloc _ _ _)).own (HBs.out _ _ _ (H.beside (World.grownBy_alloc _ _ _))) (by (try simp only [List.length_append, List.length_cons, List.length_nil]); omega)).mono ?_; rintro e w' ⟨v', rfl, H'⟩; have H1 := (H.beside (World.grownBy_alloc _ _ _)).trans H'; clear H H'; have H := H1; clear H1))
          exact ⟨⟨k + 1, by omega, by go_num, by rw [HS1.out]; simpa only [List.append_assoc] using H⟩, by simp [intOf]; omega⟩
      · obtain rfl : k = n := by omega
        go_wp2_with (first
          | (at_builtin; refine app_byte rfl _ _ _ rfl Tryz.underlying33 infoB H rfl _ 41 rfl rfl (by first | rfl | simp) hb1 (by (try simp only [List.length_append, List.length_cons, List.length_nil]); omega) ?_; intro v1 w1 H1; clear H; have H := H1; clear H1))
        go_ret
        exact hfin.out _ _ H
end Go.Proofs.YthcjnadceambgaaGreatDoor
namespace Go.Proofs.YthcjnadceambgaaGreatDoor
open Go.RowKit

theorem PgIC (T : Nat → Int) (hT : ∀ i, U64 (T i)) : IC DPg 122 T (itemT T false) := (PgBody_of DLine.dk DLine.form T (LineIC T hT)).ic
theorem MpAC (T : Nat → Int) (hT : ∀ i, U64 (T i)) : AC DMp 67 T := MpAppend_of DPg.dk DNode.form T (PgIC T hT)
theorem MlAC (T : Nat → Int) (hT : ∀ i, U64 (T i)) : AC DMl 141 T := MlAppend_of DLine.dk DLine.form T (LineIC T hT)
theorem new_pl (t : Raw) (h : wt t ≤ 2000) : pl (newT t) ≤ 2000 := Nat.le_trans (pl_new t) h
theorem Tabs.bsd {T : Nat → Int} {W : World} (ht : Tabs T W) : Bsd T W.heap.size W := ⟨ht, ht.lt3, ht.lt2, Nat.le_refl _⟩

set_option maxRecDepth 100000 in
set_option maxHeartbeats 1000000 in
theorem MpAsText (T : Nat → Int) (hT : ∀ i, U64 (T i)) (B : Nat → Prop) (W : World) (v : Value) (t : Raw) (hd : DMp B W v t) (hok : okT t) (hpl : pl t ≤ 2000) (hB : ∀ b, B b → b < W.heap.size) (ht : Tabs T W) :
    Calls Tryz.prog 36 #[v] W fun e w' => e = .returned (.string ⟨(textT T t).toArray⟩) ∧ W.grownBy w' none := by
  obtain ⟨p, n, c, r, rfl⟩ := hd.form
  have HG := Lib.hid (World.grownBy_alloc W (.cells #[.slice p n c, .int .u8 r] 57) none)
  have HA := Lib.hid (fun w (g : W.grownBy w none) => MpAC T hT B w _ t [] w.heap.size (.slice none 0 0) (DMp.dk.mono g hd) hok (World.ownsRow_nil _ _ _ _) (ht.mono g (by simp) (by simp)).bsd (by simp; omega) (fun b hb => Nat.lt_of_lt_of_le (hB b hb) g.size))
  generalize textT T t = tx at HA ⊢
  clear hd ht hok hB hpl
  go_enter Tryz.func36, Tryz.ntmps36
  go_wp2_with (first
    | (go_at_call 67; refine (HA.out _ HG.out).mono ?_; rintro e w' ⟨v', rfl, H⟩; have hcv := own_str (P := Tryz.prog) (src := 33) (dst := 9) (et := 5) Tryz.underlying33 Tryz.underlying5 Tryz.underlying9 H.own))
  go_ret
  exact ⟨rfl, gt_trans HG.out H.grown (.inl rfl)⟩

set_option maxRecDepth 100000 in
set_option maxHeartbeats 1000000 in
theorem MultiPolygonWKT_any (T : Nat → Int) (hT : ∀ i, U64 (T i)) (h : Nat) (B : Nat → Prop) (W : World) (d : Int) (p q : Option Addr) (n cap m c2 : Nat) (f : Nat → Nat) (kids : List Raw)
    (hk : KD B h W (.agg #[.int .i64 6, .int .i64 d, .slice p n cap, .slice q m c2]) (.mk 6 d n f kids)) (hw : wt (.mk 6 d n f kids) ≤ 2000) (ht : Tabs T W) :
    Calls Tryz.prog 14 #[.agg #[.int .i64 6, .int .i64 d, .slice p n cap, .slice q m c2]] W fun e w' => e = .returned (.string ⟨(textT T (newT (.mk 6 d n f kids))).toArray⟩) ∧ W.grownBy w' none := by
  have HG := Lib.hid (World.grownBy_alloc W (.cells #[.int .i64 6, .int .i64 d, .slice p n cap, .slice q m c2] 25) none)
  have HL := Lib.hid (fun w (g : W.grownBy w none) => MpBC h B w _ _ (hk.mono g) hw rfl)
  have hok := new_ok _ hw
  have hpl := new_pl _ hw
  have HM := Lib.hid (fun v w w0 (g : W.grownBy w none) (hv : DMp (Fr w0 w) w v (newT (.mk 6 d n f kids))) => MpAsText T hT (Fr w0 w) w v _ hv hok hpl (fun b hb => hb.2) (ht.mono g (by simp) (by simp)))
  generalize newT (.mk 6 d n f kids) = tn at HL HM ⊢
  clear hk hw ht hok hpl
  go_enter Tryz.func14, Tryz.ntmps14
  go_wp2_with (first
    | (go_at_call 35; refine (HL.out _ HG.out).mono ?_; rintro e w' ⟨v, rfl, hv, hg1⟩; have Hv := Lib.hid hv; clear hv)
    | (go_at_call 36; refine (HM.out _ _ _ (gt_trans HG.out hg1 (.inl rfl)) Hv.out).mono ?_; rintro e w'' ⟨rfl, hg2⟩))
  go_ret
  exact ⟨rfl, gt_trans (gt_trans HG.out hg1 (.inl rfl)) hg2 (.inl rfl)⟩
end Go.Proofs.YthcjnadceambgaaGreatDoor
