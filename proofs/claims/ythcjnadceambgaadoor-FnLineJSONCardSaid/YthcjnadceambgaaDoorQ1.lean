/- FnLineJSON, walked whole: whatever the geometry, it answers true. -/
import Derived.Test.YthcjnadceambgaaDoorZ
import Derived.Test.YthcjnadceambgaaDoorH
namespace Go.Proofs.YthcjnadceambgaaDoor
open Go.RowKit

set_option maxRecDepth 100000 in
set_option maxHeartbeats 1000000 in
theorem zzFits2_any (W : World) (k d : Int) (p q : Option Addr) (n cap m c2 : Nat) :
    Calls Tryd.prog 7 #[.agg #[.int .i64 k, .int .i64 d, .slice p n cap, .slice q m c2]] W (YN W fun _ => True) := by
  go_enter Tryd.func7, Tryd.ntmps7
  go_wp2_with fail
  all_goals (go_ret; exact ⟨_, rfl, trivial, World.grownBy_alloc _ _ _⟩)

set_option maxRecDepth 100000 in
set_option maxHeartbeats 2000000 in
theorem FnLineJSON_any (T : Nat → Int) (hT : ∀ i, U64 (T i)) (h : Nat) (W : World) (k d : Int) (p q : Option Addr) (n cap m c2 : Nat) (hk : KG h W (.agg #[.int .i64 k, .int .i64 d, .slice p n cap, .slice q m c2]))
    (hcap : n ≤ cap) (hnil : p = none → cap = 0) (f : Nat → Nat) (hf : FVal W p n f) (ht : Tabs T W) :
    Calls Tryd.prog 4 #[.agg #[.int .i64 k, .int .i64 d, .slice p n cap, .slice q m c2]] W fun e w' => e = .returned (.bool true) ∧ W.grownBy w' none := by
  have HG := Lib.hid (World.grownBy_alloc W (.cells #[.int .i64 k, .int .i64 d, .slice p n cap, .slice q m c2] 31) none)
  have HZ := Lib.hid (fun w => zzFits2_any w k d p q n cap m c2)
  have HK := Lib.hid (fun w (g : W.grownBy w none) => kIs_any h w k d p q n cap m c2 (hk.mono g) 2)
  obtain ⟨r, hr⟩ : ∃ r : Nat, d % 4 = r := ⟨(d % 4).toNat, by omega⟩
  have HL := Lib.hid (fun (hn : n ≤ 2000) w (g : W.grownBy w none) => LineJSON_any T hT d r hr p q n cap m c2 f hn w (hf.mono g) (ht.mono g (by simp) (by simp)))
  have HN := Lib.hid (fun (hn : n ≤ 2000) w (g : W.grownBy w none) => New_2 d r hr p q n cap m c2 f hn hcap hnil w (hf.mono g))
  have HWJ := Lib.hid (fun (hn : n ≤ 2000) p' c' w (g : W.grownBy w none) (hv : FVal w p' (n - n % widN r) f) => WriteJSON_2 T hT r (n - n % widN r) (by omega) (by omega) p' c' f w hv (ht.mono g (by simp) (by simp)))
  clear hr hk hf ht hcap hnil
  generalize n - n % widN r = N at HL HN HWJ
  have HB : Hid (∀ W', (W.alloc (.cells #[.int .i64 k, .int .i64 d, .slice p n cap, .slice q m c2] 31)).grownBy W' none → W'.cell? ⟨W.heap.size, 0, none⟩ = some (.int .i64 k) ∧ W'.cell? ⟨W.heap.size, 1, none⟩ = some (.int .i64 d) ∧ W'.cell? ⟨W.heap.size, 2, none⟩ = some (.slice p n cap) ∧ W'.cell? ⟨W.heap.size, 3, none⟩ = some (.slice q m c2)) := fun W' g =>
    ⟨g.cell (by simp) (by simp), g.cell (by simp) (by simp), g.cell (by simp) (by simp), g.cell (by simp) (by simp)⟩
  go_enter Tryd.func4, Tryd.ntmps4
  go_wp2_with (first
    | (go_at_call 7; refine (HZ.out _).mono ?_; rintro e w1 ⟨b1, rfl, _, hg1⟩; have G1 := gt_trans HG.out hg1 (.inl rfl); obtain ⟨x0, x1, x2, x3⟩ := HB.out _ hg1)
    | (go_at_call 8; refine (HK.out _ G1).mono ?_; rintro e w2 ⟨b2, rfl, hb2, hg2⟩; have G2 := gt_trans G1 hg2 (.inl rfl); clear x0 x1 x2 x3; obtain ⟨x0, x1, x2, x3⟩ := HB.out _ (gt_trans hg1 hg2 (.inl rfl))))
  · go_ret
    exact ⟨rfl, G1⟩
  · go_ret
    exact ⟨rfl, G2⟩
  · have hbt : b2 = true := by cases b2 <;> simp_all
    obtain ⟨rfl, hn⟩ := hb2 hbt
    have HL1 := Lib.hid (HL.out hn _ G2)
    have HN1 := Lib.hid (HN.out hn)
    have HW1 := Lib.hid (HWJ.out hn)
    refine HL1.out.mono ?_
    rintro e w3 ⟨v3, rfl, hg3, w0, hg0, hA⟩
    obtain ⟨J, hJ⟩ : ∃ J : ByteArray, J = ⟨(lineJ T r f N).toArray⟩ := ⟨_, rfl⟩
    have HCA := Lib.hid (fun w (g : w3.grownBy w none) => own_str (P := Tryd.prog) (src := 34) (dst := 9) (et := 5) Tryd.underlying34 Tryd.underlying5 Tryd.underlying9 (hA.beside g).own)
    have HCB := Lib.hid (fun v w (hv : BVal w v (lineJ T r f N)) => hv.str (P := Tryd.prog) (src := 34) (dst := 9) (et := 5) Tryd.underlying34 Tryd.underlying5 Tryd.underlying9)
    rw [← hJ] at HCA HCB
    clear x0 x1 x2 x3 hA hJ
    obtain ⟨x0, x1, x2, x3⟩ := HB.out w3 (gt_trans (gt_trans hg1 hg2 (.inl rfl)) hg3 (.inl rfl))
    have G3 := gt_trans G2 hg3 (.inl rfl)
    go_wp2_with (first
      | (go_at_call 11; refine (HN1.out _ G3).mono ?_; rintro e w4 ⟨p', c', rfl, hv4, hg4⟩; have G4 := gt_trans G3 hg4 (.inl rfl))
      | (go_at_call 10; refine (HW1.out _ _ _ G4 hv4).mono ?_; rintro e w5 ⟨v5, rfl, hv5, hg5⟩; have G5 := gt_trans G4 hg5 (.inl rfl); have q1 := HCA.out _ (gt_trans hg4 hg5 (.inl rfl)); have q2 := HCB.out _ _ hv5))
    go_ret
    exact ⟨rfl, G5⟩
end Go.Proofs.YthcjnadceambgaaDoor
