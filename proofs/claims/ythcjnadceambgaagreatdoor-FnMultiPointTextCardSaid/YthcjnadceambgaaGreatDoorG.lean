/- Geometries in memory: their shape, to a depth; what the questions of size and of finite numbers do. -/
import Derived.Test.YthcjnadceambgaaGreatDoorProg
import Derived.Test.YthcjnadceambgaaGreatDoorO
import Derived.Deep.DeepCutAuto
import Derived.Deep.QuietTactic
import Derived.Handy
namespace Go.Proofs.YthcjnadceambgaaGreatDoor
open Go.RowKit

/-- A row of floating-point numbers (nil, or n of them in a block). -/
structure FRow (W : World) (p : Option Addr) (n cap : Nat) : Prop where
  le : n ≤ cap
  most : cap ≤ maxLen
  some_ : 0 < n → ∃ a, p = some a
  at_ : ∀ a, p = some a → ∀ i, i < n → ∃ b, W.cell? (a.add i) = some (.float .f64 b) ∧ b < 18446744073709551616
theorem FRow.mono {W W' : World} {p : Option Addr} {n cap : Nat} (h : FRow W p n cap) (hg : W.grownBy W' none) : FRow W' p n cap :=
  ⟨h.le, h.most, h.some_, fun a ha i hi => by obtain ⟨b, h1, h2⟩ := h.at_ a ha i hi; exact ⟨b, hg.cell h1 (by simp), h2⟩⟩

/-- A geometry whose parts lie in memory to the depth h. -/
def KG : Nat → World → Value → Prop
  | 0, _, _ => False
  | h + 1, W, v => ∃ k d p n cap q m c2, v = .agg #[.int .i64 k, .int .i64 d, .slice p n cap, .slice q m c2] ∧ FRow W p n cap ∧ m ≤ c2 ∧ c2 ≤ maxLen ∧ (0 < m → ∃ a, q = some a) ∧
      ∀ a, q = some a → ∀ i, i < m → ∃ c0 c1 c2 c3, KG h W (.agg #[c0, c1, c2, c3]) ∧ W.cell? (a.add (i * 4)) = some c0 ∧ W.cell? ⟨(a.add (i * 4)).block, (a.add (i * 4)).off + 1, none⟩ = some c1 ∧ W.cell? ⟨(a.add (i * 4)).block, (a.add (i * 4)).off + 2, none⟩ = some c2 ∧ W.cell? ⟨(a.add (i * 4)).block, (a.add (i * 4)).off + 3, none⟩ = some c3
theorem KG.mono {W W' : World} (hg : W.grownBy W' none) : ∀ {h : Nat} {v : Value}, KG h W v → KG h W' v
  | 0, _, h => h
  | h + 1, _, ⟨k, d, p, n, cap, q, m, c2, e, f, h1, h2, h3, h4⟩ => ⟨k, d, p, n, cap, q, m, c2, e, f.mono hg, h1, h2, h3, fun a ha i hi => by
      obtain ⟨c0, c1, c2, c3, k0, k1, k2, k3, k4⟩ := h4 a ha i hi
      exact ⟨c0, c1, c2, c3, KG.mono hg k0, hg.cell k1 (by simp), hg.cell k2 (by simp), hg.cell k3 (by simp), hg.cell k4 (by simp)⟩⟩

theorem KG.form {W : World} : ∀ {h : Nat} {v : Value}, KG h W v → ∃ k d p n cap q m c2, v = .agg #[.int .i64 k, .int .i64 d, .slice p n cap, .slice q m c2]
  | 0, _, h => by cases h
  | _ + 1, _, ⟨k, d, p, n, cap, q, m, c2, e, _⟩ => ⟨k, d, p, n, cap, q, m, c2, e⟩
theorem KG.form4 {W : World} {h : Nat} {c0 c1 c2 c3 : Value} (hk : KG h W (.agg #[c0, c1, c2, c3])) : ∃ k d p n cap q m c, c0 = .int .i64 k ∧ c1 = .int .i64 d ∧ c2 = .slice p n cap ∧ c3 = .slice q m c := by
  obtain ⟨k, d, p, n, cap, q, m, c, e⟩ := hk.form
  simp only [Value.agg.injEq, Array.mk.injEq, List.cons.injEq, and_true] at e
  exact ⟨k, d, p, n, cap, q, m, c, e⟩

/-- How many numbers a geometry has. -/
def numsLen : Value → Nat
  | .agg #[_, _, .slice _ n _, _] => n
  | _ => 0
def WPost (W : World) (v : Value) (e : Ending) (w' : World) : Prop := ∃ r : Int, e = .returned (.int .i64 r) ∧ -1 ≤ r ∧ r ≤ 2000 ∧ (0 ≤ r → numsLen v ≤ 2000) ∧ W.grownBy w' none

set_option maxRecDepth 100000 in
set_option maxHeartbeats 1000000 in
theorem gWeight_any : ∀ (h : Nat) (W : World) (v : Value) (left : Int), KG h W v → left ≤ 2000 → Calls Tryz.prog 37 #[v, .int .i64 left] W (WPost W v) := by
  intro h
  induction h with
  | zero => intro W v left hk; cases hk
  | succ h ih =>
    intro W v left hk hleft
    obtain ⟨k, d, p, n, cap, q, m, c2, rfl, hf, hm1, hm2, hm3, hm4⟩ := hk
    have HM := Lib.hid hm4
    have HM3 := Lib.hid hm3
    clear hm4 hm3
    have hmax : maxLen = 9223372036854775807 := rfl
    by_cases hb : left < 1 ∨ left < n ∨ left < m
    · go_enter Tryz.func37, Tryz.ntmps37
      go_wp2_with fail
      all_goals first
        | (exfalso; omega)
        | (go_ret; exact ⟨-1, rfl, by omega, by omega, fun h => by omega, World.grownBy_alloc _ _ _⟩)
    · obtain ⟨b1, b2, b3⟩ : 1 ≤ left ∧ (n : Int) ≤ left ∧ (m : Int) ≤ left := by omega
      clear hb
      go_enter Tryz.func37, Tryz.ntmps37
      go_wp2_with fail
      have H1 := World.grownBy_alloc W (.cells #[.int .i64 k, .int .i64 d, .slice p n cap, .slice q m c2] 25) none
      have HB : Hid (∀ W', (W.alloc (.cells #[.int .i64 k, .int .i64 d, .slice p n cap, .slice q m c2] 25)).grownBy W' none → W'.cell? ⟨W.heap.size, 3, none⟩ = some (.slice q m c2)) := fun W' g => g.cell (by simp) (by simp)
      go_loopw [1, 5] (fun l i wr => ∃ (r : Int) (j : Nat), l = .int .i64 r ∧ i = .int .i64 j ∧ j ≤ m ∧ -1 ≤ r ∧ r ≤ 2000 ∧ (W.alloc (.cells #[.int .i64 k, .int .i64 d, .slice p n cap, .slice q m c2] 25)).grownBy wr none) (fun _ i _ => m - (intOf i).toNat)
      case atStart => exact ⟨_, 0, rfl, rfl, by omega, by omega, by omega, gt_refl _ _⟩
      case round =>
        obtain ⟨r, j, rfl, rfl, hj, hr1, hr2, hg⟩ := hrel
        rename World => wr
        have hbox := HB.out wr hg
        by_cases hjm : j < m
        · by_cases hr0 : 0 ≤ r
          · obtain ⟨a, rfl⟩ := HM3.out (by omega)
            obtain ⟨c0, c1, c2, c3, k0, k1, k2, k3, k4⟩ := HM.out a rfl j hjm
            have G := gt_trans H1 hg (.inl rfl)
            have q1 := G.cell k1 (by simp)
            have q2 := G.cell k2 (by simp)
            have q3 := G.cell k3 (by simp)
            have q4 := G.cell k4 (by simp)
            have IH := Lib.hid (ih wr _ r (k0.mono G) hr2)
            clear k0 k1 k2 k3 k4
            go_wp2_with (go_at_call 37; refine IH.out.mono ?_; rintro e w' ⟨r', rfl, hr1', hr2', _, hg'⟩)
            exact ⟨⟨r', j + 1, rfl, by go_num, by omega, hr1', hr2', gt_trans hg hg' (.inr (.inl rfl))⟩, by simp [intOf]; omega⟩
          · go_wp2_with fail
            go_wp2_with fail
            go_ret
            exact ⟨r, rfl, hr1, hr2, fun _ => by show n ≤ 2000; omega, gt_trans H1 hg (.inl rfl)⟩
        · go_wp2_with fail
          go_wp2_with fail
          go_ret
          exact ⟨r, rfl, hr1, hr2, fun _ => by show n ≤ 2000; omega, gt_trans H1 hg (.inl rfl)⟩

end Go.Proofs.YthcjnadceambgaaGreatDoor
