/- A geometry that can be read as data lies in memory as KG says. -/
import Derived.Test.YthcjnadceambgaaGreatDoorH
import Derived.Lib.SmallJoins
import Derived.OpenShut
import Derived.ProofKit
import Derived.ChangeShapes
namespace Go.Proofs.YthcjnadceambgaaGreatDoor
open Go.Joins Go.ChangeShapes Go.WideShapes Go.RowKit Go.Deep Go.ChangeAt

theorem KG.up : ∀ {h : Nat} {W : World} {v : Value}, KG h W v → KG (h + 1) W v
  | 0, _, _, h => h.elim
  | _ + 1, _, _, ⟨k, d, p, n, cap, q, m, c2, e, f, h1, h2, h3, h4⟩ => ⟨k, d, p, n, cap, q, m, c2, e, f, h1, h2, h3, fun a ha i hi => by
      obtain ⟨c0, c1, c2, c3, k0, k1, k2, k3, k4⟩ := h4 a ha i hi
      exact ⟨c0, c1, c2, c3, KG.up k0, k1, k2, k3, k4⟩⟩

theorem add_add (a : Addr) (j : Nat) (hj : j ≠ 0) : a.add j = ⟨a.block, a.off + j, none⟩ := by
  unfold Addr.add
  simp [hj]

theorem list4 {α : Type} {cs : List α} (h : cs.length = 4) : ∃ c0 c1 c2 c3, cs = [c0, c1, c2, c3] := by
  match cs, h with
  | [c0, c1, c2, c3], _ => exact ⟨c0, c1, c2, c3, rfl⟩
section
variable {H : Type} {enc : TypeId × Value → H} {W : World} {base : Nat} {spare : Nat → Bool} {held : Bool}
theorem trod_float1 {fuel : Nat} {t : TypeId} {cs : List Value} {x : DataW H × List MemPlace} {k : FloatKind} {P : Program} (ht : P.underlying t = some (.float k)) (h : DataW.trod enc P W base spare held fuel t cs = some x) : ∃ n, cs = [.float k n] ∧ (Lit.float k n).wf = true := by
  cases fuel with
  | zero => simp [DataW.trod] at h
  | succ n =>
    unfold DataW.trod at h
    rw [ht] at h
    split at h <;> simp_all

theorem FRow_of_trod {fuel : Nat} {c : Value} {x : DataW H × List MemPlace} (h : DataW.trod enc Tryz.prog W base spare held fuel 22 [c] = some x) : ∃ p n cap, c = .slice p n cap ∧ FRow W p n cap ∧ (p = none → cap = 0) := by
  rcases DataW.trod_slice Tryz.underlying22 h with ⟨e, _⟩ | ⟨a, len, cap, elems, rest, n, _, e, _, hb, hlc, hcm, hel, hat, _⟩
  · simp only [List.cons.injEq, and_true] at e
    exact ⟨none, 0, 0, e, ⟨Nat.le_refl _, by decide, fun h => by omega, fun a ha => by cases ha⟩, fun _ => rfl⟩
  · simp only [List.cons.injEq, and_true] at e
    refine ⟨some a, len, cap, e, ⟨hlc, hcm, fun _ => ⟨a, rfl⟩, fun a' ha i hi => ?_⟩, fun h => by cases h⟩
    injection ha with ha
    subst ha
    have h1 := hat i hi
    rw [show Tryz.prog.cellsOf 60 = 1 by kernel_rfl, Nat.mul_one] at h1
    have hx : ∃ y, elems[i]? = some y := ⟨_, List.getElem?_eq_getElem (by omega)⟩
    obtain ⟨y, hy⟩ := hx
    rw [hy] at h1
    obtain ⟨cs, hc, ht⟩ := Option.bind_eq_some_iff.1 h1
    obtain ⟨b, rfl, hb⟩ := trod_float1 Tryz.underlying60 ht
    exact ⟨b, cell_of_cells?_one hc, of_decide_eq_true hb⟩

set_option maxRecDepth 100000 in
theorem KG_of_trod : ∀ (fuel : Nat) (cs : List Value) (x : DataW H × List MemPlace), DataW.trod enc Tryz.prog W base spare held fuel 25 cs = some x →
    ∃ c0 c1 c2 c3, cs = [c0, c1, c2, c3] ∧ KG fuel W (.agg #[c0, c1, c2, c3]) := by
  intro fuel
  induction fuel using Nat.strongRecOn with
  | ind fuel ih =>
    intro cs x h
    obtain ⟨xs, n, rfl, rfl, hl, hlen, hf⟩ := DataW.trod_struct Tryz.underlying25 h
    have hC : Tryz.prog.cellsOf 25 = 4 := by kernel_rfl
    rw [hC] at hl
    obtain ⟨c0, c1, c2, c3, rfl⟩ := list4 hl
    obtain ⟨y0, y1, y2, y3, rfl⟩ := list4 hlen
    · · have g0 : DataW.trod enc Tryz.prog W base spare held n 3 (([c0, c1, c2, c3].drop 0).take (Tryz.prog.cellsOf 3)) = some y0 := hf 0 _ rfl
        have g1 : DataW.trod enc Tryz.prog W base spare held n 3 (([c0, c1, c2, c3].drop 1).take (Tryz.prog.cellsOf 3)) = some y1 := hf 1 _ rfl
        have g2 : DataW.trod enc Tryz.prog W base spare held n 22 (([c0, c1, c2, c3].drop 2).take (Tryz.prog.cellsOf 22)) = some y2 := hf 2 _ rfl
        have g3 : DataW.trod enc Tryz.prog W base spare held n 23 (([c0, c1, c2, c3].drop 3).take (Tryz.prog.cellsOf 23)) = some y3 := hf 3 _ rfl
        have s3 : Tryz.prog.cellsOf 3 = 1 := by kernel_rfl
        have sf : Tryz.prog.cellsOf 22 = 1 := by kernel_rfl
        have sg : Tryz.prog.cellsOf 23 = 1 := by kernel_rfl
        simp only [s3, sf, sg, List.drop_zero, List.drop_succ_cons, List.take_succ_cons, List.take_zero] at g0 g1 g2 g3
        obtain ⟨k, e0, _, _⟩ := DataW.trod_int Tryz.underlying3 g0
        obtain ⟨d, e1, _, _⟩ := DataW.trod_int Tryz.underlying3 g1
        obtain ⟨p, nn, cap, e2, hr, _⟩ := FRow_of_trod g2
        simp only [List.cons.injEq, and_true] at e0 e1
        refine ⟨c0, c1, c2, c3, rfl, ?_⟩
        rcases DataW.trod_slice Tryz.underlying23 g3 with ⟨e, _⟩ | ⟨a, len, cap3, elems, rest, m, em, e, _, hb, hlc, hcm, hel, hat, _⟩
        · simp only [List.cons.injEq, and_true] at e
          exact ⟨k, d, p, nn, cap, none, 0, 0, by rw [e0, e1, e2, e], hr, Nat.le_refl _, by decide, fun h => by omega, fun a ha => by cases ha⟩
        · simp only [List.cons.injEq, and_true] at e
          refine ⟨k, d, p, nn, cap, some a, len, cap3, by rw [e0, e1, e2, e], hr, hlc, hcm, fun _ => ⟨a, rfl⟩, fun a' ha i hi => ?_⟩
          injection ha with ha
          subst ha
          have h1 := hat i hi
          rw [hC] at h1
          have hx : ∃ y, elems[i]? = some y := ⟨_, List.getElem?_eq_getElem (by omega)⟩
          obtain ⟨y, hy⟩ := hx
          rw [hy] at h1
          obtain ⟨cs', hc, ht⟩ := Option.bind_eq_some_iff.1 h1
          obtain ⟨d0, d1, d2, d3, rfl, hk⟩ := ih m (by omega) cs' y ht
          subst em
          have hcell := World.cells?_some hc
          obtain ⟨_, hlen', hcell⟩ := hcell
          refine ⟨d0, d1, d2, d3, hk.up, ?_, ?_, ?_, ?_⟩
          · have := hcell 0 (by omega)
            simpa [Addr.add] using this
          · have := hcell 1 (by omega)
            rw [add_add _ 1 (by omega)] at this
            simpa using this
          · have := hcell 2 (by omega)
            rw [add_add _ 2 (by omega)] at this
            simpa using this
          · have := hcell 3 (by omega)
            rw [add_add _ 3 (by omega)] at this
            simpa using this
end
end Go.Proofs.YthcjnadceambgaaGreatDoor
