/- The two tables of strconv, out of what a row lists. -/
import Derived.Test.YthcjnadceambgaaGreatDoorA8
import Derived.Test.YthcjnadceambgaaGreatDoorRows
import Derived.Lib.LaidU8
import Derived.OpenShut
import Derived.ProofKit
namespace Go.Proofs.YthcjnadceambgaaGreatDoor
open Go.RowKit Go.ChangeShapes

def pval : Option Value → Int
  | some (.int _ n) => n
  | _ => 0

theorem p10_of_reads {W : World} (h : Lib.VarReads Tryz.prog W "internal/strconv.pow10Tab" Go.Pinned.pow10Tab) : ∃ T : Nat → Int, (∀ i, U64 (T i)) ∧ P10 T W := by
  obtain ⟨g, t, cs, fuel, p, h1, h2, h3, h4⟩ := h
  obtain rfl : g = 3 := Option.some.inj (h1.symm.trans (by kernel_rfl))
  obtain rfl : t = 208 := Option.some.inj (h2.symm.trans (by kernel_rfl))
  obtain ⟨xs, m, _, _, hl, _, hall⟩ := DataW.trod_array (n := 696) (e := 207) (by kernel_rfl) h4
  have hc2 : Tryz.prog.cellsOf 207 = 2 := by kernel_rfl
  have hlen : cs.toList.length = 1392 := hl.trans (by kernel_rfl)
  have key : ∀ i : Nat, i < 1392 → ∃ n : Int, cs[i]? = some (.int .u64 n) ∧ U64 n := by
    intro i hi
    have hj := hall (i / 2) (by omega)
    rw [hc2] at hj
    have hx : ∃ x, xs[i / 2]? = some x := ⟨xs[i / 2]'(by omega), List.getElem?_eq_getElem (by omega)⟩
    obtain ⟨x, hx⟩ := hx
    rw [hx] at hj
    obtain ⟨y0, y1, n, _, _, ha, hb⟩ := trod_struct2 Tryz.underlying207 hj
    have hu : Tryz.prog.underlying 137 = some (.int .u64) := by kernel_rfl
    obtain ⟨a, hca, _, wa⟩ := DataW.trod_int hu ha
    obtain ⟨b, hcb, _, wb⟩ := DataW.trod_int hu hb
    have hca' := congrArg (·[0]?) hca
    have hcb' := congrArg (·[0]?) hcb
    have hcu : Tryz.prog.cellsOf 137 = 1 := by kernel_rfl
    simp only [hcu, List.drop_zero, List.getElem?_take, List.getElem?_drop, List.getElem?_cons_zero, Nat.zero_lt_one, if_true, Nat.add_zero] at hca' hcb'
    rcases Nat.mod_two_eq_zero_or_one i with e | e
    · refine ⟨a, ?_, .of_wf wa⟩
      simp at hca'
      rw [show i / 2 * 2 = i by omega] at hca'
      exact hca'
    · refine ⟨b, ?_, .of_wf wb⟩
      simp at hcb'
      rw [show i / 2 * 2 + 1 = i by omega] at hcb'
      exact hcb'
  refine ⟨fun i => pval cs[i]?, fun i => ?_, fun i hi => ?_⟩
  · by_cases hi : i < 1392
    · obtain ⟨n, hn, hu⟩ := key i hi
      show U64 (pval cs[i]?)
      rw [hn]; exact hu
    · have : cs[i]? = none := Array.getElem?_eq_none (by simpa using (by omega : cs.toList.length ≤ i))
      show U64 (pval cs[i]?)
      rw [this]; exact ⟨by decide, by decide⟩
  · obtain ⟨n, hn, hu⟩ := key i hi
    have e : W.cell? ⟨3, i, none⟩ = cs[i]? := World.var?_cell h1 h3 i
    show W.cell? ⟨3, i, none⟩ = some (.int .u64 (pval cs[i]?))
    rw [e, hn]
    rfl

theorem u10_of_reads {W : World} (h : Lib.VarReads Tryz.prog W "internal/strconv.uint64pow10" Rows.laid_internal_strconv_uint64pow10) : Lib.TabIs Tryz.prog W "internal/strconv.uint64pow10" .u64 Lib.pow10Tab := by
  obtain ⟨g, t, cs, fuel, p, h1, h2, h3, h4⟩ := h
  obtain rfl : t = 199 := by
    obtain rfl : g = 2 := Option.some.inj (h1.symm.trans (by kernel_rfl))
    exact Option.some.inj (h2.symm.trans (by kernel_rfl))
  have hd : (Rows.laid_internal_strconv_uint64pow10 : DataW Unit) = Lib.tabData .u64 Lib.pow10Tab := by kernel_rfl
  rw [hd] at h4
  have := Lib.cells_of_tab (n := 20) (e := 137) (by kernel_rfl) (by kernel_rfl) (by kernel_rfl) (by kernel_rfl) h4
  unfold Lib.TabIs
  rw [h3, ← this]

/-- The facts of the tables, out of the row's condition. -/
theorem tabs_of_laid {W : World} {laid : List (String × DataW Unit)} (hL : laidMet Tryz.prog laid W) (m1 : ("internal/strconv.pow10Tab", Go.Pinned.pow10Tab) ∈ laid) (m2 : ("internal/strconv.uint64pow10", Rows.laid_internal_strconv_uint64pow10) ∈ laid) :
    ∃ T : Nat → Int, (∀ i, U64 (T i)) ∧ Tabs T W := by
  obtain ⟨T, hT, hp⟩ := p10_of_reads (Lib.laidMet.reads hL m1)
  exact ⟨T, hT, hp, u10_of_reads (Lib.laidMet.reads hL m2)⟩
end Go.Proofs.YthcjnadceambgaaGreatDoor
