/- FnLineJSON: the GeoJSON of a line string of at most 2000 parts and finite numbers is the reference's: the row's statement and its card. -/
import Derived.Test.YthcjnadceambgaaDoorQ1
import Derived.Test.YthcjnadceambgaaDoorR2
import Derived.Test.YthcjnadceambgaaDoorT
import Derived.Test.YthcjnadceambgaaDoorCards
import Derived.Test.YthcjnadceambgaaDoorTie
import Derived.Lib.SmallJoins
import Derived.Laws.Cover2
import Derived.Lay
import Derived.LaidOnce
import Derived.SevenTiedAt
import Derived.MakeChecks
namespace Go.Proofs.YthcjnadceambgaaDoor
open Go.Joins Go.ChangeShapes Go.WideShapes Go.RowKit Go.Deep Go.ChangeAt
namespace LJ
abbrev laid : List (String × DataW Unit) := Rows.fnLineJSONRow.laid
theorem own : ownKnob Tryd.prog.godebug = none := by kernel_rfl

set_option maxRecDepth 100000 in
theorem lifted (os : Os) (started : os.Started) (H : Type) (enc : TypeId × Value → H) :
    ReturnsInHanded {} Tryd.checked os 4 .any (fun w args => (Rows.fnLineJSONSpec.pre enc Tryd.prog Tryd.f4 Rows.fnLineJSONRow.domain false w args ∧ laidMetH Tryd.prog laid w) ∧ sizedMet enc Tryd.prog Tryd.f4 (OpenSpec.ofChange Rows.fnLineJSONSpec) false w args)
      (Rows.fnLineJSONSpec.post enc Tryd.prog Tryd.f4 false true false false) := by
  refine returnsInHanded_of_change_and (C := Tryd.checked) (X := fun w _ => laidMetH Tryd.prog laid w) (fun _ _ _ hh h => h.of_heap hh) own started (by kernel_rfl) Tryd.func4
    (ChangeSpec.witness_shaped (enc := enc) (C := Tryd.checked) (os := os) (X := fun w _ => laidMetH Tryd.prog laid w) false (World.laidAll Tryd.prog os laid) #[.agg #[.int .i64 0, .int .i64 0, .slice none 0 0, .slice none 0 0]] 8 (World.laidAll_os _ _ _)
      (World.shaped_of_ZipB (by kernel_rfl) (by kernel_rfl)) (by kernel_rfl) (by kernel_rfl) (by kernel_rfl)
      (by rw [MakeChecks.laidMetH_plain _ _ _ (by kernel_rfl)]; exact laidMet_laidAll _ (by kernel_rfl) (by kernel_rfl))) ?_
  intro W base args ds gs before hval0 hW _ _ hL _
  have hval : ∀ (j : Nat) t v, Tryd.f4.params[j]? = some t → args[j]? = some v → Value.okWide Tryd.prog W .any base t v := hval0
  have hW' := hW
  obtain ⟨p, q, hA0, hV, rfl, _, _⟩ := hW
  have hA : DataW.TrodAll enc Tryd.prog W 0 (fun _ => true) true Tryd.f4.params.toList args.toList ds p := hA0
  have hAk := hA
  rw [Tryd.params4] at hA hval
  obtain ⟨v0, d0, rfl, rfl, h0⟩ := trodAll_one hA
  obtain ⟨rfl, rfl⟩ := trodVars_none hV
  obtain ⟨cs, rfl, hsz⟩ := okWide_struct Tryd.underlying31 (hval 0 31 v0 rfl rfl)
  obtain ⟨c0, c1, c2, c3, rfl⟩ := array4 (hsz.trans (by kernel_rfl : Tryd.prog.cellsOf 31 = 4))
  obtain ⟨fuel, hf⟩ := h0
  obtain ⟨d0', d1', d2', d3', e, hk⟩ := KG_of_trod fuel _ _ hf
  have e' : [c0, c1, c2, c3] = [d0', d1', d2', d3'] := e
  simp only [List.cons.injEq, and_true] at e'
  obtain ⟨rfl, rfl, rfl, rfl⟩ := e'
  obtain ⟨pn, hnil⟩ : ∃ pn : ∃ p n cap, c2 = .slice p n cap, ∀ p n cap, c2 = .slice p n cap → p = none → cap = 0 := by
    obtain ⟨xs, n, rfl, _, hl, hlen, hff⟩ := DataW.trod_struct Tryd.underlying31 hf
    obtain ⟨y0, y1, y2, y3, rfl⟩ := list4 hlen
    have g2 : DataW.trod enc Tryd.prog W 0 (fun _ => true) true n 28 (([c0, c1, c2, c3].drop 2).take (Tryd.prog.cellsOf 28)) = some y2 := hff 2 _ rfl
    have sf : Tryd.prog.cellsOf 28 = 1 := by kernel_rfl
    simp only [sf, List.drop_succ_cons, List.drop_zero, List.take_succ_cons, List.take_zero] at g2
    obtain ⟨p, n, cap, e2, _, hn⟩ := FRow_of_trod g2
    refine ⟨⟨p, n, cap, e2⟩, fun p' n' cap' e3 hp => ?_⟩
    rw [e2] at e3
    injection e3 with e4 e5 e6
    subst e4 e6
    exact hn hp
  obtain ⟨k, d, pp, n, cap, qq, m, cq, rfl, rfl, rfl, rfl⟩ := hk.form4
  have hr : FRow W pp n cap := by
    obtain ⟨_, hk2⟩ : ∃ h', KG (h' + 1) W (.agg #[.int .i64 k, .int .i64 d, .slice pp n cap, .slice qq m cq]) := by
      cases fuel with
      | zero => exact hk.elim
      | succ h' => exact ⟨h', hk⟩
    obtain ⟨_, _, _, _, _, _, _, _, e9, hr, _⟩ := hk2
    simp only [Value.agg.injEq, Array.mk.injEq, List.cons.injEq, Value.slice.injEq, and_true] at e9
    obtain ⟨_, _, ⟨rfl, rfl, rfl⟩, _⟩ := e9
    exact hr
  obtain ⟨f, hfv⟩ := hr.vals
  rw [MakeChecks.laidMetH_plain _ _ _ (by kernel_rfl)] at hL
  obtain ⟨T, hT, ht⟩ := tabs_of_laid hL (.tail _ (.tail _ (.tail _ (.tail _ (.tail _ (.head _)))))) (.tail _ (.tail _ (.tail _ (.head _))))
  refine (FnLineJSON_any T hT fuel W k d pp qq n cap m cq hk hr.le (hnil _ _ _ rfl) f hfv ht).mono fun e W' ⟨he, hg⟩ => ?_
  subst he
  have hb := below_gt hg
  simp only [List.append_nil] at hW'
  exact ⟨_, rfl, _, _, _, [], _, [], hW', trodAll_mk1 (shut_bool Tryd.underlying4 _), args_below (by rw [Tryd.params4]; intro t ht; simp at ht; subst ht; exact of_decide_eq_true (by kernel_rfl)) hAk hb, rfl, hb.frame _, fun h => by cases h⟩

theorem holds : Rows.FnLineJSONSaid :=
  OpenClaim.holds_of_wide 4 Tryd.f4 rfl rfl rfl rfl rfl rfl rfl ⟨rfl, rfl, rfl, rfl, rfl⟩ rfl rfl rfl rfl rfl (by kernel_rfl) Tryd.func4 (by kernel_rfl)
    (of_decide_eq_true (by kernel_rfl)) (by unfold Func.isWrapper; first | (rw [if_pos (by decide +kernel)]; kernel_rfl) | (rw [if_neg (by decide +kernel)]; exact ⟨rfl, rfl⟩))
    (fun os started H enc _ => lifted os started H enc)
theorem card_holds : Rows.FnLineJSONCardSaid :=
  Claim7.holds_tied_plain_at .later [] [.data, .data, .data, .data, .pinned, .pinned] true (true, "b4a20e176a97f05b2df26c9d8e31ba397a72cf6c248db676673ee751a7bb962c") false holds (fun _ h => by cases h) (by kernel_rfl) (fun _ h => by cases h) fnLineJSON_row_tie rfl ⟨rfl, rfl⟩ (by kernel_rfl) rfl
    (fun f fn hf hfn => by
      obtain rfl : f = 4 := Option.some.inj ((show Tryd.prog.funcNamed "pub-alidade/laws.FnLineJSON" = some 4 by kernel_rfl).symm.trans hf) |>.symm
      obtain rfl : fn = Tryd.f4 := (Option.some.inj (Tryd.func4.symm.trans hfn)).symm
      exact ⟨by kernel_rfl, fun j t ht => by
        rw [Tryd.params4] at ht
        have hm : t ∈ [31] := by simpa using Array.mem_of_getElem? ht
        have hall : ([31].all fun u => !Tryd.prog.wantsStandIn u) = true := by kernel_rfl
        exact (show Tryd.prog.wantsStandIn t = false by simpa using List.all_eq_true.1 hall t hm)⟩)
    (by kernel_rfl)
#print axioms card_holds
end LJ
end Go.Proofs.YthcjnadceambgaaDoor
