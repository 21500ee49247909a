/- FnJSONPlace: the row's statement and its card. -/
import Derived.Test.YthcjnadceambgaaDoorT
import Derived.Test.YthcjnadceambgaaDoorCards
import Derived.Test.YthcjnadceambgaaDoorTie
import Derived.Lib.SmallJoins
import Derived.Laws.Cover2
import Derived.Lay
import Derived.LaidOnce
import Derived.SevenTiedAt
import Derived.MakeChecks
namespace Go.Proofs.YthcjnadceambgaaDoor
open Go.Joins Go.ChangeShapes Go.WideShapes Go.RowKit Go.Deep Go.ChangeAt
namespace JP

section
variable {H : Type} {enc : TypeId × Value → H} {P : Program} {w : World} {base : Nat} {spare : Nat → Bool} {held : Bool}
theorem open_agg5 {r : Reach} {b0 : Nat} {t : TypeId} {f0 f1 f2 f3 f4 : Field} {v : Value} {d : DataW H} {p : List MemPlace} (hs : P.underlying t = some (.struct #[f0, f1, f2, f3, f4])) (hone : oneCellFields P #[f0, f1, f2, f3, f4] = true) (hC : P.cellsOf t = 5)
    (hv : Value.okWide P w r b0 t v) (h : DataW.Trod enc P w base spare held t v d p) :
    ∃ (v0 v1 v2 v3 v4 : Value) (y0 y1 y2 y3 y4 : DataW H × List MemPlace) (n : Nat), v = .agg #[v0, v1, v2, v3, v4] ∧ d = .agg [y0.1, y1.1, y2.1, y3.1, y4.1] ∧ p = y0.2 ++ (y1.2 ++ (y2.2 ++ (y3.2 ++ y4.2))) ∧
      DataW.trod enc P w base spare held n f0.type [v0] = some y0 ∧ DataW.trod enc P w base spare held n f1.type [v1] = some y1 ∧ DataW.trod enc P w base spare held n f2.type [v2] = some y2 ∧ DataW.trod enc P w base spare held n f3.type [v3] = some y3 ∧ DataW.trod enc P w base spare held n f4.type [v4] = some y4 := by
  obtain ⟨cs, rfl, hsz⟩ := okWide_struct hs hv
  obtain ⟨l⟩ := cs
  match l, hsz.trans hC with
  | [c0, c1, c2, c3, c4], _ =>
    obtain ⟨fuel, hf⟩ := h
    obtain ⟨xs, n, _, hx, _, hlen, hg⟩ := DataW.trod_struct hs hf
    obtain ⟨o0, k0⟩ := hone_of hone 0 f0 rfl
    obtain ⟨o1, k1⟩ := hone_of hone 1 f1 rfl
    obtain ⟨o2, k2⟩ := hone_of hone 2 f2 rfl
    obtain ⟨o3, k3⟩ := hone_of hone 3 f3 rfl
    obtain ⟨o4, k4⟩ := hone_of hone 4 f4 rfl
    match xs, hlen with
    | [y0, y1, y2, y3, y4], _ =>
      simp only [Prod.mk.injEq] at hx
      exact ⟨c0, c1, c2, c3, c4, y0, y1, y2, y3, y4, n, rfl, by simpa using hx.1, by simpa using hx.2, by simpa [Value.cells, o0, k0] using hg 0 f0 rfl, by simpa [Value.cells, o1, k1] using hg 1 f1 rfl, by simpa [Value.cells, o2, k2] using hg 2 f2 rfl, by simpa [Value.cells, o3, k3] using hg 3 f3 rfl, by simpa [Value.cells, o4, k4] using hg 4 f4 rfl⟩

/-- One cell that reads as a float: what it is. -/
theorem trod_float {fuel : Nat} {t : TypeId} {cs : List Value} {x : DataW H × List MemPlace} {k : FloatKind} (ht : P.underlying t = some (.float k)) (h : DataW.trod enc P w base spare held fuel t cs = some x) : ∃ n, cs = [.float k n] ∧ x = (.lit (.float k n), []) ∧ (Lit.float k n).wf = true := by
  cases fuel with
  | zero => simp [DataW.trod] at h
  | succ n =>
    unfold DataW.trod at h
    rw [ht] at h
    split at h <;> simp_all

theorem shut_place {t tf ti : TypeId} {f0 f1 f2 f3 f4 : Field} {x y z m : Nat} {d : Int} (hs : P.underlying t = some (.struct #[f0, f1, f2, f3, f4])) (hone : oneCellFields P #[f0, f1, f2, f3, f4] = true) (hC : P.cellsOf t = 5)
    (hf : P.underlying tf = some (.float .f64)) (hi : P.underlying ti = some (.int .i64)) (e0 : f0.type = tf) (e1 : f1.type = tf) (e2 : f2.type = tf) (e3 : f3.type = tf) (e4 : f4.type = ti)
    (wx : (Lit.float .f64 x).wf = true) (wy : (Lit.float .f64 y).wf = true) (wz : (Lit.float .f64 z).wf = true) (wm : (Lit.float .f64 m).wf = true) (wd : (Lit.int .i64 d).wf = true) :
    DataW.Trod enc P w base spare held t (.agg #[.float .f64 x, .float .f64 y, .float .f64 z, .float .f64 m, .int .i64 d]) (.agg [.lit (.float .f64 x), .lit (.float .f64 y), .lit (.float .f64 z), .lit (.float .f64 m), .lit (.int .i64 d)]) [] := by
  obtain ⟨o0, k0⟩ := hone_of hone 0 f0 rfl
  obtain ⟨o1, k1⟩ := hone_of hone 1 f1 rfl
  obtain ⟨o2, k2⟩ := hone_of hone 2 f2 rfl
  obtain ⟨o3, k3⟩ := hone_of hone 3 f3 rfl
  obtain ⟨o4, k4⟩ := hone_of hone 4 f4 rfl
  subst e0
  refine ⟨2, ?_⟩
  have q : ∀ (b : Nat), (Lit.float .f64 b).wf = true → DataW.trod enc P w base spare held 1 f0.type [.float .f64 b] = some (.lit (.float .f64 b), []) := fun b hb => by simp [DataW.trod, hf, hb]
  have qi : DataW.trod enc P w base spare held 1 ti [.int .i64 d] = some (.lit (.int .i64 d), []) := by simp [DataW.trod, hi, wd]
  have := trod_struct_mk (enc := enc) (w := w) (base := base) (spare := spare) (held := held) (n := 1) (cs := [.float .f64 x, .float .f64 y, .float .f64 z, .float .f64 m, .int .i64 d])
    (xs := [(.lit (.float .f64 x), []), (.lit (.float .f64 y), []), (.lit (.float .f64 z), []), (.lit (.float .f64 m), []), (.lit (.int .i64 d), [])]) hs (by rw [hC]; rfl)
    (by rw [e1] at k1; rw [e2] at k2; rw [e3] at k3; rw [e4] at k4; simp [o0, o1, o2, o3, o4, k0, k1, k2, k3, k4, e1, e2, e3, e4, q, qi, wx, wy, wz, wm])
  simpa [Value.cells] using this
end
abbrev laid : List (String × DataW Unit) := Rows.fnJSONPlaceRow.laid
theorem own : ownKnob Tryd.prog.godebug = none := by kernel_rfl

set_option maxRecDepth 100000 in
theorem lifted (os : Os) (started : os.Started) (H : Type) (enc : TypeId × Value → H) :
    ReturnsInHanded {} Tryd.checked os 3 .any (fun w args => (Rows.fnJSONPlaceSpec.pre enc Tryd.prog Tryd.f3 Rows.fnJSONPlaceRow.domain false w args ∧ laidMetH Tryd.prog laid w) ∧ sizedMet enc Tryd.prog Tryd.f3 (OpenSpec.ofChange Rows.fnJSONPlaceSpec) false w args)
      (Rows.fnJSONPlaceSpec.post enc Tryd.prog Tryd.f3 false true false false) := by
  refine returnsInHanded_of_change_and (C := Tryd.checked) (X := fun w _ => laidMetH Tryd.prog laid w) (fun _ _ _ hh h => h.of_heap hh) own started (by kernel_rfl) Tryd.func3
    (ChangeSpec.witness_shaped (enc := enc) (C := Tryd.checked) (os := os) (X := fun w _ => laidMetH Tryd.prog laid w) false (World.laidAll Tryd.prog os laid) #[.agg #[.float .f64 0, .float .f64 0, .float .f64 0, .float .f64 0, .int .i64 0]] 8 (World.laidAll_os _ _ _)
      (World.shaped_of_ZipB (by kernel_rfl) (by kernel_rfl)) (by kernel_rfl) (by kernel_rfl) (by kernel_rfl)
      (by rw [MakeChecks.laidMetH_plain _ _ _ (by kernel_rfl)]; exact laidMet_laidAll _ (by kernel_rfl) (by kernel_rfl))) ?_
  intro W base args ds gs before hval0 hW _ _ hL _
  have hval : ∀ (j : Nat) t v, Tryd.f3.params[j]? = some t → args[j]? = some v → Value.okWide Tryd.prog W .any base t v := hval0
  have hW' := hW
  obtain ⟨p, q, hA0, hV, rfl, _, _⟩ := hW
  have hA : DataW.TrodAll enc Tryd.prog W 0 (fun _ => true) true Tryd.f3.params.toList args.toList ds p := hA0
  rw [Tryd.params3] at hA hval
  obtain ⟨v0, d0, rfl, rfl, h0⟩ := trodAll_one hA
  obtain ⟨rfl, rfl⟩ := trodVars_none hV
  have hone : oneCellFields Tryd.prog #[⟨ "X", 22, 0, false, "", "", 0⟩, ⟨ "Y", 22, 1, false, "", "", 8⟩, ⟨ "Z", 22, 2, false, "", "", 16⟩, ⟨ "M", 22, 3, false, "", "", 24⟩, ⟨ "Dim", 3, 4, false, "", "", 32⟩] = true := by kernel_rfl
  have hC : Tryd.prog.cellsOf 24 = 5 := by kernel_rfl
  obtain ⟨c0, c1, c2, c3, c4, y0, y1, y2, y3, y4, n, rfl, rfl, rfl, g0, g1, g2, g3, g4⟩ := open_agg5 Tryd.underlying24 hone hC (hval 0 24 v0 rfl rfl) h0
  obtain ⟨x, e0, rfl, wx⟩ := trod_float Tryd.underlying22 g0
  obtain ⟨y, e1, rfl, wy⟩ := trod_float Tryd.underlying22 g1
  obtain ⟨z, e2, rfl, wz⟩ := trod_float Tryd.underlying22 g2
  obtain ⟨m, e3, rfl, wm⟩ := trod_float Tryd.underlying22 g3
  obtain ⟨d, e4, rfl, wd⟩ := DataW.trod_int Tryd.underlying3 g4
  simp only [List.cons.injEq, and_true] at e0 e1 e2 e3 e4
  subst e0 e1 e2 e3 e4
  simp only [List.append_nil] at hW'
  have bx : x < 18446744073709551616 := of_decide_eq_true wx
  have by' : y < 18446744073709551616 := of_decide_eq_true wy
  have bz : z < 18446744073709551616 := of_decide_eq_true wz
  rw [MakeChecks.laidMetH_plain _ _ _ (by kernel_rfl)] at hL
  obtain ⟨T, hT, ht⟩ := tabs_of_laid hL (.tail _ (.tail _ (.tail _ (.tail _ (.tail _ (.head _)))))) (.tail _ (.tail _ (.tail _ (.head _))))
  refine (FnJSONPlace_any T hT x y z m d bx by' bz W ht).mono fun e W' ⟨he, hb⟩ => ?_
  subst he
  exact ⟨_, rfl, _, _, _, [], [], [], hW', trodAll_mk1 (shut_bool Tryd.underlying4 _), trodAll_mk1 (shut_place Tryd.underlying24 hone hC Tryd.underlying22 Tryd.underlying3 rfl rfl rfl rfl rfl wx wy wz wm wd), rfl, hb.frame _, fun h => by cases h⟩

theorem holds : Rows.FnJSONPlaceSaid :=
  OpenClaim.holds_of_wide 3 Tryd.f3 rfl rfl rfl rfl rfl rfl rfl ⟨rfl, rfl, rfl, rfl, rfl⟩ rfl rfl rfl rfl rfl (by kernel_rfl) Tryd.func3 (by kernel_rfl)
    (of_decide_eq_true (by kernel_rfl)) (by unfold Func.isWrapper; first | (rw [if_pos (by decide +kernel)]; kernel_rfl) | (rw [if_neg (by decide +kernel)]; exact ⟨rfl, rfl⟩))
    (fun os started H enc _ => lifted os started H enc)
theorem card_holds : Rows.FnJSONPlaceCardSaid :=
  Claim7.holds_tied_plain_at .later [] [.data, .data, .data, .data, .pinned, .pinned] true (true, "b4a20e176a97f05b2df26c9d8e31ba397a72cf6c248db676673ee751a7bb962c") false holds (fun _ h => by cases h) (by kernel_rfl) (fun _ h => by cases h) fnJSONPlace_row_tie rfl ⟨rfl, rfl⟩ (by kernel_rfl) rfl
    (fun f fn hf hfn => by
      obtain rfl : f = 3 := Option.some.inj ((show Tryd.prog.funcNamed "pub-alidade/laws.FnJSONPlace" = some 3 by kernel_rfl).symm.trans hf) |>.symm
      obtain rfl : fn = Tryd.f3 := (Option.some.inj (Tryd.func3.symm.trans hfn)).symm
      exact ⟨by kernel_rfl, fun j t ht => by
        rw [Tryd.params3] at ht
        have hm : t ∈ [24] := by simpa using Array.mem_of_getElem? ht
        have hall : ([24].all fun u => !Tryd.prog.wantsStandIn u) = true := by kernel_rfl
        exact (show Tryd.prog.wantsStandIn t = false by simpa using List.all_eq_true.1 hall t hm)⟩)
    (by kernel_rfl)
#print axioms card_holds
end JP
end Go.Proofs.YthcjnadceambgaaDoor
