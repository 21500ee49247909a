/- FnMultiPointText: the package's side. -/
import Derived.Test.YthcjnadceambgaaGreatDoorI6
import Derived.Test.YthcjnadceambgaaGreatDoorG1
namespace Go.Proofs.YthcjnadceambgaaGreatDoor
open Go.RowKit

set_option maxRecDepth 100000 in
set_option maxHeartbeats 1000000 in
theorem MPAsText_any (T : Nat → Int) (hT : ∀ i, U64 (T i)) (r : Nat) (v : Value) (ps : List Pt) (hn : ps.length ≤ 2000) (W : World) (hv : MPIs W v r ps) (ht : Tabs T W) :
    Calls Tryz.prog 34 #[v] W fun e w' => e = .returned (.string ⟨(mpW T r ps).toArray⟩) ∧ W.grownBy w' none := by
  obtain ⟨hr, hok, p, c, rfl, hp⟩ := hv
  obtain ⟨n, hpn⟩ : ∃ n, ps.length = n := ⟨_, rfl⟩
  rw [hpn] at hn ⊢
  have HG := Lib.hid (World.grownBy_alloc W (.cells #[.slice p n c, .int .u8 r] 53) none)
  have HA := Lib.hid (fun w (g : W.grownBy w none) => MPAppendWKT_nil T hT r n c hr p ps hpn w (hp.mono g) hok hn (ht.mono g (by simp) (by simp)))
  clear hp ht hok hpn
  go_enter Tryz.func34, Tryz.ntmps34
  go_wp2_with (first
    | (go_at_call 64; refine (HA.out _ HG.out).mono ?_; rintro e w' ⟨v', rfl, H⟩; have hcv := own_str (P := Tryz.prog) (src := 33) (dst := 9) (et := 5) Tryz.underlying33 Tryz.underlying5 Tryz.underlying9 H.own))
  go_ret
  exact ⟨rfl, gt_trans HG.out H.grown (.inl rfl)⟩

set_option maxRecDepth 100000 in
set_option maxHeartbeats 1000000 in
theorem MultiPointWKT_any (T : Nat → Int) (hT : ∀ i, U64 (T i)) (h : Nat) (B : Nat → Prop) (W : World) (d : Int) (r : Nat) (hr : d % 4 = r) (p q : Option Addr) (n cap m c2 : Nat) (f : Nat → Nat) (kids : List Raw) (hm : kids.length = m)
    (hk : KD B (h + 1) W (.agg #[.int .i64 4, .int .i64 d, .slice p n cap, .slice q m c2]) (.mk 4 d n f kids)) (hw : wt (.mk 4 d n f kids) ≤ 2000) (ht : Tabs T W) :
    Calls Tryz.prog 13 #[.agg #[.int .i64 4, .int .i64 d, .slice p n cap, .slice q m c2]] W fun e w' => e = .returned (.string ⟨(mpW T (mpR r (ptsOf kids)) ((ptsOf kids).map fun t => t.force (dimsP (ptsOf kids)))).toArray⟩) ∧ W.grownBy w' none := by
  have HG := Lib.hid (World.grownBy_alloc W (.cells #[.int .i64 4, .int .i64 d, .slice p n cap, .slice q m c2] 25) none)
  have hl : ((ptsOf kids).map fun t => t.force (dimsP (ptsOf kids))).length ≤ 2000 := by
    have h1 := ptsOf_len kids
    have h2 := wts_len kids
    rw [List.length_map]
    unfold wt at hw
    omega
  have HL := Lib.hid (fun w (g : W.grownBy w none) => multiPoint_any h B w d r hr p q n cap m c2 f kids hm (hk.mono g) hw)
  have HM := Lib.hid (fun v w (g : W.grownBy w none) (hv : MPIs w v (mpR r (ptsOf kids)) ((ptsOf kids).map fun t => t.force (dimsP (ptsOf kids)))) => MPAsText_any T hT _ v _ hl w hv (ht.mono g (by simp) (by simp)))
  generalize ((ptsOf kids).map fun t => t.force (dimsP (ptsOf kids))) = ps at HL HM ⊢
  generalize mpR r (ptsOf kids) = rr at HL HM ⊢
  clear hr hk hw ht hl hm
  go_enter Tryz.func13, Tryz.ntmps13
  go_wp2_with (first
    | (go_at_call 33; refine (HL.out _ HG.out).mono ?_; rintro e w' ⟨v, rfl, hv, hg1⟩; have Hv := Lib.hid hv; clear hv)
    | (go_at_call 34; refine (HM.out _ _ (gt_trans HG.out hg1 (.inl rfl)) Hv.out).mono ?_; rintro e w'' ⟨rfl, hg2⟩))
  go_ret
  exact ⟨rfl, gt_trans (gt_trans HG.out hg1 (.inl rfl)) hg2 (.inl rfl)⟩


theorem kindOf_new (t : Raw) : kindOf (newT t) = kindN (kindOf t) := by
  obtain ⟨k, d, n, f, kids⟩ := t
  unfold newT
  split
  · next h => exact h.symm
  · split
    · next h => exact h.symm
    · unfold nodeT
      split
      · rfl
      · rfl
theorem keep4 (t : Raw) : keepT 4 (newT t) = decide (kindOf t = 1) := by
  unfold keepT
  rw [kindOf_new]
  have e : kidOf 4 = 1 := by unfold kidOf; rw [if_pos rfl]
  rw [e]
  have e2 : decide ((1 : Int) < 0) = false := by decide
  rw [e2, Bool.false_or]
  apply decide_eq_decide.2
  unfold kindN
  split
  · omega
  · omega
theorem kept4 : ∀ kids : List Raw, (newTs kids).filter (keepT 4) = (kids.filter fun t => decide (kindOf t = 1)).map newT
  | [] => rfl
  | t :: ts => by
    have h := kept4 ts
    have hk := keep4 t
    unfold newTs
    by_cases hp : kindOf t = 1
    · rw [List.filter_cons_of_pos (by rw [hk]; simpa using hp), List.filter_cons_of_pos (by simpa using hp), h]; rfl
    · rw [List.filter_cons_of_neg (by rw [hk]; simpa using hp), List.filter_cons_of_neg (by simpa using hp), h]
theorem ptOf_r (r n : Nat) (f : Nat → Nat) : (ptOf r n f).r = r := by unfold ptOf; split <;> rfl
theorem new1 (d : Int) (n : Nat) (f : Nat → Nat) (kids : List Raw) : newT (.mk 1 d n f kids) = .mk 1 (d % 4) (min (n / widN (d % 4).toNat) 1 * widN (d % 4).toNat) f [] := by
  unfold newT
  rw [if_pos (by decide)]
theorem dims4 : ∀ ts : List Raw, (∀ t ∈ ts, kindOf t = 1) → dimsOf (ts.map newT) = dimsP (ts.map ptR)
  | [], _ => rfl
  | t :: ts, h => by
    have h1 := dims4 ts (fun s hs => h s (List.mem_cons_of_mem _ hs))
    have hk := h t List.mem_cons_self
    obtain ⟨k, d, n, f, kids⟩ := t
    have hk : k = 1 := hk
    subst hk
    show dimR (newT _) &&& dimsOf (ts.map newT) = (ptR _).r &&& dimsP (ts.map ptR)
    rw [h1, new1]
    show (d % 4).toNat &&& _ = (ptOf _ _ _).r &&& _
    rw [ptOf_r]
theorem fF_place (r D : Nat) (hr : r < 4) (hD : D < 4) (f : Nat → Nat) : plX D (fF r D f) 0 = plX r f 0 ∧ plY D (fF r D f) 0 = plY r f 0 ∧ plZ D (fF r D f) 0 = (if r % 2 = D % 2 then plZ r f 0 else 0) ∧ plM D (fF r D f) 0 = (if r / 2 = D / 2 then plM r f 0 else 0) := by
  rcases (by omega : r = 0 ∨ r = 1 ∨ r = 2 ∨ r = 3) with rfl | rfl | rfl | rfl <;> rcases (by omega : D = 0 ∨ D = 1 ∨ D = 2 ∨ D = 3) with rfl | rfl | rfl | rfl <;> simp [plX, plY, plZ, plM, fF, widN]
theorem joinC_one (x : List UInt8) : joinC [x] = x := by
  have h := joinC_snoc [] x
  rw [List.nil_append] at h
  rw [h]
  simp [joinC, cTo]
theorem body1 (T : Nat → Int) (t : Raw) (hk : kindOf t = 1) (D : Nat) (hD : D < 4) : bodyT T (forceT D (newT t)) = ptB T 40 ((ptR t).force D) := by
  obtain ⟨k, d, n, f, kids⟩ := t
  have hk : k = 1 := hk
  subst hk
  rw [new1]
  show _ = ptB T 40 ((ptOf (d % 4).toNat n f).force D)
  obtain ⟨r, hr, hr4⟩ : ∃ r : Nat, (d % 4).toNat = r ∧ r < 4 := ⟨_, rfl, by omega⟩
  rw [hr]
  unfold forceT bodyT
  rw [hr]
  have hw := widN_le r hr4
  have hwD := widN_le D hD
  have e0 : bodyTs T (decide ((1 : Int) = 0)) (forceTs D []) = [] := by unfold forceTs bodyTs; rfl
  rw [e0, List.append_nil, Nat.mul_div_cancel _ (by omega : 0 < widN r), Int.toNat_natCast, Nat.mul_div_cancel _ (by omega : 0 < widN D)]
  by_cases hL : n / widN r = 0
  · have e1 : ptOf r n f = ptE r := by unfold ptOf; rw [if_pos hL]
    have e2 : (ptE r).force D = ptE D := by unfold Pt.force; rw [if_neg (by simp [ptE])]
    rw [e1, e2, hL]
    have e3 : plTs T D (fF r D f) (min 0 1) = [] := by simp [plTs]
    rw [e3]
    unfold wrapP ptB
    rw [if_pos rfl, if_neg (by simp [ptE])]
    rfl
  · have e1 : ptOf r n f = ⟨plX r f 0, plY r f 0, plZ r f 0, plM r f 0, r, true⟩ := by unfold ptOf; rw [if_neg hL]
    have hmin : min (n / widN r) 1 = 1 := by have := Nat.one_le_iff_ne_zero.2 hL; omega
    rw [e1, hmin]
    obtain ⟨p1, p2, p3, p4⟩ := fF_place r D hr4 hD f
    have e3 : plTs T D (fF r D f) 1 = [wktPl T (plX r f 0) (plY r f 0) (if r % 2 = D % 2 then plZ r f 0 else 0) (if r / 2 = D / 2 then plM r f 0 else 0) D] := by
      rw [← p1, ← p2, ← p3, ← p4]
      simp [plTs]
    rw [e3]
    unfold wrapP Pt.force
    rw [if_neg (by simp), if_pos rfl, joinC_one]
    unfold ptB
    rw [if_pos rfl]
theorem bodies4 (T : Nat → Int) (D : Nat) (hD : D < 4) : ∀ ts : List Raw, (∀ t ∈ ts, kindOf t = 1) → bodyTs T false (forceTs D (ts.map newT)) = ((ts.map ptR).map fun t => t.force D).map (ptB T 40)
  | [], _ => by simp [forceTs, bodyTs]
  | t :: ts, h => by
    have h1 := bodies4 T D hD ts (fun s hs => h s (List.mem_cons_of_mem _ hs))
    have h2 := body1 T t (h t List.mem_cons_self) D hD
    simp only [List.map_cons, forceTs, bodyTs, cond_false]
    rw [h2, h1]
theorem mp_text (T : Nat → Int) (d : Int) (r n : Nat) (hr : d % 4 = r) (hr4 : r < 4) (f : Nat → Nat) (kids : List Raw) : mpW T (mpR r (ptsOf kids)) ((ptsOf kids).map fun t => t.force (dimsP (ptsOf kids))) = textT T (newT (.mk 4 d n f kids)) := by
  have hrt : (d % 4).toNat = r := by rw [hr]; rfl
  have e : newT (.mk 4 d n f kids) = nodeT 4 r f ((kids.filter fun t => decide (kindOf t = 1)).map newT) := by
    unfold newT
    rw [if_neg (by decide), if_neg (by decide), hrt]
    have : kindN 4 = 4 := by decide
    rw [this, kept4]
  rw [e]
  have hmem : ∀ t ∈ (kids.filter fun t => decide (kindOf t = 1)), kindOf t = 1 := fun t ht => by simpa using (List.mem_filter.1 ht).2
  unfold ptsOf
  generalize (kids.filter fun t => decide (kindOf t = 1)) = ks at hmem
  have hw := widN_le r hr4
  have hn4 : nameT 4 = nMP := by decide
  by_cases hks : ks = []
  · subst hks
    show mpW T r [] = textT T (nodeT 4 r f [])
    unfold nodeT
    rw [if_pos rfl]
    unfold textT mpW
    have e1 : plTs T (r : Int).toNat f (0 / widN (r : Int).toNat) = [] := by rw [Nat.zero_div]; simp [plTs]
    have e2 : bodyTs T (decide ((4 : Int) = 0)) [] = [] := by unfold bodyTs; rfl
    rw [e1, e2, List.append_nil, if_pos (show ([] : List Pt).length = 0 from rfl), Int.toNat_natCast, hn4]
    by_cases hr0 : r = 0
    · subst hr0; rfl
    · rw [if_neg hr0, if_neg hr0]
      have : wE 32 = EMPTY := by decide
      rw [this]
      rfl
  · have hne : ¬ ks.map newT = [] := by simpa using hks
    have hne2 : ¬ ks.map ptR = [] := by simpa using hks
    have hD4 := dimsP_lt (ks.map ptR)
    unfold nodeT mpR
    rw [if_neg hne, if_neg hne2, dims4 ks hmem]
    generalize dimsP (ks.map ptR) = D at hD4
    unfold forceT textT mpW
    have eb : decide ((4 : Int) = 0) = false := by decide
    rw [eb, bodies4 T D hD4 ks hmem]
    have e1 : plTs T (D : Int).toNat (fF (r : Int).toNat D f) (0 / widN (r : Int).toNat * widN D / widN (D : Int).toNat) = [] := by rw [Nat.zero_div, Nat.zero_mul, Nat.zero_div]; simp [plTs]
    rw [e1, List.nil_append, Int.toNat_natCast, hn4]
    have hl : ¬ (((ks.map ptR).map fun t => t.force D)).length = 0 := by simpa using hks
    have hl2 : ¬ ((ks.map ptR).map fun t => t.force D).map (ptB T 40) = [] := by simpa using hks
    rw [if_neg hl, if_neg hl2]
    unfold wrapP
    rw [if_neg hl2]
    by_cases hD0 : D = 0
    · subst hD0; rfl
    · rw [if_neg hD0]
end Go.Proofs.YthcjnadceambgaaGreatDoor
