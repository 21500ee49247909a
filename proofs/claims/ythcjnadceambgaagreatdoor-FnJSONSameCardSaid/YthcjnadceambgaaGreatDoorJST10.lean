/- Several points, made of a geometry. The reference's text of a geometry, walked. The reference's text of a geometry, walked: the body. -/
import Derived.Test.YthcjnadceambgaaGreatDoorJST9
namespace Go.Proofs.YthcjnadceambgaaGreatDoor
open Go.RowKit

set_option maxRecDepth 100000 in
set_option maxHeartbeats 1000000 in
theorem MPForce_nil (r : Nat) (hr : r < 4) (W : World) :
    Calls Tryz.prog 61 #[.agg #[.slice none 0 0, .int .u8 0], .int .u8 r] W fun e w' => ∃ v, e = .returned v ∧ MPIs w' v r [] ∧ W.grownBy w' none := by
  have HG := Lib.hid (gt_alloc_r (World.grownBy_alloc W (.cells #[.slice none 0 0, .int .u8 0] 53) none) (.cells #[.slice none 0 0, .int .u8 0] 53))
  have HF := Lib.hid (fun w => forceSlice_any r hr none [] 0 0 rfl (by omega) (fun t h => by simp at h) w ⟨fun h => absurd h (by simp), (fun a h => by cases h)⟩)
  have HC : Hid (∀ w, ((W.alloc (.cells #[.slice none 0 0, .int .u8 0] 53)).alloc (.cells #[.slice none 0 0, .int .u8 0] 53)).grownBy w none → w.cell? ⟨W.heap.size + 1, 0, none⟩ = some (.slice none 0 0) ∧ w.cell? ⟨W.heap.size + 1, 1, none⟩ = some (.int .u8 0) ∧ w.frozen? ⟨W.heap.size + 1, 0, none⟩ = false ∧ w.frozen? ⟨W.heap.size + 1, 1, none⟩ = false) := fun w g => by
    have hb := g.block (W.heap.size + 1) (by simp) (by simp)
    refine ⟨g.cell (by simp) (by simp), g.cell (by simp) (by simp), ?_, ?_⟩ <;> (rw [World.frozen?_of_block hb]; simp)
  go_enter Tryz.func61, Tryz.ntmps61
  go_wp2_with (first
    | (go_at_call 119; refine (HF.out _).mono ?_; rintro e w2 ⟨a, rfl, hpr, hab, hg2⟩; obtain ⟨x0, x1, f0, f1⟩ := HC.out _ hg2))
  refine bodyPost_ret (by simp [results, Tryz.results61, go_sem, x0, x1]; try rfl) rfl ?_
  refine ⟨_, rfl, ⟨hr, (fun t h => by simp at h), some a, 0, rfl, ⟨fun h => absurd h (by simp), fun a' _ i t h => by simp at h⟩⟩, gt_set_r (gt_set_r (gt_trans HG.out hg2 (.inl rfl)) _ _ (Nat.le_succ _)) _ _ (Nat.le_succ _)⟩

def flatP (ps : List Pt) : List Value := ps.flatMap Pt.cs
theorem flatP_snoc (ps : List Pt) (t : Pt) : flatP (ps ++ [t]) = flatP ps ++ t.cs := by simp [flatP]
theorem flatP_at : ∀ (ps : List Pt) (i : Nat) (t : Pt), ps[i]? = some t → ∀ o u, t.cs[o]? = some u → (flatP ps)[i * 6 + o]? = some u
  | [], i, t, h, _, _, _ => by simp at h
  | s :: ps, 0, t, h, o, u, hu => by
    simp at h
    subst h
    have ho : o < 6 := (List.getElem?_eq_some_iff.1 hu).1
    show (s.cs ++ flatP ps)[0 * 6 + o]? = some u
    rw [List.getElem?_append_left (by show 0 * 6 + o < 6; omega), Nat.zero_mul, Nat.zero_add]
    exact hu
  | s :: ps, i + 1, t, h, o, u, hu => by
    show (s.cs ++ flatP ps)[(i + 1) * 6 + o]? = some u
    rw [List.getElem?_append_right (by show 6 ≤ _; omega)]
    have e : (i + 1) * 6 + o - s.cs.length = i * 6 + o := by show (i + 1) * 6 + o - 6 = _; omega
    rw [e]
    exact flatP_at ps i t (by simpa using h) o u hu
theorem PR.of_own {w : World} {base n c : Nat} {e : TypeId} {p : Option Addr} {ps : List Pt} (hn : ps.length = n) (h : w.ownsRow base e 6 (.slice p n c) n (flatP ps)) : PR w p ps := by
  refine ⟨fun hpos => ?_, fun a ha i t hi => ?_⟩
  · rcases h.2 with ⟨_, h0⟩ | ⟨g, cap, cur, hv, _⟩
    · omega
    · injection hv with hv
      exact ⟨_, hv⟩
  · subst ha
    have hin : i < n := by have := (List.getElem?_eq_some_iff.1 hi).1; omega
    rcases h.2 with ⟨hv, h0⟩ | ⟨g, cap, cur, hv, _⟩
    · omega
    · injection hv with hv
      injection hv with hv
      subst hv
      have key : ∀ o u, t.cs[o]? = some u → w.cell? ⟨g, i * 6 + o, none⟩ = some u := fun o u hu => by
        have ho6 : o < 6 := (List.getElem?_eq_some_iff.1 hu).1
        rw [h.cellAt _ (by omega)]
        exact flatP_at ps i t hi o u hu
      rw [addr0]
      exact ⟨key 0 _ rfl, key 1 _ rfl, key 2 _ rfl, key 3 _ rfl, key 4 _ rfl, key 5 _ rfl⟩

/-- The point that a geometry of kind 1 makes. -/
def ptR : Raw → Pt
  | .mk _ d n f _ => ptOf (d % 4).toNat n f
def ptsOf (kids : List Raw) : List Pt := (kids.filter fun t => decide (kindOf t = 1)).map ptR
theorem ptsOf_take (kids : List Raw) (j : Nat) (t : Raw) (h : kids[j]? = some t) : ptsOf (kids.take (j + 1)) = ptsOf (kids.take j) ++ (if kindOf t = 1 then [ptR t] else []) := by
  obtain ⟨hlt, rfl⟩ := List.getElem?_eq_some_iff.1 h
  unfold ptsOf
  rw [List.take_succ_eq_append_getElem hlt, List.filter_append, List.map_append]
  congr 1
  by_cases hp : kindOf kids[j] = 1
  · rw [if_pos hp, List.filter_cons_of_pos (by simpa using hp)]; rfl
  · rw [if_neg hp, List.filter_cons_of_neg (by simpa using hp)]; rfl
theorem ptsOf_len (kids : List Raw) : (ptsOf kids).length ≤ kids.length := by
  unfold ptsOf
  rw [List.length_map]
  exact List.length_filter_le _ _
def mpR (r : Nat) (ps : List Pt) : Nat := if ps = [] then r else dimsP ps
theorem ptOf_ok (r n : Nat) (f : Nat → Nat) (hr : r < 4) (hf : ∀ i, f i < 18446744073709551616) : (ptOf r n f).Ok := by
  unfold ptOf
  split
  · exact ⟨Nat.zero_lt_succ _, Nat.zero_lt_succ _, Nat.zero_lt_succ _, Nat.zero_lt_succ _, hr⟩
  · refine ⟨hf _, hf _, ?_, ?_, hr⟩
    · show plZ r f 0 < _
      unfold plZ
      split
      · exact hf _
      · exact Nat.zero_lt_succ _
    · show plM r f 0 < _
      unfold plM
      split
      · exact hf _
      · exact Nat.zero_lt_succ _

set_option maxRecDepth 100000 in
set_option maxHeartbeats 4000000 in
theorem multiPoint_any (h : Nat) (B : Nat → Prop) (W : World) (d : Int) (r : Nat) (hr : d % 4 = r) (p q : Option Addr) (n cap m c2 : Nat) (f : Nat → Nat) (kids : List Raw) (hm : kids.length = m)
    (hk : KD B (h + 1) W (.agg #[.int .i64 4, .int .i64 d, .slice p n cap, .slice q m c2]) (.mk 4 d n f kids)) (hw : wt (.mk 4 d n f kids) ≤ 2000) :
    Calls Tryz.prog 33 #[.agg #[.int .i64 4, .int .i64 d, .slice p n cap, .slice q m c2]] W fun e w' => ∃ v, e = .returned v ∧ MPIs w' v (mpR r (ptsOf kids)) ((ptsOf kids).map fun t => t.force (dimsP (ptsOf kids))) ∧ W.grownBy w' none := by
  obtain ⟨p', cap', q', c2', e0, hf, h1, h2, h3, hm1, hm2, hm3, hm4, _⟩ := hk
  obtain ⟨rfl, rfl, rfl, rfl⟩ : p = p' ∧ cap = cap' ∧ q = q' ∧ c2 = c2' := by simp [hm] at e0; exact ⟨e0.1.1, e0.1.2, e0.2.1, e0.2.2⟩
  have hr4 : r < 4 := by omega
  rw [hm] at hm1
  have hwk : wts kids ≤ 2000 := by unfold wt at hw; omega
  have hml : m ≤ 2000 := by have := wts_len kids; omega
  have HKid := Lib.hid (fun w (g : W.grownBy w none) a (ha : q = some a) j t (hj : kids[j]? = some t) => (by
      obtain ⟨c0, c1, c2, c3, k0, k1, k2, k3, k4⟩ := hm4 a ha j t hj
      exact ⟨c0, c1, c2, c3, k0.mono g, g.cell k1 (by simp), g.cell k2 (by simp), g.cell k3 (by simp), g.cell k4 (by simp)⟩ : ∃ c0 c1 c2 c3, KD B h w (.agg #[c0, c1, c2, c3]) t ∧ w.cell? (a.add (j * 4)) = some c0 ∧ w.cell? ⟨(a.add (j * 4)).block, (a.add (j * 4)).off + 1, none⟩ = some c1 ∧ w.cell? ⟨(a.add (j * 4)).block, (a.add (j * 4)).off + 2, none⟩ = some c2 ∧ w.cell? ⟨(a.add (j * 4)).block, (a.add (j * 4)).off + 3, none⟩ = some c3))
  have HGt : Hid (∀ j, j < m → ∃ t, kids[j]? = some t) := fun j hj => ⟨kids[j]'(by omega), List.getElem?_eq_getElem (by omega)⟩
  have HWt := Lib.hid (fun j t (hj : kids[j]? = some t) => (by have := wts_mem kids j t hj; omega : wt t ≤ 2000))
  have HPT := Lib.hid (fun j t (hj : kids[j]? = some t) => ptsOf_take kids j t hj)
  have HLen : Hid (∀ j, j ≤ m → (ptsOf (kids.take j)).length ≤ 2000) := fun j hj => by
    have := ptsOf_len (kids.take j)
    rw [List.length_take] at this
    omega
  have HPE : Hid (ptsOf (kids.take m) = ptsOf kids) := by rw [← hm, List.take_length]; rfl
  have hqn := Lib.hid hm3
  have HP0 : Hid (ptsOf (kids.take 0) = []) := by simp [ptsOf]; exact trivial
  have HG := Lib.hid (gt_alloc_r (World.grownBy_alloc W (.cells #[.int .i64 4, .int .i64 d, .slice p n cap, .slice q m c2] 25) none) (.cells #[.slice none 0 0, .int .u8 0] 53))
  have HA : Hid (∀ w, ((W.alloc (.cells #[.int .i64 4, .int .i64 d, .slice p n cap, .slice q m c2] 25)).alloc (.cells #[.slice none 0 0, .int .u8 0] 53)).grownBy w none → w.cell? ⟨W.heap.size, 0, none⟩ = some (.int .i64 4) ∧ w.cell? ⟨W.heap.size, 1, none⟩ = some (.int .i64 d)) := fun w g => ⟨g.cell (by simp) (by simp), g.cell (by simp) (by simp)⟩
  have HC : Hid (∀ w, ((W.alloc (.cells #[.int .i64 4, .int .i64 d, .slice p n cap, .slice q m c2] 25)).alloc (.cells #[.slice none 0 0, .int .u8 0] 53)).grownBy w none → w.cell? ⟨W.heap.size + 1, 0, none⟩ = some (.slice none 0 0) ∧ w.cell? ⟨W.heap.size + 1, 1, none⟩ = some (.int .u8 0) ∧ w.frozen? ⟨W.heap.size + 1, 0, none⟩ = false ∧ w.frozen? ⟨W.heap.size + 1, 1, none⟩ = false) := fun w g => by
    have hb := g.block (W.heap.size + 1) (by simp) (by simp)
    refine ⟨g.cell (by simp) (by simp), g.cell (by simp) (by simp), ?_, ?_⟩ <;> (rw [World.frozen?_of_block hb]; simp)
  have HO := Lib.hid (fun w => dimOf_r d r hr w)
  have HFN := Lib.hid (fun w => MPForce_nil r hr4 w)
  clear hm4 hm3 hf hw e0 hr hm hwk
  generalize hW0 : (W.alloc (.cells #[.int .i64 4, .int .i64 d, .slice p n cap, .slice q m c2] 25)).alloc (.cells #[.slice none 0 0, .int .u8 0] 53) = W0 at HG HA HC
  have hs0 : W.heap.size + 2 ≤ W0.heap.size := by rw [← hW0]; simp
  have HW0 := Lib.hid hW0
  clear hW0
  go_enter Tryz.func33, Tryz.ntmps33
  go_wp2_with fail
  rw [HW0.out]
  clear HW0
  go_loopw [3, 9] (fun x i wr => ∃ j : Nat, j ≤ m ∧ i = .int .i64 j ∧ (∀ t ∈ ptsOf (kids.take j), t.Ok) ∧ AppV 71 6 W0.heap.size W0 (.slice none 0 0) wr x (ptsOf (kids.take j)).length (flatP (ptsOf (kids.take j)))) (fun _ i _ => m - (intOf i).toNat)
  case atStart => exact ⟨0, by omega, rfl, by rw [HP0.out]; intro t h; simp at h, by rw [HP0.out]; exact AppV.nil _ _ _ _⟩
  case round =>
    obtain ⟨j, hj, rfl, hok, H⟩ := hrel
    rename World => wr
    have g0 := H.grown0
    have Gw := gt_trans HG.out g0 (.inl rfl)
    obtain ⟨k0, k1⟩ := HA.out _ g0
    obtain ⟨px, cx, rfl⟩ := H.slice
    have hlen := HLen.out j hj
    have hbig : W.heap.size < wr.heap.size := by have := g0.size; omega
    have hbig2 : W.heap.size + 1 < wr.heap.size := by have := g0.size; omega
    by_cases hjm : j < m
    · obtain ⟨t, ht⟩ := HGt.out j hjm
      obtain ⟨a, rfl⟩ : ∃ a, q = some a := by
        cases q with
        | none => have := hqn.out rfl; omega
        | some a => exact ⟨a, rfl⟩
      obtain ⟨c0, c1, c2, c3, kk, q0, q1, q2, q3⟩ := HKid.out wr Gw a rfl j t ht
      have hwt := HWt.out j t ht
      have hpt := HPT.out j t ht
      clear ht
      obtain ⟨e1, d1, n1, f1, kids1, p1, cap1, q1', cq1, rfl, rfl, rfl, rfl, rfl⟩ := kk.form4
      generalize hm1' : kids1.length = m1 at q3
      obtain ⟨l, hl⟩ : ∃ l, l = (ptsOf (kids.take j)).length := ⟨_, rfl⟩
      by_cases he1 : e1 = 1
      · subst he1
        have hn1 : n1 ≤ 2000 := by unfold wt at hwt; omega
        have hfv : FVal wr p1 n1 f1 := by
          cases h with
          | zero => exact kk.elim
          | succ h =>
            obtain ⟨pp, cc, qq, cc2, ee, hf1, _⟩ := kk
            simp at ee
            obtain ⟨⟨rfl, rfl⟩, _⟩ := ee
            exact hf1
        obtain ⟨r1, hr1⟩ : ∃ r1 : Nat, d1 % 4 = r1 := ⟨(d1 % 4).toNat, by omega⟩
        have hptR : ptR (.mk 1 d1 n1 f1 kids1) = ptOf r1 n1 f1 := by show ptOf (d1 % 4).toNat n1 f1 = _; rw [hr1]; rfl
        have hkk : kindOf (.mk 1 d1 n1 f1 kids1) = 1 := rfl
        rw [if_pos hkk, hptR] at hpt
        have hok1 := ptOf_ok r1 n1 f1 (by omega) hfv.lt
        have HPn := Lib.hid (fun w (g : wr.grownBy w none) => point_any d1 r1 hr1 p1 q1' n1 cap1 m1 cq1 f1 hn1 w (hfv.mono g))
        clear kk hfv hkk hptR hwt
        revert HPn hpt hok1
        generalize ptOf r1 n1 f1 = Q
        obtain ⟨qx, qy, qz, qm, qr, qb⟩ := Q
        intro hpt hok1 HPn
        have HPt2 : Hid (∀ w (g : wr.grownBy w none), Calls Tryz.prog 41 #[.agg #[.int .i64 1, .int .i64 d1, .slice p1 n1 cap1, .slice q1' m1 cq1]] w fun e w' => e = .returned (.agg #[.float .f64 qx, .float .f64 qy, .float .f64 qz, .float .f64 qm, .int .u8 qr, .bool qb]) ∧ w.grownBy w' none) := HPn.out
        have hfin : Hid (∀ v1 w1, AppV 71 6 W0.heap.size W0 (.slice none 0 0) w1 v1 ((ptsOf (kids.take j)).length + 1) (flatP (ptsOf (kids.take j)) ++ [.float .f64 qx, .float .f64 qy, .float .f64 qz, .float .f64 qm, .int .u8 qr, .bool qb]) → (∀ t ∈ ptsOf (kids.take (j + 1)), t.Ok) ∧ AppV 71 6 W0.heap.size W0 (.slice none 0 0) w1 v1 (ptsOf (kids.take (j + 1))).length (flatP (ptsOf (kids.take (j + 1))))) := fun v1 w1 hh => by
          rw [hpt, flatP_snoc, List.length_append]
          exact ⟨fun t ht => by rcases List.mem_append.1 ht with ht | ht; exact hok t ht; rw [List.mem_singleton.1 ht]; exact hok1, hh⟩
        have HB5 : Hid (∀ w, wr.grownBy w none → AppV 71 6 W0.heap.size W0 (.slice none 0 0) w (.slice px (ptsOf (kids.take j)).length cx) (ptsOf (kids.take j)).length (flatP (ptsOf (kids.take j)))) := fun w g => H.beside g
        have HG5 := Lib.hid (World.grownBy_alloc wr (.cells #[.int .i64 1, .int .i64 d1, .slice p1 n1 cap1, .slice q1' m1 cq1] 25) none)
        clear HPn hpt hok1 hok H hl
        generalize (ptsOf (kids.take j)).length = l at HB5 hfin hlen ⊢
        generalize flatP (ptsOf (kids.take j)) = cs at HB5 hfin
        go_wp2_with (first
          | (go_at_call 41; refine (HPt2.out _ HG5.out).mono ?_; rintro e w2 ⟨rfl, hg2⟩; have G2 := gt_trans HG5.out hg2 (.inl rfl))
          | (at_builtin; refine app_cells rfl _ _ _ rfl Tryz.underlying51 (.agg #[.float .f64 0, .float .f64 0, .float .f64 0, .float .f64 0, .int .u8 0, .bool false]) 48 infoPt rfl (by omega) (HB5.out _ G2) rfl rfl (by first | rfl | simp) _ (by first | rfl | simp) (by simp [Value.oneCell']) (Nat.le_refl _) (by omega) (by omega) ?_; intro v1 w1 H1; have HH := Lib.hid (hfin.out _ _ H1); clear H1))
        exact ⟨⟨j + 1, by omega, by go_num, HH.out⟩, by simp [intOf]; omega⟩
      · have hkk : ¬ kindOf (.mk e1 d1 n1 f1 kids1) = 1 := he1
        rw [if_neg hkk, List.append_nil] at hpt
        have HFin : Hid (∀ w, wr.grownBy w none → (∀ t ∈ ptsOf (kids.take (j + 1)), t.Ok) ∧ AppV 71 6 W0.heap.size W0 (.slice none 0 0) w (.slice px (ptsOf (kids.take j)).length cx) (ptsOf (kids.take (j + 1))).length (flatP (ptsOf (kids.take (j + 1))))) := fun w g => by rw [hpt]; exact ⟨hok, H.beside g⟩
        have hb1 : (e1 == 1) = false := by simpa using he1
        clear hkk hpt kk hwt hok H hl
        generalize (ptsOf (kids.take j)).length = l at HFin hlen ⊢
        go_wp2_with fail
        exact ⟨⟨j + 1, by omega, by go_num, HFin.out _ (World.grownBy_alloc _ _ _)⟩, by simp [intOf]; omega⟩
    · obtain rfl : j = m := by omega
      rw [HPE.out] at H hok hlen ⊢
      clear HPE HPT HLen HKid HGt HWt HP0
      have hok' := hok
      obtain ⟨ps, hpsd⟩ : ∃ ps, ps = ptsOf kids := ⟨_, rfl⟩
      have HPS := Lib.hid hpsd
      rw [← hpsd] at H hok hlen ⊢
      clear hpsd hok'
      by_cases hps : ps = []
      · have hmr : mpR r (ptsOf kids) = r := by unfold mpR; rw [if_pos (HPS.out ▸ hps)]
        have hmap : ((ptsOf kids).map fun t => t.force (dimsP (ptsOf kids))) = [] := by rw [← HPS.out, hps]; rfl
        have HE1 := Lib.hid (And.intro hmr hmap)
        have hl0 : ps.length = 0 := by rw [hps]; rfl
        rw [hl0]
        clear hmr hmap hps hl0 H hok hlen HPS
        go_wp2_with fail
        go_wp2_with (first
          | (go_at_call 62; refine (HO.out _).mono ?_; rintro e w3 ⟨rfl, rfl⟩)
          | (go_at_call 61; refine (HFN.out _).mono ?_; rintro e w2 ⟨v, rfl, hmp, hg2⟩; obtain ⟨hv1, hv2, pp, cc, rfl, hv3⟩ := hmp; obtain ⟨x0, x1, f0, f1⟩ := HC.out _ (gt_trans g0 hg2 (.inl rfl))))
        refine bodyPost_ret (by simp [results, Tryz.results33, go_sem, x0, x1]; try rfl) rfl ?_
        refine ⟨_, rfl, ?_, gt_set_r (gt_set_r (gt_trans Gw hg2 (.inl rfl)) _ _ (Nat.le_succ _)) _ _ (Nat.le_succ _)⟩
        rw [HE1.out.1, HE1.out.2]
        exact ⟨hv1, hv2, pp, cc, rfl, ⟨fun h => absurd h (by simp), fun a' _ i t h => by simp at h⟩⟩
      · have hmr : mpR r (ptsOf kids) = dimsP ps := by unfold mpR; rw [if_neg (HPS.out ▸ hps), HPS.out]
        have hl0 : 0 < ps.length := Nat.pos_of_ne_zero fun e => hps (List.eq_nil_of_length_eq_zero e)
        have hpr : PR wr px ps := PR.of_own rfl H.own
        have HNM := Lib.hid (fun w (g : wr.grownBy w none) => NewMultiPoint_any px ps ps.length cx rfl hl0 hlen hok w (hpr.mono g) (fun a ha => by subst ha; have := (H.own.lt a.block rfl).2; exact Nat.lt_of_lt_of_le this g.size))
        have hbl : ((ps.length : Int) == 0) = false := by rw [beq_eq_false_iff_ne]; omega
        have HMR : Hid (∀ (w : World) v, MPIs w v (dimsP ps) (ps.map fun t => t.force (dimsP ps)) → MPIs w v (mpR r (ptsOf kids)) ((ptsOf kids).map fun t => t.force (dimsP (ptsOf kids)))) := fun w v h => by rw [hmr, ← HPS.out]; exact h
        have hml2 : (ps.map fun t => t.force (dimsP ps)).length = ps.length := by simp
        obtain ⟨qs, hqs⟩ : ∃ qs, qs = ps.map fun t => t.force (dimsP ps) := ⟨_, rfl⟩
        rw [← hqs] at HNM HMR hml2
        generalize dimsP ps = D at HNM HMR
        clear hmr hps hpr H hok HPS hqs
        generalize ps.length = l at HNM hbl hl0 hlen hml2 ⊢
        go_wp2_with fail
        go_wp2_with (first
          | (go_at_call 63; refine (HNM.out _ (gt_refl _ _)).mono ?_; rintro e w2 ⟨v, rfl, hmp, hbk, hg2⟩; obtain ⟨hv1, hv2, pp, cc, rfl, hv3⟩ := hmp; obtain ⟨x0, x1, f0, f1⟩ := HC.out _ (gt_trans g0 hg2 (.inl rfl))))
        refine bodyPost_ret (by simp [results, Tryz.results33, go_sem, x0, x1]; try rfl) rfl ?_
        refine ⟨_, rfl, ?_, gt_set_r (gt_set_r (gt_trans Gw hg2 (.inl rfl)) _ _ (Nat.le_succ _)) _ _ (Nat.le_succ _)⟩
        have hbk2 : ∀ a, pp = some a → a.block ≠ W.heap.size + 1 := fun a ha => by
          have := hbk pp qs.length cc (.int .u8 D) rfl a ha
          omega
        exact HMR.out _ _ ⟨hv1, hv2, pp, cc, by rw [hml2], (hv3.set hbk2 _).set hbk2 _⟩
end Go.Proofs.YthcjnadceambgaaGreatDoor
namespace Go.Proofs.YthcjnadceambgaaGreatDoor
open Go.RowKit

def sL (ps : List (List UInt8)) : List Value := ps.map fun s => .string ⟨s.toArray⟩
theorem sL_snoc (ps : List (List UInt8)) (p : List UInt8) : sL (ps ++ [p]) = sL ps ++ [.string ⟨p.toArray⟩] := by simp [sL]
theorem AppV.srowL {e base : Nat} {w0 w : World} {v0 : Value} {p : Option Addr} {n c : Nat} {ps : List (List UInt8)} (hn : n = ps.length) (h : AppV e 1 base w0 v0 w (.slice p n c) n (sL ps)) : SRow w p n (fun i => ps.getD i []) := by
  obtain ⟨h1, h2⟩ := own_at h.own
  refine ⟨h1, fun a ha i hi => h2 a ha i _ ?_⟩
  have hi' : i < ps.length := by omega
  simp [sL, hi', List.getD_eq_getElem?_getD]

def TextOk (T : Nat → Int) (h : Nat) : Prop := ∀ (B : Nat → Prop) (W : World) (v : Value) (t : Raw), KD B h W v t → dimsOk t → pl t ≤ 2000 → Tabs T W →
  Calls Tryz.prog 11 #[v] W fun e w' => e = .returned (.string ⟨(textT T t).toArray⟩) ∧ W.grownBy w' none
def BodyOk (T : Nat → Int) (h : Nat) : Prop := ∀ (B : Nat → Prop) (W : World) (v : Value) (t : Raw), KD B h W v t → dimsOk t → pl t ≤ 2000 → Tabs T W →
  Calls Tryz.prog 28 #[v] W fun e w' => e = .returned (.string ⟨(bodyT T t).toArray⟩) ∧ W.grownBy w' none

set_option maxRecDepth 100000 in
set_option maxHeartbeats 2000000 in
theorem text_of_body (T : Nat → Int) (h : Nat) (hb : BodyOk T h) : TextOk T h := by
  intro B W v t hk hd hp ht
  have HBd := Lib.hid (fun w (g : W.grownBy w none) => hb B w v t (hk.mono g) hd hp (ht.mono g (by simp) (by simp)))
  obtain ⟨k, d, n, f, kids, p, cap, q, c2, rfl, rfl⟩ := hk.form
  obtain ⟨hd0, hd4, _⟩ := hd
  obtain ⟨r, rfl⟩ := Int.eq_ofNat_of_zero_le hd0
  have hr : r < 4 := by omega
  have hbl := bodyT_len T (.mk k r n f kids)
  have hnl := nameT_len k
  obtain ⟨ps, hps⟩ : ∃ ps, ps = plTs T r f (n / widN r) ++ bodyTs T (decide (k = 0)) kids := ⟨_, rfl⟩
  have ebody : bodyT T (.mk k r n f kids) = wrapP ps := by rw [hps]; unfold bodyT; simp only [Int.toNat_natCast]
  have etext : textT T (.mk k r n f kids) = nameT k ++ (if r = 0 then (if ps = [] then [32] else []) else tag r) ++ wrapP ps := by rw [hps]; unfold textT; simp only [Int.toNat_natCast]
  rw [ebody] at HBd hbl
  rw [etext]
  have hlen : (wrapP ps).length ≤ 33000000 := by omega
  have HKN := Lib.hid (fun w => kindName_any k w)
  have HDN := Lib.hid (fun w => dimName_any r hr w)
  have HG := Lib.hid (World.grownBy_alloc W (.cells #[.int .i64 k, .int .i64 r, .slice p n cap, .slice q kids.length c2] 25) none)
  have HB : Hid (∀ W', (W.alloc (.cells #[.int .i64 k, .int .i64 r, .slice p n cap, .slice q kids.length c2] 25)).grownBy W' none → W'.cell? ⟨W.heap.size, 1, none⟩ = some (.int .i64 r)) := fun W' g => g.cell (by simp) (by simp)
  obtain ⟨Nm, hNm⟩ : ∃ Nm : ByteArray, Nm = ⟨(nameT k).toArray⟩ := ⟨_, rfl⟩
  obtain ⟨Bd, hBd⟩ : ∃ Bd : ByteArray, Bd = ⟨(wrapP ps).toArray⟩ := ⟨_, rfl⟩
  rw [← hNm] at HKN
  rw [← hBd] at HBd
  by_cases hr0 : r = 0
  · subst hr0
    by_cases hpe : ps = []
    · have ew : wrapP ps = EMPTY := (wrapP_empty ps).2 hpe
      have eB : Bd = ⟨#[69, 77, 80, 84, 89]⟩ := by rw [hBd, ew]; rfl
      obtain ⟨N1, hN1⟩ : ∃ N1 : ByteArray, N1 = ⟨(nameT k ++ [32]).toArray⟩ := ⟨_, rfl⟩
      obtain ⟨N2, hN2⟩ : ∃ N2 : ByteArray, N2 = ⟨(nameT k ++ [32] ++ EMPTY).toArray⟩ := ⟨_, rfl⟩
      have c1 := cat_run Tryz.prog (nameT k) [32] Nm ⟨#[32]⟩ N1 hNm rfl hN1 (by simp only [List.length_cons, List.length_nil]; omega)
      have c2' := cat_run Tryz.prog (nameT k ++ [32]) EMPTY N1 ⟨#[69, 77, 80, 84, 89]⟩ N2 hN1 rfl hN2 (by simp only [EMPTY, List.length_append, List.length_cons, List.length_nil]; omega)
      rw [if_pos rfl, if_pos hpe, ew, ← hN2]
      subst eB
      clear hN1 hN2 hBd hNm hps etext ebody hk ht hb hbl hpe ew
      go_enter Tryz.func11, Tryz.ntmps11
      go_wp2_with (first
        | (go_at_call 26; refine (HKN.out _).mono ?_; rintro e w' ⟨rfl, hw⟩; obtain rfl := hw.symm)
        | (go_at_call 28; refine (HBd.out _ HG.out).mono ?_; rintro e w2 ⟨rfl, hg⟩; have x1 := HB.out _ hg))
      go_ret
      exact ⟨rfl, gt_trans HG.out hg (.inl rfl)⟩
    · have hB0 : ¬ wrapP ps = EMPTY := fun e => hpe ((wrapP_empty ps).1 e)
      have hBn : (Bd.toList == [69, 77, 80, 84, 89]) = false := by
        rw [ByteArray.toList_eq, hBd]
        simpa [EMPTY] using hB0
      obtain ⟨N2, hN2⟩ : ∃ N2 : ByteArray, N2 = ⟨(nameT k ++ wrapP ps).toArray⟩ := ⟨_, rfl⟩
      have c2' := cat_run Tryz.prog (nameT k) (wrapP ps) Nm Bd N2 hNm hBd hN2 (by omega)
      rw [if_pos rfl, if_neg hpe, List.append_nil, ← hN2]
      clear hN2 hBd hNm hps etext ebody hk ht hb hbl hpe hB0
      go_enter Tryz.func11, Tryz.ntmps11
      go_wp2_with (first
        | (go_at_call 26; refine (HKN.out _).mono ?_; rintro e w' ⟨rfl, hw⟩; obtain rfl := hw.symm)
        | (go_at_call 28; refine (HBd.out _ HG.out).mono ?_; rintro e w2 ⟨rfl, hg⟩; have x1 := HB.out _ hg))
      go_ret
      exact ⟨rfl, gt_trans HG.out hg (.inl rfl)⟩
  · have hrB : ((r : Int) != 0) = true := by simpa using hr0
    have htg := tag_dimN r hr hr0
    have hdl : (dimN r).length ≤ 2 := by unfold dimN; split <;> (try split) <;> (try split) <;> decide
    obtain ⟨D0, hD0⟩ : ∃ D0 : ByteArray, D0 = ⟨(dimN r).toArray⟩ := ⟨_, rfl⟩
    obtain ⟨D1, hD1⟩ : ∃ D1 : ByteArray, D1 = ⟨([32] ++ dimN r).toArray⟩ := ⟨_, rfl⟩
    obtain ⟨N1, hN1⟩ : ∃ N1 : ByteArray, N1 = ⟨(nameT k ++ ([32] ++ dimN r)).toArray⟩ := ⟨_, rfl⟩
    obtain ⟨N2, hN2⟩ : ∃ N2 : ByteArray, N2 = ⟨(nameT k ++ ([32] ++ dimN r) ++ [32]).toArray⟩ := ⟨_, rfl⟩
    obtain ⟨N3, hN3⟩ : ∃ N3 : ByteArray, N3 = ⟨(nameT k ++ ([32] ++ dimN r) ++ [32] ++ wrapP ps).toArray⟩ := ⟨_, rfl⟩
    have c0 := cat_run Tryz.prog [32] (dimN r) ⟨#[32]⟩ D0 D1 rfl hD0 hD1 (by simp only [List.length_cons, List.length_nil]; omega)
    have c1 := cat_run Tryz.prog (nameT k) ([32] ++ dimN r) Nm D1 N1 hNm hD1 hN1 (by simp only [List.length_append, List.length_cons, List.length_nil]; omega)
    have c2' := cat_run Tryz.prog (nameT k ++ ([32] ++ dimN r)) [32] N1 ⟨#[32]⟩ N2 hN1 rfl hN2 (by simp only [List.length_append, List.length_cons, List.length_nil]; omega)
    have c3 := cat_run Tryz.prog (nameT k ++ ([32] ++ dimN r) ++ [32]) (wrapP ps) N2 Bd N3 hN2 hBd hN3 (by simp only [List.length_append, List.length_cons, List.length_nil]; omega)
    have eN : nameT k ++ (if r = 0 then (if ps = [] then [32] else []) else tag r) ++ wrapP ps = nameT k ++ ([32] ++ dimN r) ++ [32] ++ wrapP ps := by rw [if_neg hr0, htg]; simp only [List.append_assoc]
    rw [eN, ← hN3]
    rw [← hD0] at HDN
    clear hN1 hN2 hN3 hD0 hD1 hBd hNm hps etext ebody hk ht hb hbl eN htg hr0 hdl hlen hnl
    go_enter Tryz.func11, Tryz.ntmps11
    go_wp2_with (first
      | (go_at_call 26; refine (HKN.out _).mono ?_; rintro e w' ⟨rfl, hw⟩; obtain rfl := hw.symm)
      | (go_at_call 27; refine (HDN.out _).mono ?_; rintro e w' ⟨rfl, hw⟩; obtain rfl := hw.symm)
      | (go_at_call 28; refine (HBd.out _ HG.out).mono ?_; rintro e w2 ⟨rfl, hg⟩; have x1 := HB.out _ hg))
    go_ret
    exact ⟨rfl, gt_trans HG.out hg (.inl rfl)⟩
end Go.Proofs.YthcjnadceambgaaGreatDoor
namespace Go.Proofs.YthcjnadceambgaaGreatDoor
open Go.RowKit

theorem ret_str {a b : ByteArray} (h : a = b) : Ending.returned (.string a) = .returned (.string b) := by rw [h]

set_option maxRecDepth 100000 in
set_option maxHeartbeats 4000000 in
theorem body_succ (T : Nat → Int) (hT : ∀ i, U64 (T i)) (h : Nat) (ihb : BodyOk T h) (iht : TextOk T h) : BodyOk T (h + 1) := by
  intro B W v t hk hd hp ht
  have hpl := bodyT_len T t
  obtain ⟨k, d, n, f, kids⟩ := t
  obtain ⟨hd0, hd4, hdk⟩ := hd
  obtain ⟨r, rfl⟩ := Int.eq_ofNat_of_zero_le hd0
  have hr : r < 4 := by omega
  obtain ⟨p, cap, q, c2, rfl, hf, h1, h2, h3, hm1, hm2, hm3, hm4, _⟩ := hk
  have hp0 := hp
  unfold pl at hp
  simp only [Int.toNat_natCast] at hp
  have hw := widN_le r hr
  have hL : n / widN r ≤ 2000 := by
    have := Nat.zero_le (pls kids)
    generalize n / widN r = L at hp ⊢
    omega
  have hn : n ≤ 100000 := by
    have h2 := Nat.mod_add_div n (widN r)
    have h3 := Nat.mod_lt n (by omega : 0 < widN r)
    have h4 : widN r * (n / widN r) ≤ 4 * 2000 := Nat.mul_le_mul hw.2 hL
    omega
  have hpk : pls kids ≤ 2000 := Nat.le_trans (Nat.le_add_left _ _) hp
  have hml : kids.length ≤ 2000 := by have := pls_len kids; omega
  obtain ⟨cB, hcB⟩ : ∃ cB, cB = decide (k = 0) := ⟨_, rfl⟩
  have ebody : bodyT T (.mk k r n f kids) = wrapP (plTs T r f (n / widN r) ++ bodyTs T cB (kids.take kids.length)) := by rw [List.take_length, hcB]; unfold bodyT; simp only [Int.toNat_natCast]
  have hcap : (bodyT T (.mk k r n f kids)).length ≤ 33000000 := by omega
  rw [ebody] at hcap ⊢
  obtain ⟨ps, hps⟩ : ∃ ps, ps = plTs T r f (n / widN r) ++ bodyTs T cB (kids.take kids.length) := ⟨_, rfl⟩
  obtain ⟨c, hc⟩ : ∃ c, c = n / widN r + kids.length := ⟨_, rfl⟩
  have hpl2 : ps.length = c := by rw [hps, hc, List.length_append, plTs_len, bodyTs_len, List.length_take]; omega
  rw [← hps] at hcap ⊢
  have HPS := Lib.hid hps
  have hc4 : c ≤ 4000 := by rw [hc]; omega
  have HC := Lib.hid hc
  have HPL := Lib.hid hpl2
  obtain ⟨s, hs⟩ : ∃ s : Nat → List UInt8, s = fun i => ps.getD i [] := ⟨_, rfl⟩
  have HSr := Lib.hid hs
  have hjn : joinC ps = cTo s c := by unfold joinC; rw [hpl2, hs]
  have hcl : (cTo s c).length ≤ 33000000 := by
    by_cases hpe : ps = []
    · have : c = 0 := by rw [← hpl2, hpe]; rfl
      rw [this]; simp [cTo]
    · unfold wrapP at hcap
      rw [if_neg hpe, hjn] at hcap
      simp only [List.length_append, List.length_cons, List.length_nil] at hcap
      omega
  have hle := cTo_le s c
  obtain ⟨S, hS⟩ : ∃ S : Nat → ByteArray, ∀ k, S k = ⟨([40] ++ cTo s k).toArray⟩ := ⟨_, fun _ => rfl⟩
  obtain ⟨U, hU⟩ : ∃ U : Nat → ByteArray, ∀ k, U k = ⟨([40] ++ cTo s k ++ [44]).toArray⟩ := ⟨_, fun _ => rfl⟩
  obtain ⟨X, hX⟩ : ∃ X : Nat → ByteArray, ∀ k, X k = ⟨(s k).toArray⟩ := ⟨_, fun _ => rfl⟩
  obtain ⟨J, hJ⟩ : ∃ J : ByteArray, J = ⟨([40] ++ cTo s c ++ [41]).toArray⟩ := ⟨_, rfl⟩
  have hx : ∀ k, k < c → (s k).length + (cTo s k).length ≤ 33000000 := fun k hk => by
    have h1 := hle (k + 1) hk
    have h2 : (cTo s (k + 1)).length = (cTo s k ++ (if 0 < k then [44] else []) ++ s k).length := rfl
    simp only [List.length_append] at h2
    omega
  have HU := Lib.hid (fun k (hk : k < c) => cat_run Tryz.prog ([40] ++ cTo s k) [44] (S k) ⟨#[44]⟩ (U k) (hS k) rfl (hU k) (by have := hx k hk; simp only [List.length_append, List.length_cons, List.length_nil]; omega))
  have HX := Lib.hid (fun k (hk : k < c) (h0 : 0 < k) => cat_run Tryz.prog ([40] ++ cTo s k ++ [44]) (s k) (U k) (X k) (S (k + 1)) (hU k) (hX k) (by rw [hS]; show ByteArray.mk ([40] ++ (cTo s k ++ (if 0 < k then [44] else []) ++ s k)).toArray = _; rw [if_pos h0]; simp only [List.append_assoc]) (by have := hx k hk; simp only [List.length_append, List.length_cons, List.length_nil]; omega))
  have HZ := Lib.hid (fun k (hk : k < c) (h0 : ¬ 0 < k) => cat_run Tryz.prog ([40] ++ cTo s k) (s k) (S k) (X k) (S (k + 1)) (hS k) (hX k) (by rw [hS]; show ByteArray.mk ([40] ++ (cTo s k ++ (if 0 < k then [44] else []) ++ s k)).toArray = _; rw [if_neg h0]; simp only [List.append_assoc, List.nil_append]) (by have := hx k hk; simp only [List.length_append, List.length_cons, List.length_nil]; omega))
  have HJ := Lib.hid (cat_run Tryz.prog ([40] ++ cTo s c) [41] (S c) ⟨#[41]⟩ J (hS c) rfl hJ (by simp only [List.length_append, List.length_cons, List.length_nil]; omega))
  have h0S : S 0 = ⟨#[40]⟩ := by rw [hS]; rfl
  have HSX : Hid (∀ (w : World) p, SRow w p c (fun i => ps.getD i []) → ∀ a, p = some a → ∀ i, i < c → w.cell? (a.add i) = some (.string (X i))) := fun w p hh a ha i hi => by rw [hX, hs]; exact hh.at_ a ha i hi
  have HWr : Hid ((c = 0 → (⟨(wrapP ps).toArray⟩ : ByteArray) = ⟨#[69, 77, 80, 84, 89]⟩) ∧ (¬ c = 0 → (⟨(wrapP ps).toArray⟩ : ByteArray) = J)) := ⟨fun h0 => by
    have : ps = [] := List.eq_nil_of_length_eq_zero (by rw [hpl2]; exact h0)
    rw [(wrapP_empty ps).2 this]; rfl, fun h0 => by
    have : ¬ ps = [] := fun e => h0 (by rw [← hpl2, e]; rfl)
    unfold wrapP
    rw [if_neg this, hjn, hJ]⟩
  obtain ⟨R, hR⟩ : ∃ R : ByteArray, R = ⟨(wrapP ps).toArray⟩ := ⟨_, rfl⟩
  rw [← hR] at HWr ⊢
  clear hS hU hX hJ hle hx hs hps hc hpl2 hjn hcl hR
  have HPl := Lib.hid (fun w (g : W.grownBy w none) => Places_any' r hr p n cap f hn w (hf.mono g))
  have HWp := Lib.hid (fun i w (g : W.grownBy w none) => writePlace_any T hT (plX r f i) (plY r f i) (plZ r f i) (plM r f i) r (hf.lt _) (hf.lt _) (fval_plZ hf r i) (fval_plM hf r i) hr w (ht.mono g (by simp) (by simp)))
  have HKid := Lib.hid (fun w (g : W.grownBy w none) a (ha : q = some a) j t (hj : kids[j]? = some t) => (by
      obtain ⟨c0, c1, c2, c3, k0, k1, k2, k3, k4⟩ := hm4 a ha j t hj
      exact ⟨c0, c1, c2, c3, k0.mono g, g.cell k1 (by simp), g.cell k2 (by simp), g.cell k3 (by simp), g.cell k4 (by simp)⟩ : ∃ c0 c1 c2 c3, KD B h w (.agg #[c0, c1, c2, c3]) t ∧ w.cell? (a.add (j * 4)) = some c0 ∧ w.cell? ⟨(a.add (j * 4)).block, (a.add (j * 4)).off + 1, none⟩ = some c1 ∧ w.cell? ⟨(a.add (j * 4)).block, (a.add (j * 4)).off + 2, none⟩ = some c2 ∧ w.cell? ⟨(a.add (j * 4)).block, (a.add (j * 4)).off + 3, none⟩ = some c3))
  have HIB := Lib.hid (fun w v j t (g : W.grownBy w none) (hj : kids[j]? = some t) (hk : KD B h w v t) => ihb B w v t hk (dimsOks_mem kids hdk j t hj) (by have := pls_mem kids j t hj; omega) (ht.mono g (by simp) (by simp)))
  have HIT := Lib.hid (fun w v j t (g : W.grownBy w none) (hj : kids[j]? = some t) (hk : KD B h w v t) => iht B w v t hk (dimsOks_mem kids hdk j t hj) (by have := pls_mem kids j t hj; omega) (ht.mono g (by simp) (by simp)))
  have HSn := Lib.hid (fun j t (hj : kids[j]? = some t) => (by
      obtain ⟨hlt, rfl⟩ := List.getElem?_eq_some_iff.1 hj
      rw [List.take_succ_eq_append_getElem hlt, bodyTs_snoc] : bodyTs T cB (kids.take (j + 1)) = bodyTs T cB (kids.take j) ++ [bif cB then textT T t else bodyT T t]))
  have HG : Hid (∀ j, j < kids.length → ∃ t, kids[j]? = some t) := fun j hj => ⟨kids[j]'(by omega), List.getElem?_eq_getElem (by omega)⟩
  have HPs := Lib.hid (fun j => plTs_snoc T r f j)
  have HLen : Hid (∀ L j, j ≤ kids.length → (plTs T r f L ++ bodyTs T cB (kids.take j)).length = L + j) := fun L j hj => by rw [List.length_append, plTs_len, bodyTs_len, List.length_take]; omega
  have HB := World.grownBy_alloc W (.cells #[.int .i64 k, .int .i64 r, .slice p n cap, .slice q kids.length c2] 25) none
  have HBX : Hid (∀ W', (W.alloc (.cells #[.int .i64 k, .int .i64 r, .slice p n cap, .slice q kids.length c2] 25)).grownBy W' none → W'.cell? ⟨W.heap.size, 0, none⟩ = some (.int .i64 k) ∧ W'.cell? ⟨W.heap.size, 1, none⟩ = some (.int .i64 r) ∧ W'.cell? ⟨W.heap.size, 3, none⟩ = some (.slice q kids.length c2)) := fun W' g => ⟨g.cell (by simp) (by simp), g.cell (by simp) (by simp), g.cell (by simp) (by simp)⟩
  have hsf := run_store_flt Tryz.prog
  have HF0 : Hid (plTs T r f 0 = []) := by simp [plTs]; exact trivial
  have HT0 : Hid (bodyTs T cB (kids.take 0) = []) := by simp [bodyTs]; exact trivial
  have hqn := Lib.hid hm3
  have hkB : (k == 0) = cB := by rw [hcB]; rfl
  generalize n / widN r = L at HPl hL hp HPS HC ⊢
  generalize kids.length = m at HG HLen hml hm1 HB HBX HPS HC ⊢
  clear hm4 hm3 hf hdk ht ebody hcB hd0 hd4 hp0 hpl hcap
  go_enter Tryz.func28, Tryz.ntmps28
  go_wp2_with (first
    | (go_at_call 58; refine (HPl.out _ HB).mono ?_; rintro e w' ⟨v, rfl, hv⟩; obtain ⟨pp, cc, rfl⟩ := hv.slice))
  have hprow := hv.prow
  have HGN := Lib.hid (gt_trans HB hv.grown0 (.inl rfl))
  have HBN : Hid (∀ w2, w'.grownBy w2 none → w2.cell? ⟨W.heap.size, 0, none⟩ = some (.int .i64 k) ∧ w2.cell? ⟨W.heap.size, 1, none⟩ = some (.int .i64 r) ∧ w2.cell? ⟨W.heap.size, 3, none⟩ = some (.slice q m c2)) := fun w2 g => HBX.out w2 (gt_trans hv.grown0 g (.inl rfl))
  have hz0 : W.heap.size < w'.heap.size := by have := hv.grown0.size; simp at this; omega
  clear hv HBX
  go_loopw [3, 17] (fun x i wr => ∃ j : Nat, j ≤ L ∧ i = .int .i64 j ∧ AppV 9 1 w'.heap.size w' (.slice none 0 0) wr x j (sL (plTs T r f j))) (fun _ i _ => L - (intOf i).toNat)
  case atStart => exact ⟨0, by omega, rfl, by rw [HF0.out]; exact AppV.nil _ _ _ _⟩
  case round =>
    obtain ⟨j, hj, rfl, H⟩ := hrel
    rename World => wr
    obtain ⟨x0, x1, x3⟩ := HBN.out wr H.grown0
    have hz : W.heap.size < wr.heap.size := Nat.lt_of_lt_of_le hz0 H.grown0.size
    by_cases hjn : j < L
    · obtain ⟨a, rfl⟩ := hprow.some_ (by omega)
      obtain ⟨q0, q1, q2, q3⟩ := (hprow.mono H.grown0).at_ a rfl j hjn
      have HWk := Lib.hid (HWp.out j)
      have HPj := Lib.hid (HPs.out j)
      have HF : Hid (∀ w2, Below wr.heap.size wr w2 → W.grownBy w2 none) := fun w2 g => gt_trans HGN.out (gt_trans H.grown0 (gt_below g none) (.inl rfl)) (.inl rfl)
      have HH : Hid (∀ w2 w3, Below wr.heap.size wr w2 → w2.grownBy w3 none → AppV 9 1 w'.heap.size w' (.slice none 0 0) w3 u3 j (sL (plTs T r f j))) := fun w2 w3 g g3 => H.beside (gt_trans (gt_below g none) g3 (.inl rfl))
      clear H
      go_wp2_with (first
        | (go_at_call 59; refine (HWk.out _ (HF.out _ (by go_grown))).mono ?_; rintro e w'' ⟨rfl, hb⟩; have H := HH.out _ _ (by go_grown) hb)
        | (at_builtin; refine app_cells rfl _ _ _ rfl Tryz.underlying36 (.string ⟨#[]⟩) 16 infoS rfl (by omega) H rfl rfl (by first | rfl | simp) _ (by first | rfl | simp) (by simp [Value.oneCell']) (Nat.le_refl _) (by omega) (by omega) ?_; intro v1 w1 H1; clear H; have H := H1; clear H1))
      refine ⟨⟨j + 1, by omega, by go_num, ?_⟩, by simp [intOf]; omega⟩
      rw [HPj.out, sL_snoc]
      exact H
    · obtain rfl : j = L := by omega
      go_wp2_with fail
      go_wp2_with fail
      have HGL := Lib.hid H
      have HGW := Lib.hid (gt_trans HGN.out H.grown0 (.inl rfl))
      clear x0 x1 x3 H hz
      go_loopw [3, 32] (fun x i w2 => ∃ l : Nat, l ≤ m ∧ i = .int .i64 l ∧ AppV 9 1 w'.heap.size w' (.slice none 0 0) w2 x (j + l) (sL (plTs T r f j ++ bodyTs T cB (kids.take l)))) (fun _ i _ => m - (intOf i).toNat)
      case atStart => exact ⟨0, by omega, rfl, by rw [HT0.out, List.append_nil]; exact HGL.out⟩
      case round =>
        obtain ⟨l, hl, rfl, H⟩ := hrel
        rename World => w2
        have GW2 := gt_trans HGN.out H.grown0 (.inl rfl)
        obtain ⟨x0, x1, x3⟩ := HBN.out w2 H.grown0
        have hz2 : W.heap.size < w2.heap.size := Nat.lt_of_lt_of_le hz0 H.grown0.size
        by_cases hlm : l < m
        · obtain ⟨t, ht⟩ := HG.out l hlm
          obtain ⟨a, rfl⟩ : ∃ a, q = some a := by
            cases q with
            | none => have := hqn.out rfl; omega
            | some a => exact ⟨a, rfl⟩
          obtain ⟨c0, c1, c2, c3, kk, q0, q1, q2, q3⟩ := HKid.out w2 GW2 a rfl l t ht
          obtain ⟨k1, d1, n1, f1, kids1, p1, cap1, q1', cq1, hte, rfl, rfl, rfl, rfl⟩ := kk.form4
          clear hte
          generalize kids1.length = m1 at kk q3
          have HBo := Lib.hid (fun w (g : w2.grownBy w none) => HIB.out w _ l t (gt_trans GW2 g (.inl rfl)) ht (kk.mono g))
          have HTo := Lib.hid (fun w (g : w2.grownBy w none) => HIT.out w _ l t (gt_trans GW2 g (.inl rfl)) ht (kk.mono g))
          have hSn := Lib.hid (HSn.out l t ht)
          have HH : Hid (∀ w3 w4, w2.grownBy w3 none → w3.grownBy w4 none → AppV 9 1 w'.heap.size w' (.slice none 0 0) w4 u3 (j + l) (sL (plTs T r f j ++ bodyTs T cB (kids.take l)))) := fun w3 w4 g g3 => H.beside (gt_trans g g3 (.inl rfl))
          have G5 := Lib.hid (World.grownBy_alloc w2 (.cells #[.int .i64 k1, .int .i64 d1, .slice p1 n1 cap1, .slice q1' m1 cq1] 25) none)
          clear H kk ht GW2
          cases cB
          · simp only [cond_false] at hSn
            go_wp2_with (first
              | (go_at_call 28; refine (HBo.out _ G5.out).mono ?_; rintro e w'' ⟨rfl, hb⟩; have H := HH.out _ _ G5.out hb)
              | (at_builtin; refine app_cells rfl _ _ _ rfl Tryz.underlying36 (.string ⟨#[]⟩) 16 infoS rfl (by omega) H rfl rfl (by first | rfl | simp) _ (by first | rfl | simp) (by simp [Value.oneCell']) (Nat.le_refl _) (by omega) (by omega) ?_; intro v1 w1 H1; clear H; have H := H1; clear H1))
            refine ⟨⟨l + 1, by omega, by go_num, ?_⟩, by simp [intOf]; omega⟩
            rw [hSn.out, ← List.append_assoc, sL_snoc, ← Nat.add_assoc]
            exact H
          · simp only [cond_true] at hSn
            go_wp2_with (first
              | (go_at_call 11; refine (HTo.out _ G5.out).mono ?_; rintro e w'' ⟨rfl, hb⟩; have H := HH.out _ _ G5.out hb)
              | (at_builtin; refine app_cells rfl _ _ _ rfl Tryz.underlying36 (.string ⟨#[]⟩) 16 infoS rfl (by omega) H rfl rfl (by first | rfl | simp) _ (by first | rfl | simp) (by simp [Value.oneCell']) (Nat.le_refl _) (by omega) (by omega) ?_; intro v1 w1 H1; clear H; have H := H1; clear H1))
            refine ⟨⟨l + 1, by omega, by go_num, ?_⟩, by simp [intOf]; omega⟩
            rw [hSn.out, ← List.append_assoc, sL_snoc, ← Nat.add_assoc]
            exact H
        · obtain rfl : l = m := by omega
          rw [← HPS.out, ← HC.out] at H
          obtain ⟨ppx, ccx, rfl⟩ := H.slice
          have hsr := HSX.out w2 ppx (H.srowL HPL.out.symm)
          have hsn := (own_at H.own).1
          have HSR := Lib.hid hsr
          clear hsr H hz2 x0 x1 x3
          by_cases hc0 : c = 0
          · have HW0 := Lib.hid (HWr.out.1 hc0)
            subst hc0
            go_wp2_with fail
            go_wp2_with fail
            go_ret
            exact ⟨ret_str HW0.out.symm, GW2⟩
          · have hc1 : 0 < c := by omega
            have hcB : (c == 0) = false := by simpa using hc0
            go_wp2_with fail
            go_wp2_with fail
            go_loopw [8, 55] (fun x i wr => ∃ k : Nat, k ≤ c ∧ i = .int .i64 k ∧ x = .string (S k) ∧ wr = w2) (fun _ i _ => c - (intOf i).toNat)
            case atStart => exact ⟨0, by omega, rfl, by rw [h0S], rfl⟩
            case round =>
              obtain ⟨k, hk, rfl, rfl, rfl⟩ := hrel
              by_cases hkn : k < c
              · obtain ⟨a, ha⟩ := hsn (by omega)
                have qk := HSR.out a ha k hkn
                subst ha
                by_cases hk0 : 0 < k
                · have eU := HU.out k hkn
                  have eX := HX.out k hkn hk0
                  go_wp2_with fail
                  exact ⟨⟨k + 1, by omega, by go_num, rfl, by trivial⟩, by simp [intOf]; omega⟩
                · have eX := HZ.out k hkn hk0
                  go_wp2_with fail
                  exact ⟨⟨k + 1, by omega, by go_num, rfl, by trivial⟩, by simp [intOf]; omega⟩
              · obtain rfl : k = c := by omega
                have eJ := HJ.out
                go_wp2_with fail
                go_wp2_with fail
                go_ret
                exact ⟨ret_str (HWr.out.2 hc0).symm, GW2⟩
theorem bodyOk (T : Nat → Int) (hT : ∀ i, U64 (T i)) : ∀ h, BodyOk T h
  | 0 => fun _ _ _ _ hk => hk.elim
  | h + 1 => body_succ T hT h (bodyOk T hT h) (text_of_body T h (bodyOk T hT h))
theorem textOk (T : Nat → Int) (hT : ∀ i, U64 (T i)) (h : Nat) : TextOk T h := text_of_body T h (bodyOk T hT h)
end Go.Proofs.YthcjnadceambgaaGreatDoor
