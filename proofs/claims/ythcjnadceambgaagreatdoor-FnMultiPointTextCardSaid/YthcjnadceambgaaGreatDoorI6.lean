/- Several points, made of a geometry. -/
import Derived.Test.YthcjnadceambgaaGreatDoorI5
namespace Go.Proofs.YthcjnadceambgaaGreatDoor
open Go.RowKit

set_option maxRecDepth 100000 in
set_option maxHeartbeats 1000000 in
theorem MPForce_nil (r : Nat) (hr : r < 4) (W : World) :
    Calls Tryz.prog 61 #[.agg #[.slice none 0 0, .int .u8 0], .int .u8 r] W fun e w' => ∃ v, e = .returned v ∧ MPIs w' v r [] ∧ W.grownBy w' none := by
  have HG := Lib.hid (gt_alloc_r (World.grownBy_alloc W (.cells #[.slice none 0 0, .int .u8 0] 53) none) (.cells #[.slice none 0 0, .int .u8 0] 53))
  have HF := Lib.hid (fun w => forceSlice_any r hr none [] 0 0 rfl (by omega) (fun t h => by simp at h) w ⟨fun h => absurd h (by simp), (fun a h => by cases h)⟩)
  have HC : Hid (∀ w, ((W.alloc (.cells #[.slice none 0 0, .int .u8 0] 53)).alloc (.cells #[.slice none 0 0, .int .u8 0] 53)).grownBy w none → w.cell? ⟨W.heap.size + 1, 0, none⟩ = some (.slice none 0 0) ∧ w.cell? ⟨W.heap.size + 1, 1, none⟩ = some (.int .u8 0) ∧ w.frozen? ⟨W.heap.size + 1, 0, none⟩ = false ∧ w.frozen? ⟨W.heap.size + 1, 1, none⟩ = false) := fun w g => by
    have hb := g.block (W.heap.size + 1) (by simp) (by simp)
    refine ⟨g.cell (by simp) (by simp), g.cell (by simp) (by simp), ?_, ?_⟩ <;> (rw [World.frozen?_of_block hb]; simp)
  go_enter Tryz.func61, Tryz.ntmps61
  go_wp2_with (first
    | (go_at_call 119; refine (HF.out _).mono ?_; rintro e w2 ⟨a, rfl, hpr, hab, hg2⟩; obtain ⟨x0, x1, f0, f1⟩ := HC.out _ hg2))
  refine bodyPost_ret (by simp [results, Tryz.results61, go_sem, x0, x1]; try rfl) rfl ?_
  refine ⟨_, rfl, ⟨hr, (fun t h => by simp at h), some a, 0, rfl, ⟨fun h => absurd h (by simp), fun a' _ i t h => by simp at h⟩⟩, gt_set_r (gt_set_r (gt_trans HG.out hg2 (.inl rfl)) _ _ (Nat.le_succ _)) _ _ (Nat.le_succ _)⟩

def flatP (ps : List Pt) : List Value := ps.flatMap Pt.cs
theorem flatP_snoc (ps : List Pt) (t : Pt) : flatP (ps ++ [t]) = flatP ps ++ t.cs := by simp [flatP]
theorem flatP_at : ∀ (ps : List Pt) (i : Nat) (t : Pt), ps[i]? = some t → ∀ o u, t.cs[o]? = some u → (flatP ps)[i * 6 + o]? = some u
  | [], i, t, h, _, _, _ => by simp at h
  | s :: ps, 0, t, h, o, u, hu => by
    simp at h
    subst h
    have ho : o < 6 := (List.getElem?_eq_some_iff.1 hu).1
    show (s.cs ++ flatP ps)[0 * 6 + o]? = some u
    rw [List.getElem?_append_left (by show 0 * 6 + o < 6; omega), Nat.zero_mul, Nat.zero_add]
    exact hu
  | s :: ps, i + 1, t, h, o, u, hu => by
    show (s.cs ++ flatP ps)[(i + 1) * 6 + o]? = some u
    rw [List.getElem?_append_right (by show 6 ≤ _; omega)]
    have e : (i + 1) * 6 + o - s.cs.length = i * 6 + o := by show (i + 1) * 6 + o - 6 = _; omega
    rw [e]
    exact flatP_at ps i t (by simpa using h) o u hu
theorem PR.of_own {w : World} {base n c : Nat} {e : TypeId} {p : Option Addr} {ps : List Pt} (hn : ps.length = n) (h : w.ownsRow base e 6 (.slice p n c) n (flatP ps)) : PR w p ps := by
  refine ⟨fun hpos => ?_, fun a ha i t hi => ?_⟩
  · rcases h.2 with ⟨_, h0⟩ | ⟨g, cap, cur, hv, _⟩
    · omega
    · injection hv with hv
      exact ⟨_, hv⟩
  · subst ha
    have hin : i < n := by have := (List.getElem?_eq_some_iff.1 hi).1; omega
    rcases h.2 with ⟨hv, h0⟩ | ⟨g, cap, cur, hv, _⟩
    · omega
    · injection hv with hv
      injection hv with hv
      subst hv
      have key : ∀ o u, t.cs[o]? = some u → w.cell? ⟨g, i * 6 + o, none⟩ = some u := fun o u hu => by
        have ho6 : o < 6 := (List.getElem?_eq_some_iff.1 hu).1
        rw [h.cellAt _ (by omega)]
        exact flatP_at ps i t hi o u hu
      rw [addr0]
      exact ⟨key 0 _ rfl, key 1 _ rfl, key 2 _ rfl, key 3 _ rfl, key 4 _ rfl, key 5 _ rfl⟩

/-- The point that a geometry of kind 1 makes. -/
def ptR : Raw → Pt
  | .mk _ d n f _ => ptOf (d % 4).toNat n f
def ptsOf (kids : List Raw) : List Pt := (kids.filter fun t => decide (kindOf t = 1)).map ptR
theorem ptsOf_take (kids : List Raw) (j : Nat) (t : Raw) (h : kids[j]? = some t) : ptsOf (kids.take (j + 1)) = ptsOf (kids.take j) ++ (if kindOf t = 1 then [ptR t] else []) := by
  obtain ⟨hlt, rfl⟩ := List.getElem?_eq_some_iff.1 h
  unfold ptsOf
  rw [List.take_succ_eq_append_getElem hlt, List.filter_append, List.map_append]
  congr 1
  by_cases hp : kindOf kids[j] = 1
  · rw [if_pos hp, List.filter_cons_of_pos (by simpa using hp)]; rfl
  · rw [if_neg hp, List.filter_cons_of_neg (by simpa using hp)]; rfl
theorem ptsOf_len (kids : List Raw) : (ptsOf kids).length ≤ kids.length := by
  unfold ptsOf
  rw [List.length_map]
  exact List.length_filter_le _ _
def mpR (r : Nat) (ps : List Pt) : Nat := if ps = [] then r else dimsP ps
theorem ptOf_ok (r n : Nat) (f : Nat → Nat) (hr : r < 4) (hf : ∀ i, f i < 18446744073709551616) : (ptOf r n f).Ok := by
  unfold ptOf
  split
  · exact ⟨Nat.zero_lt_succ _, Nat.zero_lt_succ _, Nat.zero_lt_succ _, Nat.zero_lt_succ _, hr⟩
  · refine ⟨hf _, hf _, ?_, ?_, hr⟩
    · show plZ r f 0 < _
      unfold plZ
      split
      · exact hf _
      · exact Nat.zero_lt_succ _
    · show plM r f 0 < _
      unfold plM
      split
      · exact hf _
      · exact Nat.zero_lt_succ _

set_option maxRecDepth 100000 in
set_option maxHeartbeats 4000000 in
theorem multiPoint_any (h : Nat) (B : Nat → Prop) (W : World) (d : Int) (r : Nat) (hr : d % 4 = r) (p q : Option Addr) (n cap m c2 : Nat) (f : Nat → Nat) (kids : List Raw) (hm : kids.length = m)
    (hk : KD B (h + 1) W (.agg #[.int .i64 4, .int .i64 d, .slice p n cap, .slice q m c2]) (.mk 4 d n f kids)) (hw : wt (.mk 4 d n f kids) ≤ 2000) :
    Calls Tryz.prog 33 #[.agg #[.int .i64 4, .int .i64 d, .slice p n cap, .slice q m c2]] W fun e w' => ∃ v, e = .returned v ∧ MPIs w' v (mpR r (ptsOf kids)) ((ptsOf kids).map fun t => t.force (dimsP (ptsOf kids))) ∧ W.grownBy w' none := by
  obtain ⟨p', cap', q', c2', e0, hf, h1, h2, h3, hm1, hm2, hm3, hm4, _⟩ := hk
  obtain ⟨rfl, rfl, rfl, rfl⟩ : p = p' ∧ cap = cap' ∧ q = q' ∧ c2 = c2' := by simp [hm] at e0; exact ⟨e0.1.1, e0.1.2, e0.2.1, e0.2.2⟩
  have hr4 : r < 4 := by omega
  rw [hm] at hm1
  have hwk : wts kids ≤ 2000 := by unfold wt at hw; omega
  have hml : m ≤ 2000 := by have := wts_len kids; omega
  have HKid := Lib.hid (fun w (g : W.grownBy w none) a (ha : q = some a) j t (hj : kids[j]? = some t) => (by
      obtain ⟨c0, c1, c2, c3, k0, k1, k2, k3, k4⟩ := hm4 a ha j t hj
      exact ⟨c0, c1, c2, c3, k0.mono g, g.cell k1 (by simp), g.cell k2 (by simp), g.cell k3 (by simp), g.cell k4 (by simp)⟩ : ∃ c0 c1 c2 c3, KD B h w (.agg #[c0, c1, c2, c3]) t ∧ w.cell? (a.add (j * 4)) = some c0 ∧ w.cell? ⟨(a.add (j * 4)).block, (a.add (j * 4)).off + 1, none⟩ = some c1 ∧ w.cell? ⟨(a.add (j * 4)).block, (a.add (j * 4)).off + 2, none⟩ = some c2 ∧ w.cell? ⟨(a.add (j * 4)).block, (a.add (j * 4)).off + 3, none⟩ = some c3))
  have HGt : Hid (∀ j, j < m → ∃ t, kids[j]? = some t) := fun j hj => ⟨kids[j]'(by omega), List.getElem?_eq_getElem (by omega)⟩
  have HWt := Lib.hid (fun j t (hj : kids[j]? = some t) => (by have := wts_mem kids j t hj; omega : wt t ≤ 2000))
  have HPT := Lib.hid (fun j t (hj : kids[j]? = some t) => ptsOf_take kids j t hj)
  have HLen : Hid (∀ j, j ≤ m → (ptsOf (kids.take j)).length ≤ 2000) := fun j hj => by
    have := ptsOf_len (kids.take j)
    rw [List.length_take] at this
    omega
  have HPE : Hid (ptsOf (kids.take m) = ptsOf kids) := by rw [← hm, List.take_length]; rfl
  have hqn := Lib.hid hm3
  have HP0 : Hid (ptsOf (kids.take 0) = []) := by simp [ptsOf]; exact trivial
  have HG := Lib.hid (gt_alloc_r (World.grownBy_alloc W (.cells #[.int .i64 4, .int .i64 d, .slice p n cap, .slice q m c2] 25) none) (.cells #[.slice none 0 0, .int .u8 0] 53))
  have HA : Hid (∀ w, ((W.alloc (.cells #[.int .i64 4, .int .i64 d, .slice p n cap, .slice q m c2] 25)).alloc (.cells #[.slice none 0 0, .int .u8 0] 53)).grownBy w none → w.cell? ⟨W.heap.size, 0, none⟩ = some (.int .i64 4) ∧ w.cell? ⟨W.heap.size, 1, none⟩ = some (.int .i64 d)) := fun w g => ⟨g.cell (by simp) (by simp), g.cell (by simp) (by simp)⟩
  have HC : Hid (∀ w, ((W.alloc (.cells #[.int .i64 4, .int .i64 d, .slice p n cap, .slice q m c2] 25)).alloc (.cells #[.slice none 0 0, .int .u8 0] 53)).grownBy w none → w.cell? ⟨W.heap.size + 1, 0, none⟩ = some (.slice none 0 0) ∧ w.cell? ⟨W.heap.size + 1, 1, none⟩ = some (.int .u8 0) ∧ w.frozen? ⟨W.heap.size + 1, 0, none⟩ = false ∧ w.frozen? ⟨W.heap.size + 1, 1, none⟩ = false) := fun w g => by
    have hb := g.block (W.heap.size + 1) (by simp) (by simp)
    refine ⟨g.cell (by simp) (by simp), g.cell (by simp) (by simp), ?_, ?_⟩ <;> (rw [World.frozen?_of_block hb]; simp)
  have HO := Lib.hid (fun w => dimOf_r d r hr w)
  have HFN := Lib.hid (fun w => MPForce_nil r hr4 w)
  clear hm4 hm3 hf hw e0 hr hm hwk
  generalize hW0 : (W.alloc (.cells #[.int .i64 4, .int .i64 d, .slice p n cap, .slice q m c2] 25)).alloc (.cells #[.slice none 0 0, .int .u8 0] 53) = W0 at HG HA HC
  have hs0 : W.heap.size + 2 ≤ W0.heap.size := by rw [← hW0]; simp
  have HW0 := Lib.hid hW0
  clear hW0
  go_enter Tryz.func33, Tryz.ntmps33
  go_wp2_with fail
  rw [HW0.out]
  clear HW0
  go_loopw [3, 9] (fun x i wr => ∃ j : Nat, j ≤ m ∧ i = .int .i64 j ∧ (∀ t ∈ ptsOf (kids.take j), t.Ok) ∧ AppV 71 6 W0.heap.size W0 (.slice none 0 0) wr x (ptsOf (kids.take j)).length (flatP (ptsOf (kids.take j)))) (fun _ i _ => m - (intOf i).toNat)
  case atStart => exact ⟨0, by omega, rfl, by rw [HP0.out]; intro t h; simp at h, by rw [HP0.out]; exact AppV.nil _ _ _ _⟩
  case round =>
    obtain ⟨j, hj, rfl, hok, H⟩ := hrel
    rename World => wr
    have g0 := H.grown0
    have Gw := gt_trans HG.out g0 (.inl rfl)
    obtain ⟨k0, k1⟩ := HA.out _ g0
    obtain ⟨px, cx, rfl⟩ := H.slice
    have hlen := HLen.out j hj
    have hbig : W.heap.size < wr.heap.size := by have := g0.size; omega
    have hbig2 : W.heap.size + 1 < wr.heap.size := by have := g0.size; omega
    by_cases hjm : j < m
    · obtain ⟨t, ht⟩ := HGt.out j hjm
      obtain ⟨a, rfl⟩ : ∃ a, q = some a := by
        cases q with
        | none => have := hqn.out rfl; omega
        | some a => exact ⟨a, rfl⟩
      obtain ⟨c0, c1, c2, c3, kk, q0, q1, q2, q3⟩ := HKid.out wr Gw a rfl j t ht
      have hwt := HWt.out j t ht
      have hpt := HPT.out j t ht
      clear ht
      obtain ⟨e1, d1, n1, f1, kids1, p1, cap1, q1', cq1, rfl, rfl, rfl, rfl, rfl⟩ := kk.form4
      generalize hm1' : kids1.length = m1 at q3
      obtain ⟨l, hl⟩ : ∃ l, l = (ptsOf (kids.take j)).length := ⟨_, rfl⟩
      by_cases he1 : e1 = 1
      · subst he1
        have hn1 : n1 ≤ 2000 := by unfold wt at hwt; omega
        have hfv : FVal wr p1 n1 f1 := by
          cases h with
          | zero => exact kk.elim
          | succ h =>
            obtain ⟨pp, cc, qq, cc2, ee, hf1, _⟩ := kk
            simp at ee
            obtain ⟨⟨rfl, rfl⟩, _⟩ := ee
            exact hf1
        obtain ⟨r1, hr1⟩ : ∃ r1 : Nat, d1 % 4 = r1 := ⟨(d1 % 4).toNat, by omega⟩
        have hptR : ptR (.mk 1 d1 n1 f1 kids1) = ptOf r1 n1 f1 := by show ptOf (d1 % 4).toNat n1 f1 = _; rw [hr1]; rfl
        have hkk : kindOf (.mk 1 d1 n1 f1 kids1) = 1 := rfl
        rw [if_pos hkk, hptR] at hpt
        have hok1 := ptOf_ok r1 n1 f1 (by omega) hfv.lt
        have HPn := Lib.hid (fun w (g : wr.grownBy w none) => point_any d1 r1 hr1 p1 q1' n1 cap1 m1 cq1 f1 hn1 w (hfv.mono g))
        clear kk hfv hkk hptR hwt
        revert HPn hpt hok1
        generalize ptOf r1 n1 f1 = Q
        obtain ⟨qx, qy, qz, qm, qr, qb⟩ := Q
        intro hpt hok1 HPn
        have HPt2 : Hid (∀ w (g : wr.grownBy w none), Calls Tryz.prog 41 #[.agg #[.int .i64 1, .int .i64 d1, .slice p1 n1 cap1, .slice q1' m1 cq1]] w fun e w' => e = .returned (.agg #[.float .f64 qx, .float .f64 qy, .float .f64 qz, .float .f64 qm, .int .u8 qr, .bool qb]) ∧ w.grownBy w' none) := HPn.out
        have hfin : Hid (∀ v1 w1, AppV 71 6 W0.heap.size W0 (.slice none 0 0) w1 v1 ((ptsOf (kids.take j)).length + 1) (flatP (ptsOf (kids.take j)) ++ [.float .f64 qx, .float .f64 qy, .float .f64 qz, .float .f64 qm, .int .u8 qr, .bool qb]) → (∀ t ∈ ptsOf (kids.take (j + 1)), t.Ok) ∧ AppV 71 6 W0.heap.size W0 (.slice none 0 0) w1 v1 (ptsOf (kids.take (j + 1))).length (flatP (ptsOf (kids.take (j + 1))))) := fun v1 w1 hh => by
          rw [hpt, flatP_snoc, List.length_append]
          exact ⟨fun t ht => by rcases List.mem_append.1 ht with ht | ht; exact hok t ht; rw [List.mem_singleton.1 ht]; exact hok1, hh⟩
        have HB5 : Hid (∀ w, wr.grownBy w none → AppV 71 6 W0.heap.size W0 (.slice none 0 0) w (.slice px (ptsOf (kids.take j)).length cx) (ptsOf (kids.take j)).length (flatP (ptsOf (kids.take j)))) := fun w g => H.beside g
        have HG5 := Lib.hid (World.grownBy_alloc wr (.cells #[.int .i64 1, .int .i64 d1, .slice p1 n1 cap1, .slice q1' m1 cq1] 25) none)
        clear HPn hpt hok1 hok H hl
        generalize (ptsOf (kids.take j)).length = l at HB5 hfin hlen ⊢
        generalize flatP (ptsOf (kids.take j)) = cs at HB5 hfin
        go_wp2_with (first
          | (go_at_call 41; refine (HPt2.out _ HG5.out).mono ?_; rintro e w2 ⟨rfl, hg2⟩; have G2 := gt_trans HG5.out hg2 (.inl rfl))
          | (at_builtin; refine app_cells rfl _ _ _ rfl Tryz.underlying51 (.agg #[.float .f64 0, .float .f64 0, .float .f64 0, .float .f64 0, .int .u8 0, .bool false]) 48 infoPt rfl (by omega) (HB5.out _ G2) rfl rfl (by first | rfl | simp) _ (by first | rfl | simp) (by simp [Value.oneCell']) (Nat.le_refl _) (by omega) (by omega) ?_; intro v1 w1 H1; have HH := Lib.hid (hfin.out _ _ H1); clear H1))
        exact ⟨⟨j + 1, by omega, by go_num, HH.out⟩, by simp [intOf]; omega⟩
      · have hkk : ¬ kindOf (.mk e1 d1 n1 f1 kids1) = 1 := he1
        rw [if_neg hkk, List.append_nil] at hpt
        have HFin : Hid (∀ w, wr.grownBy w none → (∀ t ∈ ptsOf (kids.take (j + 1)), t.Ok) ∧ AppV 71 6 W0.heap.size W0 (.slice none 0 0) w (.slice px (ptsOf (kids.take j)).length cx) (ptsOf (kids.take (j + 1))).length (flatP (ptsOf (kids.take (j + 1))))) := fun w g => by rw [hpt]; exact ⟨hok, H.beside g⟩
        have hb1 : (e1 == 1) = false := by simpa using he1
        clear hkk hpt kk hwt hok H hl
        generalize (ptsOf (kids.take j)).length = l at HFin hlen ⊢
        go_wp2_with fail
        exact ⟨⟨j + 1, by omega, by go_num, HFin.out _ (World.grownBy_alloc _ _ _)⟩, by simp [intOf]; omega⟩
    · obtain rfl : j = m := by omega
      rw [HPE.out] at H hok hlen ⊢
      clear HPE HPT HLen HKid HGt HWt HP0
      have hok' := hok
      obtain ⟨ps, hpsd⟩ : ∃ ps, ps = ptsOf kids := ⟨_, rfl⟩
      have HPS := Lib.hid hpsd
      rw [← hpsd] at H hok hlen ⊢
      clear hpsd hok'
      by_cases hps : ps = []
      · have hmr : mpR r (ptsOf kids) = r := by unfold mpR; rw [if_pos (HPS.out ▸ hps)]
        have hmap : ((ptsOf kids).map fun t => t.force (dimsP (ptsOf kids))) = [] := by rw [← HPS.out, hps]; rfl
        have HE1 := Lib.hid (And.intro hmr hmap)
        have hl0 : ps.length = 0 := by rw [hps]; rfl
        rw [hl0]
        clear hmr hmap hps hl0 H hok hlen HPS
        go_wp2_with fail
        go_wp2_with (first
          | (go_at_call 62; refine (HO.out _).mono ?_; rintro e w3 ⟨rfl, rfl⟩)
          | (go_at_call 61; refine (HFN.out _).mono ?_; rintro e w2 ⟨v, rfl, hmp, hg2⟩; obtain ⟨hv1, hv2, pp, cc, rfl, hv3⟩ := hmp; obtain ⟨x0, x1, f0, f1⟩ := HC.out _ (gt_trans g0 hg2 (.inl rfl))))
        refine bodyPost_ret (by simp [results, Tryz.results33, go_sem, x0, x1]; try rfl) rfl ?_
        refine ⟨_, rfl, ?_, gt_set_r (gt_set_r (gt_trans Gw hg2 (.inl rfl)) _ _ (Nat.le_succ _)) _ _ (Nat.le_succ _)⟩
        rw [HE1.out.1, HE1.out.2]
        exact ⟨hv1, hv2, pp, cc, rfl, ⟨fun h => absurd h (by simp), fun a' _ i t h => by simp at h⟩⟩
      · have hmr : mpR r (ptsOf kids) = dimsP ps := by unfold mpR; rw [if_neg (HPS.out ▸ hps), HPS.out]
        have hl0 : 0 < ps.length := Nat.pos_of_ne_zero fun e => hps (List.eq_nil_of_length_eq_zero e)
        have hpr : PR wr px ps := PR.of_own rfl H.own
        have HNM := Lib.hid (fun w (g : wr.grownBy w none) => NewMultiPoint_any px ps ps.length cx rfl hl0 hlen hok w (hpr.mono g) (fun a ha => by subst ha; have := (H.own.lt a.block rfl).2; exact Nat.lt_of_lt_of_le this g.size))
        have hbl : ((ps.length : Int) == 0) = false := by rw [beq_eq_false_iff_ne]; omega
        have HMR : Hid (∀ (w : World) v, MPIs w v (dimsP ps) (ps.map fun t => t.force (dimsP ps)) → MPIs w v (mpR r (ptsOf kids)) ((ptsOf kids).map fun t => t.force (dimsP (ptsOf kids)))) := fun w v h => by rw [hmr, ← HPS.out]; exact h
        have hml2 : (ps.map fun t => t.force (dimsP ps)).length = ps.length := by simp
        obtain ⟨qs, hqs⟩ : ∃ qs, qs = ps.map fun t => t.force (dimsP ps) := ⟨_, rfl⟩
        rw [← hqs] at HNM HMR hml2
        generalize dimsP ps = D at HNM HMR
        clear hmr hps hpr H hok HPS hqs
        generalize ps.length = l at HNM hbl hl0 hlen hml2 ⊢
        go_wp2_with fail
        go_wp2_with (first
          | (go_at_call 63; refine (HNM.out _ (gt_refl _ _)).mono ?_; rintro e w2 ⟨v, rfl, hmp, hbk, hg2⟩; obtain ⟨hv1, hv2, pp, cc, rfl, hv3⟩ := hmp; obtain ⟨x0, x1, f0, f1⟩ := HC.out _ (gt_trans g0 hg2 (.inl rfl))))
        refine bodyPost_ret (by simp [results, Tryz.results33, go_sem, x0, x1]; try rfl) rfl ?_
        refine ⟨_, rfl, ?_, gt_set_r (gt_set_r (gt_trans Gw hg2 (.inl rfl)) _ _ (Nat.le_succ _)) _ _ (Nat.le_succ _)⟩
        have hbk2 : ∀ a, pp = some a → a.block ≠ W.heap.size + 1 := fun a ha => by
          have := hbk pp qs.length cc (.int .u8 D) rfl a ha
          omega
        exact HMR.out _ _ ⟨hv1, hv2, pp, cc, by rw [hml2], (hv3.set hbk2 _).set hbk2 _⟩
end Go.Proofs.YthcjnadceambgaaGreatDoor
