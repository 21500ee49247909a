/- Which shapes the laws take: formed, size, of points and several points. The size of points and several points. GeomOf of shapes of any depth. SameNums, SameGeom of equal data: they answer true. The package's text of a line string: its methods. The reference's place in GeoJSON, whole; its rows of places. -/
import Derived.Deep.RegionHeld3
import Derived.Deep.RegionLaw
import Derived.Test.YtlpaecafpbbbkaaGreatDoorSPT4
namespace Go.Proofs.YtlpaecafpbbbkaaGreatDoor
open Go.Joins Go.ChangeShapes Go.WideShapes Go.RowKit Go.Deep Go.ChangeAt

/-- The Bool b comes back. -/
def EPost (W : World) (b : Bool) (e : Ending) (w' : World) : Prop := e = .returned (.bool b) ∧ W.grownBy w' none
def pt1 : Shp → Prop
  | .mk k pts kids => k = 1 ∧ pts.length ≤ 1 ∧ kids = []
def kindS : Shp → Int
  | .mk k _ _ => k
/-- Whether a place lies within 2^20. -/
def inR (u : Int × Int) : Bool := !(decide (min u.1 u.2 < -1048576) || decide (1048576 < max u.1 u.2))
/-- Whether a point is formed. -/
def fm1 : Shp → Bool
  | .mk _ pts kids => pts.all inR && (decide (kids.length = 0) && decide (pts.length ≤ 1))
/-- Whether several points are formed. -/
def fm4 : Shp → Bool
  | .mk _ pts kids => pts.all inR && ((kids.all fun t => decide (kindS t = 1) && fm1 t) && decide (pts.length = 0))
theorem fm1_pt {t : Shp} (h : fm1 t = true) (hk : kindS t = 1) : pt1 t := by
  obtain ⟨k, pts, kids⟩ := t
  unfold fm1 at h
  simp only [Bool.and_eq_true, decide_eq_true_eq] at h
  exact ⟨hk, h.2.2, List.eq_nil_of_length_eq_zero h.2.1⟩
theorem fm4_mp {t : Shp} (h : fm4 t = true) : ∃ k kids, t = .mk k [] kids ∧ ∀ s ∈ kids, pt1 s := by
  obtain ⟨k, pts, kids⟩ := t
  unfold fm4 at h
  simp only [Bool.and_eq_true, decide_eq_true_eq, List.all_eq_true] at h
  refine ⟨k, kids, by rw [List.eq_nil_of_length_eq_zero h.2.2], fun s hs => ?_⟩
  have := h.2.1 s hs
  exact fm1_pt this.2 this.1
theorem all_out {pts : List (Int × Int)} (j : Nat) (u : Int × Int) (hj : pts[j]? = some u) (h : min u.1 u.2 < -1048576 ∨ 1048576 < max u.1 u.2) : pts.all inR = false := by
  rw [List.all_eq_false]
  refine ⟨u, List.mem_of_getElem? hj, ?_⟩
  unfold inR
  rcases h with h | h <;> simp [h]
theorem all_in {pts : List (Int × Int)} (h : ∀ j u, j < pts.length → pts[j]? = some u → inR u = true) : pts.all inR = true := by
  rw [List.all_eq_true]
  intro u hu
  obtain ⟨j, hj⟩ := List.getElem?_of_mem hu
  exact h j u (List.getElem?_eq_some_iff.1 hj).1 hj
theorem inR_of {u : Int × Int} (h1 : ¬ min u.1 u.2 < -1048576) (h2 : ¬ 1048576 < max u.1 u.2) : inR u = true := by
  unfold inR; rw [decide_eq_false h1, decide_eq_false h2]; rfl
set_option maxRecDepth 100000 in
set_option maxHeartbeats 1000000 in
theorem zzFits1_any (k : Int) (p q : Option Addr) (n cap m c : Nat) (W : World) : Calls Tryz.prog 8 #[.agg #[.int .i64 k, .slice p n cap, .slice q m c]] W (EPost W (decide (n ≤ 2147483647) && decide (m ≤ 2147483647))) := by
  by_cases h1 : (2147483647 : Int) < (n : Int)
  · go_enter Tryz.func8, Tryz.ntmps8
    go_wp2_with fail
    go_ret
    exact ⟨ret_bool (by rw [decide_eq_false (show ¬ n ≤ 2147483647 by omega)]; rfl), World.grownBy_alloc _ _ _⟩
  · by_cases h2 : (2147483647 : Int) < (m : Int)
    · go_enter Tryz.func8, Tryz.ntmps8
      go_wp2_with fail
      go_ret
      exact ⟨ret_bool (by rw [decide_eq_false (show ¬ m ≤ 2147483647 by omega), Bool.and_false]), World.grownBy_alloc _ _ _⟩
    · go_enter Tryz.func8, Tryz.ntmps8
      go_wp2_with fail
      go_ret
      exact ⟨ret_bool (by rw [decide_eq_true (show n ≤ 2147483647 by omega), decide_eq_true (show m ≤ 2147483647 by omega)]; rfl), World.grownBy_alloc _ _ _⟩

set_option maxRecDepth 100000 in
set_option maxHeartbeats 4000000 in
theorem formed_pt (h : Nat) (W : World) (v : Value) (pts : List (Int × Int)) (kids : List Shp) (hk : KS h W v (.mk 1 pts kids)) (deep : Nat) (hd : deep ≤ 100) :
    Calls Tryz.prog 27 #[v, .int .i64 1048576, .int .i64 deep] W (EPost W (fm1 (.mk 1 pts kids))) := by
  cases h with
  | zero => exact hk.elim
  | succ h =>
  obtain ⟨p, cap, q, c2, rfl, hpr, hkl, hkm, hkn, hkids⟩ := hk
  have hpl := hpr.le
  have hpm := hpr.most
  have HPt : Hid (∀ w, W.grownBy w none → ∀ j, j < pts.length → ∃ (a : Addr) (u : Int × Int), p = some a ∧ pts[j]? = some u ∧ w.cell? (a.add (j * 2)) = some (.int .i64 u.1) ∧ w.cell? ⟨(a.add (j * 2)).block, (a.add (j * 2)).off + 1, none⟩ = some (.int .i64 u.2)) := fun w g j hj => by
    obtain ⟨a, ha⟩ := hpr.some_ (by omega)
    have hi : pts[j]? = some (pts[j]'hj) := List.getElem?_eq_getElem hj
    obtain ⟨q0, q1⟩ := (hpr.mono g).at_ a ha j _ hi
    exact ⟨a, _, ha, hi, q0, q1⟩
  have HB : Hid (∀ w, (W.alloc (.cells #[.int .i64 1, .slice p pts.length cap, .slice q kids.length c2] 25)).grownBy w none → w.cell? ⟨W.heap.size, 0, none⟩ = some (.int .i64 1) ∧ w.cell? ⟨W.heap.size, 1, none⟩ = some (.slice p pts.length cap) ∧ w.cell? ⟨W.heap.size, 2, none⟩ = some (.slice q kids.length c2)) := fun w g => ⟨g.cell (by simp) (by simp), g.cell (by simp) (by simp), g.cell (by simp) (by simp)⟩
  have HG := Lib.hid (World.grownBy_alloc W (.cells #[.int .i64 1, .slice p pts.length cap, .slice q kids.length c2] 25) none)
  have HOut : Hid (∀ (j : Nat) (u : Int × Int), pts[j]? = some u → (min u.1 u.2 < -1048576 ∨ 1048576 < max u.1 u.2) → fm1 (.mk 1 pts kids) = false) := fun j u hj h => by
    show (pts.all inR && (decide (kids.length = 0) && decide (pts.length ≤ 1))) = false
    rw [all_out j u hj h]; rfl
  have HEnd : Hid ((∀ (j : Nat) (u : Int × Int), j < pts.length → pts[j]? = some u → inR u = true) → fm1 (.mk 1 pts kids) = (decide (kids.length = 0) && decide (pts.length ≤ 1))) := fun h => by
    show (pts.all inR && (decide (kids.length = 0) && decide (pts.length ≤ 1))) = _
    rw [all_in h]; rfl
  have hN9 : pts.length ≤ 9223372036854775807 := by unfold maxLen at hpm; omega
  generalize fm1 (.mk 1 pts kids) = GD at HOut HEnd ⊢
  generalize pts.length = N at HPt HB HG HEnd hN9 ⊢
  generalize kids.length = M at HB HG HEnd ⊢
  have hd0 : ¬ (deep : Int) < 0 := by omega
  clear hpr hkl hkm hkn hkids hpl hpm
  go_enter Tryz.func27, Tryz.ntmps27
  go_wp2_with fail
  go_loopw [17] (fun i wr => ∃ j : Nat, j ≤ N ∧ i = .int .i64 j ∧ (W.alloc (.cells #[.int .i64 1, .slice p N cap, .slice q M c2] 25)).grownBy wr none ∧ ∀ (i : Nat) (u : Int × Int), i < j → pts[i]? = some u → inR u = true) (fun i _ => N - (intOf i).toNat)
  case atStart => exact ⟨0, by omega, rfl, gt_refl _ _, fun i u h => absurd h (by omega)⟩
  case round =>
    obtain ⟨j, hj, rfl, Gr, hin⟩ := hrel
    rename World => wr
    have HIn := Lib.hid hin
    clear hin
    have Gw := gt_trans HG.out Gr (.inl rfl)
    by_cases hjN : j < N
    · obtain ⟨a, ⟨ux, uy⟩, rfl, hpj, q0, q1⟩ := HPt.out wr Gw j hjN
      have HPj := Lib.hid hpj
      clear hpj
      by_cases c1 : min ux uy < -1048576
      · obtain rfl : GD = false := HOut.out j _ HPj.out (.inl c1)
        go_wp2_with fail
        all_goals (go_ret; exact ⟨rfl, gt_trans Gw (World.grownBy_alloc _ _ _) (.inl rfl)⟩)
      · by_cases c2 : (1048576 : Int) < max ux uy
        · obtain rfl : GD = false := HOut.out j _ HPj.out (.inr c2)
          go_wp2_with fail
          all_goals (go_ret; exact ⟨rfl, gt_trans Gw (World.grownBy_alloc _ _ _) (.inl rfl)⟩)
        · have HI1 := Lib.hid (inR_of (u := (ux, uy)) c1 c2)
          go_wp2_with fail
          all_goals
            refine ⟨⟨j + 1, by omega, by go_num, gt_trans Gr (World.grownBy_alloc _ _ _) (.inl rfl), fun i u hi hu => ?_⟩, by simp [intOf]; omega⟩
            by_cases hij : i < j
            · exact HIn.out i u hij hu
            · obtain rfl : i = j := by omega
              rw [HPj.out] at hu
              injection hu with hu
              rw [← hu]
              exact HI1.out
    · obtain rfl : j = N := by omega
      obtain ⟨b0, b1, b2⟩ := HB.out _ Gr
      have HE := Lib.hid (HEnd.out HIn.out)
      by_cases hM : M = 0
      · have hMb : ((M : Int) == 0) = true := by rw [hM]; rfl
        by_cases hN : j ≤ 1
        · have hNi : (j : Int) ≤ 1 := by omega
          obtain rfl : GD = true := by rw [HE.out]; simp [hM, hN]
          go_wp2_with fail
          go_wp2_with fail
          go_ret
          exact ⟨rfl, Gw⟩
        · have hNi : ¬ (j : Int) ≤ 1 := by omega
          obtain rfl : GD = false := by rw [HE.out]; simp [hN]
          go_wp2_with fail
          go_wp2_with fail
          go_ret
          exact ⟨rfl, Gw⟩
      · have hMb : ((M : Int) == 0) = false := by rw [beq_eq_false_iff_ne]; omega
        obtain rfl : GD = false := by rw [HE.out]; simp [hM]
        go_wp2_with fail
        go_wp2_with fail
        go_ret
        exact ⟨rfl, Gw⟩

set_option maxRecDepth 100000 in
set_option maxHeartbeats 8000000 in
theorem formed_mp (h : Nat) (W : World) (v : Value) (pts : List (Int × Int)) (kids : List Shp) (hk : KS h W v (.mk 4 pts kids)) (deep : Nat) (hd : deep ≤ 100) (hd1 : 1 ≤ deep) :
    Calls Tryz.prog 27 #[v, .int .i64 1048576, .int .i64 deep] W (EPost W (fm4 (.mk 4 pts kids))) := by
  cases h with
  | zero => exact hk.elim
  | succ h =>
  obtain ⟨p, cap, q, c2, rfl, hpr, hkl, hkm, hkn, hkids⟩ := hk
  have hpl := hpr.le
  have hpm := hpr.most
  have HPt : Hid (∀ w, W.grownBy w none → ∀ j, j < pts.length → ∃ (a : Addr) (u : Int × Int), p = some a ∧ pts[j]? = some u ∧ w.cell? (a.add (j * 2)) = some (.int .i64 u.1) ∧ w.cell? ⟨(a.add (j * 2)).block, (a.add (j * 2)).off + 1, none⟩ = some (.int .i64 u.2)) := fun w g j hj => by
    obtain ⟨a, ha⟩ := hpr.some_ (by omega)
    have hi : pts[j]? = some (pts[j]'hj) := List.getElem?_eq_getElem hj
    obtain ⟨q0, q1⟩ := (hpr.mono g).at_ a ha j _ hi
    exact ⟨a, _, ha, hi, q0, q1⟩
  have HKd : Hid (∀ w, W.grownBy w none → ∀ j, j < kids.length → ∃ (a : Addr) (t : Shp) (k1 : Int) (p1 : Option Addr) (n1 cap1 : Nat) (q1 : Option Addr) (m1 cq1 : Nat), q = some a ∧ kids[j]? = some t ∧ w.cell? (a.add (j * 3)) = some (.int .i64 k1) ∧ w.cell? ⟨(a.add (j * 3)).block, (a.add (j * 3)).off + 1, none⟩ = some (.slice p1 n1 cap1) ∧ w.cell? ⟨(a.add (j * 3)).block, (a.add (j * 3)).off + 2, none⟩ = some (.slice q1 m1 cq1) ∧
      k1 = kindS t ∧ (k1 = 1 → ∀ w', w.grownBy w' none → ∀ dp : Nat, dp ≤ 100 → Calls Tryz.prog 27 #[.agg #[.int .i64 k1, .slice p1 n1 cap1, .slice q1 m1 cq1], .int .i64 1048576, .int .i64 dp] w' (EPost w' (fm1 t)))) := fun w g j hj => by
    obtain ⟨a, ha⟩ : ∃ a, q = some a := by
      cases q with
      | none => have := hkn rfl; omega
      | some a => exact ⟨a, rfl⟩
    have hi : kids[j]? = some (kids[j]'hj) := List.getElem?_eq_getElem hj
    obtain ⟨c0, c1, c2, k0, q0, q1, q2⟩ := hkids a ha j _ hi
    obtain ⟨k1, pts1, kids1, p1, cap1, q1', cq1, ht, rfl, rfl, rfl⟩ := k0.form3
    refine ⟨a, _, k1, p1, _, cap1, q1', _, cq1, ha, hi, g.cell q0 (by simp), g.cell q1 (by simp), g.cell q2 (by simp), by rw [ht]; rfl, fun hk1 w' g' dp hdp => ?_⟩
    have k9 := (k0.mono g).mono g'
    rw [ht] at k9 ⊢
    subst hk1
    exact formed_pt h w' _ _ _ k9 dp hdp
  have HB : Hid (∀ w, (W.alloc (.cells #[.int .i64 4, .slice p pts.length cap, .slice q kids.length c2] 25)).grownBy w none → w.cell? ⟨W.heap.size, 0, none⟩ = some (.int .i64 4) ∧ w.cell? ⟨W.heap.size, 1, none⟩ = some (.slice p pts.length cap) ∧ w.cell? ⟨W.heap.size, 2, none⟩ = some (.slice q kids.length c2)) := fun w g => ⟨g.cell (by simp) (by simp), g.cell (by simp) (by simp), g.cell (by simp) (by simp)⟩
  have HG := Lib.hid (World.grownBy_alloc W (.cells #[.int .i64 4, .slice p pts.length cap, .slice q kids.length c2] 25) none)
  have hN9 : pts.length ≤ 9223372036854775807 := by unfold maxLen at hpm; omega
  have hM9 : kids.length ≤ 9223372036854775807 := by unfold maxLen at hkm; omega
  have HOut : Hid (∀ (j : Nat) (u : Int × Int), pts[j]? = some u → (min u.1 u.2 < -1048576 ∨ 1048576 < max u.1 u.2) → fm4 (.mk 4 pts kids) = false) := fun j u hj h => by
    show (pts.all inR && ((kids.all fun t => decide (kindS t = 1) && fm1 t) && decide (pts.length = 0))) = false
    rw [all_out j u hj h]; rfl
  have HBadK : Hid (∀ (j : Nat) (t : Shp), kids[j]? = some t → (¬ kindS t = 1 ∨ fm1 t = false) → fm4 (.mk 4 pts kids) = false) := fun j t hj h => by
    show (pts.all inR && ((kids.all fun t => decide (kindS t = 1) && fm1 t) && decide (pts.length = 0))) = false
    have : (kids.all fun t => decide (kindS t = 1) && fm1 t) = false := by
      rw [List.all_eq_false]
      exact ⟨t, List.mem_of_getElem? hj, by rcases h with h | h <;> simp [h]⟩
    rw [this]; simp
  have HEnd : Hid ((∀ (j : Nat) (u : Int × Int), j < pts.length → pts[j]? = some u → inR u = true) → (∀ (j : Nat) (t : Shp), j < kids.length → kids[j]? = some t → kindS t = 1 ∧ fm1 t = true) → fm4 (.mk 4 pts kids) = decide (pts.length = 0)) := fun h h' => by
    show (pts.all inR && ((kids.all fun t => decide (kindS t = 1) && fm1 t) && decide (pts.length = 0))) = _
    have : (kids.all fun t => decide (kindS t = 1) && fm1 t) = true := by
      rw [List.all_eq_true]
      intro t ht
      obtain ⟨j, hj⟩ := List.getElem?_of_mem ht
      obtain ⟨e1, e2⟩ := h' j t (List.getElem?_eq_some_iff.1 hj).1 hj
      simp [e1, e2]
    rw [all_in h, this]; rfl
  generalize fm4 (.mk 4 pts kids) = GD at HOut HBadK HEnd ⊢
  generalize pts.length = N at HPt HB HG HEnd hN9 ⊢
  generalize hM : kids.length = M at HKd HB HG HEnd hM9 ⊢
  have hd0 : ¬ (deep : Int) < 0 := by omega
  obtain ⟨d1, hd2⟩ : ∃ d1, deep = d1 + 1 := ⟨deep - 1, by omega⟩
  have hd3 : IntKind.i64.wrap ((deep : Int) - 1) = (d1 : Int) := by rw [IntKind.wrap_i64]; omega
  have hd4 : d1 ≤ 100 := by omega
  clear hpr hkl hkm hkn hkids hpl hpm hM hd2
  go_enter Tryz.func27, Tryz.ntmps27
  go_wp2_with fail
  go_loopw [17] (fun i wr => ∃ j : Nat, j ≤ N ∧ i = .int .i64 j ∧ (W.alloc (.cells #[.int .i64 4, .slice p N cap, .slice q M c2] 25)).grownBy wr none ∧ ∀ (i : Nat) (u : Int × Int), i < j → pts[i]? = some u → inR u = true) (fun i _ => N - (intOf i).toNat)
  case atStart => exact ⟨0, by omega, rfl, gt_refl _ _, fun i u h => absurd h (by omega)⟩
  case round =>
    obtain ⟨j, hj, rfl, Gr, hin⟩ := hrel
    rename World => wr
    have HIn := Lib.hid hin
    clear hin
    have Gw := gt_trans HG.out Gr (.inl rfl)
    by_cases hjN : j < N
    · obtain ⟨a, ⟨ux, uy⟩, rfl, hpj, q0, q1⟩ := HPt.out wr Gw j hjN
      have HPj := Lib.hid hpj
      clear hpj
      by_cases c1 : min ux uy < -1048576
      · obtain rfl : GD = false := HOut.out j _ HPj.out (.inl c1)
        go_wp2_with fail
        all_goals (go_ret; exact ⟨rfl, gt_trans Gw (World.grownBy_alloc _ _ _) (.inl rfl)⟩)
      · by_cases c2 : (1048576 : Int) < max ux uy
        · obtain rfl : GD = false := HOut.out j _ HPj.out (.inr c2)
          go_wp2_with fail
          all_goals (go_ret; exact ⟨rfl, gt_trans Gw (World.grownBy_alloc _ _ _) (.inl rfl)⟩)
        · have HI1 := Lib.hid (inR_of (u := (ux, uy)) c1 c2)
          go_wp2_with fail
          all_goals
            refine ⟨⟨j + 1, by omega, by go_num, gt_trans Gr (World.grownBy_alloc _ _ _) (.inl rfl), fun i u hi hu => ?_⟩, by simp [intOf]; omega⟩
            by_cases hij : i < j
            · exact HIn.out i u hij hu
            · obtain rfl : i = j := by omega
              rw [HPj.out] at hu
              injection hu with hu
              rw [← hu]
              exact HI1.out
    · obtain rfl : j = N := by omega
      obtain ⟨b0, b1, b2⟩ := HB.out _ Gr
      go_wp2_with fail
      go_wp2_with fail
      clear b0 b1 b2
      go_loopw [65] (fun i w2 => ∃ l : Nat, l ≤ M ∧ i = .int .i64 l ∧ (W.alloc (.cells #[.int .i64 4, .slice p j cap, .slice q M c2] 25)).grownBy w2 none ∧ ∀ i t, i < l → kids[i]? = some t → kindS t = 1 ∧ fm1 t = true) (fun i _ => M - (intOf i).toNat)
      case atStart => exact ⟨0, by omega, rfl, Gr, fun i t h => absurd h (by omega)⟩
      case round =>
        clear Gr Gw
        obtain ⟨l, hl, rfl, Gr, hgd⟩ := hrel
        rename World => w2
        have HGd := Lib.hid hgd
        clear hgd
        have Gw := gt_trans HG.out Gr (.inl rfl)
        obtain ⟨b0, b1, b2⟩ := HB.out _ Gr
        have hz : W.heap.size < w2.heap.size := by have := Gr.size; simp at this; omega
        by_cases hlM : l < M
        · obtain ⟨a, t, k1, p1, n1, cap1, q1', m1, cq1, rfl, hti, q0, q1, q2, hkt, hf⟩ := HKd.out w2 Gw l hlM
          have HKt := Lib.hid hkt
          clear hkt
          by_cases hk1 : k1 = 1
          · have HF := Lib.hid (hf hk1)
            have hkb : (k1 == 1) = true := by rw [hk1]; rfl
            have HT := Lib.hid hti
            have HK1 : Hid (kindS t = 1) := by show kindS t = 1; rw [← HKt.out]; exact hk1
            have HBK := Lib.hid (HBadK.out l t hti)
            generalize hfm : fm1 t = fb at HF HBK
            cases fb
            · obtain rfl : GD = false := HBK.out (.inr rfl)
              clear hf hk1 hti hfm
              go_wp2_with (first
                | (go_at_call 27; refine (HF.out _ (World.grownBy_alloc _ _ _) d1 hd4).mono ?_; rintro e w3 ⟨rfl, hg3⟩))
              go_ret
              exact ⟨rfl, gt_trans (gt_trans Gw (World.grownBy_alloc _ _ _) (.inl rfl)) hg3 (.inl rfl)⟩
            · have HFm := Lib.hid hfm
              clear hf hk1 hti hfm
              go_wp2_with (first
                | (go_at_call 27; refine (HF.out _ (World.grownBy_alloc _ _ _) d1 hd4).mono ?_; rintro e w3 ⟨rfl, hg3⟩))
              refine ⟨⟨l + 1, by omega, by go_num, gt_trans (gt_trans Gr (World.grownBy_alloc _ _ _) (.inl rfl)) hg3 (.inl rfl), fun i t' hi ht' => ?_⟩, by simp [intOf]; omega⟩
              by_cases hil : i < l
              · exact HGd.out i t' hil ht'
              · obtain rfl : i = l := by omega
                rw [HT.out] at ht'
                injection ht' with ht'
                subst ht'
                exact ⟨HK1.out, HFm.out⟩
          · have hkb : (k1 == 1) = false := by rw [beq_eq_false_iff_ne]; exact hk1
            obtain rfl : GD = false := HBadK.out l t hti (.inl (by rw [← HKt.out]; exact hk1))
            clear hf hk1 hti
            go_wp2_with fail
            go_ret
            exact ⟨rfl, gt_trans Gw (World.grownBy_alloc _ _ _) (.inl rfl)⟩
        · obtain rfl : l = M := by omega
          have HE := Lib.hid (HEnd.out HIn.out HGd.out)
          by_cases hN : j = 0
          · have hNb : ((j : Int) == 0) = true := by rw [hN]; rfl
            obtain rfl : GD = true := by rw [HE.out]; simp [hN]
            go_wp2_with fail
            go_wp2_with fail
            go_ret
            exact ⟨rfl, Gw⟩
          · have hNb : ((j : Int) == 0) = false := by rw [beq_eq_false_iff_ne]; omega
            obtain rfl : GD = false := by rw [HE.out]; simp [hN]
            go_wp2_with fail
            go_wp2_with fail
            go_ret
            exact ⟨rfl, Gw⟩
end Go.Proofs.YtlpaecafpbbbkaaGreatDoor
namespace Go.Proofs.YtlpaecafpbbbkaaGreatDoor
open Go.Joins Go.ChangeShapes Go.WideShapes Go.RowKit Go.Deep Go.ChangeAt

def szP : Shp → Nat
  | .mk _ pts _ => 1 + pts.length
def szL : List Shp → Nat
  | [] => 0
  | t :: ts => szP t + szL ts
theorem szL_append : ∀ (a b : List Shp), szL (a ++ b) = szL a + szL b
  | [], b => by simp [szL]
  | t :: a, b => by simp only [List.cons_append, szL, szL_append a b]; omega
theorem szL_take (kids : List Shp) (j : Nat) (t : Shp) (h : kids[j]? = some t) : szL (kids.take (j + 1)) = szL (kids.take j) + szP t := by
  obtain ⟨hlt, rfl⟩ := List.getElem?_eq_some_iff.1 h
  rw [List.take_succ_eq_append_getElem hlt, szL_append]
  simp [szL]
theorem szL_le : ∀ (a : List Shp), (∀ s ∈ a, pt1 s) → szL a ≤ 2 * a.length
  | [], _ => by simp [szL]
  | .mk k pts kids :: a, h => by
    have h1 := szL_le a fun s hs => h s (List.mem_cons_of_mem _ hs)
    have h2 : pt1 (.mk k pts kids) := h _ List.mem_cons_self
    have h3 := h2.2.1
    simp only [szL, szP, List.length_cons]
    omega
theorem szL_ge : ∀ (a : List Shp), a.length ≤ szL a
  | [] => by simp [szL]
  | .mk k pts kids :: a => by
    have h1 := szL_ge a
    simp only [szL, szP, List.length_cons]
    omega
set_option maxRecDepth 100000 in
set_option maxHeartbeats 4000000 in
theorem size_pt (h : Nat) (W : World) (v : Value) (t : Shp) (hk : KS h W v t) (hg : pt1 t) (deep : Nat) :
    Calls Tryz.prog 28 #[v, .int .i64 deep] W fun e w' => e = .returned (.int .i64 (szP t)) ∧ W.grownBy w' none := by
  cases h with
  | zero => exact hk.elim
  | succ h =>
  obtain ⟨k, pts, kids⟩ := t
  obtain ⟨hk1, hp1, rfl⟩ := hg
  obtain ⟨p, cap, q, c2, rfl, _⟩ := hk
  have hsz : szP (.mk k pts []) = 1 + pts.length := rfl
  rw [hsz]
  have HB : Hid (∀ w, (W.alloc (.cells #[.int .i64 k, .slice p pts.length cap, .slice q ([] : List Shp).length c2] 25)).grownBy w none → w.cell? ⟨W.heap.size, 2, none⟩ = some (.slice q 0 c2)) := fun w g => g.cell (by simp) (by simp)
  have HG := Lib.hid (World.grownBy_alloc W (.cells #[.int .i64 k, .slice p pts.length cap, .slice q ([] : List Shp).length c2] 25) none)
  have hl0 : ([] : List Shp).length = 0 := rfl
  rw [hl0] at HB HG ⊢
  generalize pts.length = N at HB HG hp1 ⊢
  have hd0 : ¬ (deep : Int) < 0 := by omega
  have hw1 : IntKind.i64.wrap (1 + (N : Int)) = 1 + (N : Int) := by rw [IntKind.wrap_i64]; omega
  clear hl0 hsz hk1
  go_enter Tryz.func28, Tryz.ntmps28
  go_wp2_with fail
  refine wp_loop_rounds 1 ?_
  rw [rounds_succ]
  go_wp2_with fail
  go_wp2_with fail
  go_ret
  exact ⟨by push_cast; rfl, HG.out⟩
set_option maxRecDepth 100000 in
set_option maxHeartbeats 4000000 in
theorem size_mp (h : Nat) (W : World) (v : Value) (t : Shp) (hk : KS h W v t) (kids : List Shp) (ht : t = .mk 4 [] kids) (hgd : ∀ s ∈ kids, pt1 s) (hMx : kids.length ≤ 2147483647) (deep : Nat) (hd1 : 1 ≤ deep) (hd : deep ≤ 100) :
    Calls Tryz.prog 28 #[v, .int .i64 deep] W fun e w' => e = .returned (.int .i64 (1 + szL kids : Nat)) ∧ W.grownBy w' none := by
  cases h with
  | zero => exact hk.elim
  | succ h =>
  subst ht
  obtain ⟨p, cap, q, c2, rfl, hpr, hkl, hkm, hkn, hkids⟩ := hk
  have hl0 : ([] : List (Int × Int)).length = 0 := rfl
  rw [hl0]
  have HKd : Hid (∀ w, W.grownBy w none → ∀ j, j < kids.length → ∃ (a : Addr) (t : Shp) (k1 : Int) (p1 : Option Addr) (n1 cap1 : Nat) (q1 : Option Addr) (m1 cq1 : Nat), q = some a ∧ kids[j]? = some t ∧ w.cell? (a.add (j * 3)) = some (.int .i64 k1) ∧ w.cell? ⟨(a.add (j * 3)).block, (a.add (j * 3)).off + 1, none⟩ = some (.slice p1 n1 cap1) ∧ w.cell? ⟨(a.add (j * 3)).block, (a.add (j * 3)).off + 2, none⟩ = some (.slice q1 m1 cq1) ∧
      szP t ≤ 2 ∧ (∀ w', w.grownBy w' none → ∀ dp : Nat, Calls Tryz.prog 28 #[.agg #[.int .i64 k1, .slice p1 n1 cap1, .slice q1 m1 cq1], .int .i64 dp] w' fun e w2 => e = .returned (.int .i64 (szP t)) ∧ w'.grownBy w2 none)) := fun w g j hj => by
    obtain ⟨a, ha⟩ : ∃ a, q = some a := by
      cases q with
      | none => have := hkn rfl; omega
      | some a => exact ⟨a, rfl⟩
    have hi : kids[j]? = some (kids[j]'hj) := List.getElem?_eq_getElem hj
    obtain ⟨c0, c1, c2, k0, q0, q1, q2⟩ := hkids a ha j _ hi
    have hp1 := hgd _ (List.mem_of_getElem? hi)
    obtain ⟨k1, pts1, kids1, p1, cap1, q1', cq1, ht, rfl, rfl, rfl⟩ := k0.form3
    refine ⟨a, _, k1, p1, _, cap1, q1', _, cq1, ha, hi, g.cell q0 (by simp), g.cell q1 (by simp), g.cell q2 (by simp), ?_, fun w' g' dp => size_pt h w' _ _ ((k0.mono g).mono g') hp1 dp⟩
    rw [ht] at hp1 ⊢
    have := hp1.2.1
    show 1 + pts1.length ≤ 2
    omega
  have HT := Lib.hid (fun j t (hj : kids[j]? = some t) => szL_take kids j t hj)
  have HT0 : Hid (szL (kids.take 0) = 0) := by show szL (kids.take 0) = 0; rw [List.take_zero]; rfl
  have HTe : Hid (szL (kids.take kids.length) = szL kids) := by show szL (kids.take kids.length) = _; rw [List.take_length]
  have HTl : Hid (∀ j, j ≤ kids.length → szL (kids.take j) ≤ 2 * j) := fun j hj => by
    have h1 := szL_le (kids.take j) (fun s hs => hgd s (List.mem_of_mem_take hs))
    rw [List.length_take] at h1
    omega
  have HB : Hid (∀ w, (W.alloc (.cells #[.int .i64 4, .slice p 0 cap, .slice q kids.length c2] 25)).grownBy w none → w.cell? ⟨W.heap.size, 2, none⟩ = some (.slice q kids.length c2)) := fun w g => g.cell (by simp) (by simp)
  have HG := Lib.hid (World.grownBy_alloc W (.cells #[.int .i64 4, .slice p 0 cap, .slice q kids.length c2] 25) none)
  generalize szL kids = SK at HTe ⊢
  generalize hM : kids.length = M at HKd HB HG HTe HTl hMx ⊢
  have hd0 : ¬ (deep : Int) < 0 := by omega
  obtain ⟨d1, hd2⟩ : ∃ d1, deep = d1 + 1 := ⟨deep - 1, by omega⟩
  have hd3 : IntKind.i64.wrap ((deep : Int) - 1) = (d1 : Int) := by rw [IntKind.wrap_i64]; omega
  clear hpr hkl hkm hkn hkids hM hd2 hl0
  go_enter Tryz.func28, Tryz.ntmps28
  go_wp2_with fail
  go_loopw [5, 17] (fun x i wr => ∃ l : Nat, l ≤ M ∧ i = .int .i64 l ∧ x = .int .i64 (1 + szL (kids.take l) : Nat) ∧ (W.alloc (.cells #[.int .i64 4, .slice p 0 cap, .slice q M c2] 25)).grownBy wr none) (fun _ i _ => M - (intOf i).toNat)
  case atStart => exact ⟨0, by omega, rfl, by rw [HT0.out]; rfl, gt_refl _ _⟩
  case round =>
    obtain ⟨l, hl, rfl, rfl, Gr⟩ := hrel
    rename World => w2
    have Gw := gt_trans HG.out Gr (.inl rfl)
    by_cases hlM : l < M
    · obtain ⟨a, t, k1, p1, n1, cap1, q1', m1, cq1, rfl, hti, q0, q1, q2, hs2, hf⟩ := HKd.out w2 Gw l hlM
      have HF := Lib.hid hf
      have HTj := Lib.hid (HT.out l t hti)
      have hsl := HTl.out l hl
      generalize szL (kids.take l) = sa at HTj hsl ⊢
      generalize szP t = st at HF HTj hs2
      have hw2 : IntKind.i64.wrap (((1 + sa : Nat) : Int) + (st : Int)) = ((1 + (sa + st) : Nat) : Int) := by rw [IntKind.wrap_i64]; omega
      have HW2 := Lib.hid hw2
      clear hf hti hw2
      go_wp2_with (first
        | (go_at_call 28; refine (HF.out _ (World.grownBy_alloc _ _ _) d1).mono ?_; rintro e w3 ⟨rfl, hg3⟩))
      exact ⟨⟨l + 1, by omega, by go_num, by rw [HTj.out]; go_num, gt_trans (gt_trans Gr (World.grownBy_alloc _ _ _) (.inl rfl)) hg3 (.inl rfl)⟩, by simp [intOf]; omega⟩
    · obtain rfl : l = M := by omega
      go_wp2_with fail
      go_wp2_with fail
      go_ret
      exact ⟨by first | rfl | (rw [HTe.out]; rfl), Gw⟩
end Go.Proofs.YtlpaecafpbbbkaaGreatDoor
namespace Go.Proofs.YtlpaecafpbbbkaaGreatDoor
open Go.RowKit
theorem geomOf_any : ∀ h, IHS h
  | 0 => fun _ _ _ hk => hk.elim
  | h + 1 => geomOf_succ h (geomOf_any h)
end Go.Proofs.YtlpaecafpbbbkaaGreatDoor
namespace Go.Proofs.YtlpaecafpbbbkaaGreatDoor
open Go.RowKit

set_option maxRecDepth 100000 in
set_option maxHeartbeats 2000000 in
theorem SameNums_any (p q : Option Addr) (n c c2 : Nat) (f g : Nat → Nat) (W : World) (hf : FVal W p n f) (hg : FVal W q n g) (hn : n ≤ 9223372036854775807) (he : ∀ i, i < n → f i = g i) :
    Calls Tryz.prog 34 #[.slice p n c, .slice q n c2] W fun e w' => e = .returned (.bool true) ∧ W.grownBy w' none := by
  have hfb : ∀ (w : World) (b : Nat), Sem.run Tryz.prog (callFunc 83 #[.float .f64 b]) w = .ok (.value (.int .u64 b)) w := fun w b => by kernel_rfl
  have HF := Lib.hid hf
  have HGv := Lib.hid hg
  have HE := Lib.hid he
  clear hf hg he
  go_enter Tryz.func34, Tryz.ntmps34
  go_wp2_with fail
  go_loopw [14] (fun i wr => ∃ j : Nat, j ≤ n ∧ i = .int .i64 j ∧ W.grownBy wr none) (fun i _ => n - (intOf i).toNat)
  case atStart => exact ⟨0, by omega, rfl, gt_refl _ _⟩
  case round =>
    obtain ⟨j, hj, rfl, Gr⟩ := hrel
    rename World => wr
    by_cases hjn : j < n
    · obtain ⟨a, rfl⟩ := HF.out.some_ (by omega)
      obtain ⟨b, rfl⟩ := HGv.out.some_ (by omega)
      have q0 := (HF.out.mono Gr).at_ a rfl j hjn
      have q1 := (HGv.out.mono Gr).at_ b rfl j hjn
      rw [← HE.out j hjn] at q1
      have hj0 : (0 : Int) ≤ (j : Int) := by omega
      have hj1 : (j : Int) < (n : Int) := by omega
      go_wp2_with fail
      go_region
      all_goals
        go_wp2_with fail
        exact ⟨⟨j + 1, by omega, by go_num, gt_trans Gr (gt_below (by go_grown) none) (.inl rfl)⟩, by simp [intOf]; omega⟩
    · obtain rfl : j = n := by omega
      go_wp2_with fail
      go_wp2_with fail
      go_ret
      exact ⟨rfl, Gr⟩

/-- The same data, number for number. -/
inductive SameT : Raw → Raw → Prop where
  | mk {k d : Int} {n : Nat} {f f' : Nat → Nat} {kids kids' : List Raw} (hf : ∀ i, i < n → f i = f' i) (hl : kids.length = kids'.length) (hk : ∀ (i : Nat) (t t' : Raw), kids[i]? = some t → kids'[i]? = some t' → SameT t t') : SameT (.mk k d n f kids) (.mk k d n f' kids')
def SameOk (h : Nat) : Prop := ∀ (B1 B2 : Nat → Prop) (W : World) (v1 v2 : Value) (t1 t2 : Raw), KD B1 h W v1 t1 → KD B2 h W v2 t2 → SameT t1 t2 → Calls Tryz.prog 13 #[v1, v2] W fun e w' => e = .returned (.bool true) ∧ W.grownBy w' none
set_option maxRecDepth 100000 in
set_option maxHeartbeats 2000000 in
theorem SameGeoms_of (M : Nat) (p q : Option Addr) (c c2 : Nat) (W : World) (hM : M ≤ 9223372036854775807)
    (HR : ∀ w, W.grownBy w none → ∀ j, j < M → ∃ (a b : Addr) (k1 d1 : Int) (p1 : Option Addr) (n1 e1 : Nat) (q1 : Option Addr) (m1 g1 : Nat) (k2 d2 : Int) (p2 : Option Addr) (n2 e2 : Nat) (q2 : Option Addr) (m2 g2 : Nat), p = some a ∧ q = some b ∧ (w.cell? (a.add (j * 4)) = some (.int .i64 k1) ∧ w.cell? ⟨(a.add (j * 4)).block, (a.add (j * 4)).off + 1, none⟩ = some (.int .i64 d1) ∧ w.cell? ⟨(a.add (j * 4)).block, (a.add (j * 4)).off + 2, none⟩ = some (.slice p1 n1 e1) ∧ w.cell? ⟨(a.add (j * 4)).block, (a.add (j * 4)).off + 3, none⟩ = some (.slice q1 m1 g1)) ∧
      (w.cell? (b.add (j * 4)) = some (.int .i64 k2) ∧ w.cell? ⟨(b.add (j * 4)).block, (b.add (j * 4)).off + 1, none⟩ = some (.int .i64 d2) ∧ w.cell? ⟨(b.add (j * 4)).block, (b.add (j * 4)).off + 2, none⟩ = some (.slice p2 n2 e2) ∧ w.cell? ⟨(b.add (j * 4)).block, (b.add (j * 4)).off + 3, none⟩ = some (.slice q2 m2 g2)) ∧
      ∀ w', w.grownBy w' none → Calls Tryz.prog 13 #[.agg #[.int .i64 k1, .int .i64 d1, .slice p1 n1 e1, .slice q1 m1 g1], .agg #[.int .i64 k2, .int .i64 d2, .slice p2 n2 e2, .slice q2 m2 g2]] w' fun e w2 => e = .returned (.bool true) ∧ w'.grownBy w2 none) :
    Calls Tryz.prog 35 #[.slice p M c, .slice q M c2] W fun e w' => e = .returned (.bool true) ∧ W.grownBy w' none := by
  have HRd := Lib.hid HR
  clear HR
  go_enter Tryz.func35, Tryz.ntmps35
  go_wp2_with fail
  go_loopw [14] (fun i wr => ∃ j : Nat, j ≤ M ∧ i = .int .i64 j ∧ W.grownBy wr none) (fun i _ => M - (intOf i).toNat)
  case atStart => exact ⟨0, by omega, rfl, gt_refl _ _⟩
  case round =>
    obtain ⟨j, hj, rfl, Gr⟩ := hrel
    rename World => wr
    by_cases hjM : j < M
    · obtain ⟨a, b, k1, d1, p1, n1, e1, q1, m1, g1, k2, d2, p2, n2, e2, q2, m2, g2, rfl, rfl, ⟨y0, y1, y2, y3⟩, ⟨z0, z1, z2, z3⟩, hc⟩ := HRd.out wr Gr j hjM
      have HC := Lib.hid hc
      have hz9 : b.block < wr.heap.size + 1 := by have := World.block_lt_of_cell? wr _ z0; rw [add_block] at this; omega
      have hz8 : (b.add (j * 4)).block < wr.heap.size + 1 := by rw [add_block]; exact hz9
      have hj0 : (0 : Int) ≤ (j : Int) := by omega
      have hj1 : (j : Int) < (M : Int) := by omega
      have hb : b.block < wr.heap.size := by have := World.block_lt_of_cell? wr _ z0; rw [add_block] at this; exact this
      have hb2 : (b.add (j * 4)).block < wr.heap.size := by rw [add_block]; exact hb
      clear hc
      go_wp2_with fail
      go_region_law (first
        | (rw [if_pos (by simp [Region.wanted])]; go_simp; go_at_call 13; (with_reducible refine (HC.out _ ?_).mono ?_); exact gt_below (by go_grown) none; rintro e w3 ⟨rfl, hg3⟩))
      all_goals
        go_wp2_with fail
        exact ⟨⟨j + 1, by omega, by go_num, gt_trans Gr (gt_trans (gt_below (by go_grown) none) hg3 (.inl rfl)) (.inl rfl)⟩, by simp [intOf]; omega⟩
    · obtain rfl : j = M := by omega
      go_wp2_with fail
      go_wp2_with fail
      go_ret
      exact ⟨rfl, Gr⟩

set_option maxRecDepth 100000 in
set_option maxHeartbeats 2000000 in
theorem sameGeom_succ (h : Nat) (ih : SameOk h) : SameOk (h + 1) := by
  intro B1 B2 W v1 v2 t1 t2 hk1 hk2 hs
  obtain ⟨hf, hl, hkd⟩ := hs
  rename_i k d n f f' kids kids'
  obtain ⟨p, cap, q, cq, rfl, hf1, h11, h12, h13, hm1, hm2, hm3, hm4, _⟩ := hk1
  obtain ⟨p', cap', q', cq', rfl, hf2, h21, h22, h23, hn1, hn2, hn3, hn4, _⟩ := hk2
  have hn9 : n ≤ 9223372036854775807 := by unfold maxLen at h12; omega
  have hM9 : kids.length ≤ 9223372036854775807 := by unfold maxLen at hm2; omega
  have HN := Lib.hid (fun w (g : W.grownBy w none) => SameNums_any p p' n cap cap' f f' w (hf1.mono g) (hf2.mono g) hn9 hf)
  rw [← hl] at hn1 ⊢
  have HG2 := Lib.hid (fun w (g : W.grownBy w none) => SameGeoms_of kids.length q q' cq cq' w hM9 (fun w' g' j hj => by
    have G := gt_trans g g' (.inl rfl)
    obtain ⟨a, ha⟩ : ∃ a, q = some a := by
      cases q with
      | none => have := hm3 rfl; omega
      | some a => exact ⟨a, rfl⟩
    obtain ⟨b, hb⟩ : ∃ b, q' = some b := by
      cases q' with
      | none => have := hn3 rfl; omega
      | some b => exact ⟨b, rfl⟩
    have hi : kids[j]? = some (kids[j]'hj) := List.getElem?_eq_getElem hj
    have hi' : kids'[j]? = some (kids'[j]'(by omega)) := List.getElem?_eq_getElem (by omega)
    obtain ⟨c0, c1, c2, c3, k0, x0, x1, x2, x3⟩ := hm4 a ha j _ hi
    obtain ⟨d0, d1, d2, d3, l0, y0, y1, y2, y3⟩ := hn4 b hb j _ hi'
    have hss := hkd j _ _ hi hi'
    obtain ⟨e1, r1, n1, f1, kk1, p1, cap1, q1, cq1, _, rfl, rfl, rfl, rfl⟩ := k0.form4
    obtain ⟨e2, r2, n2, f2, kk2, p2, cap2, q2, cq2, _, rfl, rfl, rfl, rfl⟩ := l0.form4
    exact ⟨a, b, e1, r1, p1, n1, cap1, q1, _, cq1, e2, r2, p2, n2, cap2, q2, _, cq2, ha, hb, ⟨G.cell x0 (by simp), G.cell x1 (by simp), G.cell x2 (by simp), G.cell x3 (by simp)⟩, ⟨G.cell y0 (by simp), G.cell y1 (by simp), G.cell y2 (by simp), G.cell y3 (by simp)⟩, fun w2 g2 => ih B1 B2 w2 _ _ _ _ ((k0.mono G).mono g2) ((l0.mono G).mono g2) hss⟩))
  generalize kids.length = M at HG2 ⊢
  have HG := Lib.hid (gt_alloc_r (World.grownBy_alloc W (.cells #[.int .i64 k, .int .i64 d, .slice p n cap, .slice q M cq] 33) none) (.cells #[.int .i64 k, .int .i64 d, .slice p' n cap', .slice q' M cq'] 33))
  have HB : Hid (∀ w, ((W.alloc (.cells #[.int .i64 k, .int .i64 d, .slice p n cap, .slice q M cq] 33)).alloc (.cells #[.int .i64 k, .int .i64 d, .slice p' n cap', .slice q' M cq'] 33)).grownBy w none → w.cell? ⟨W.heap.size, 3, none⟩ = some (.slice q M cq) ∧ w.cell? ⟨W.heap.size + 1, 3, none⟩ = some (.slice q' M cq')) := fun w g => ⟨g.cell (by simp) (by simp), g.cell (by simp) (by simp)⟩
  clear hf hl hkd hf1 hf2 h11 h12 h13 hm1 hm2 hm3 hm4 h21 h22 h23 hn1 hn2 hn3 hn4 hn9 hM9 ih
  go_enter Tryz.func13, Tryz.ntmps13
  go_wp2_with (first
    | (go_at_call 34; refine (HN.out _ HG.out).mono ?_; rintro e w2 ⟨rfl, hg2⟩; obtain ⟨b1, b2⟩ := HB.out _ hg2)
    | (go_at_call 35; refine (HG2.out _ (gt_trans HG.out hg2 (.inl rfl))).mono ?_; rintro e w3 ⟨rfl, hg3⟩))
  go_ret
  exact ⟨rfl, gt_trans (gt_trans HG.out hg2 (.inl rfl)) hg3 (.inl rfl)⟩
theorem sameOk : ∀ h, SameOk h
  | 0 => fun _ _ _ _ _ _ _ hk => hk.elim
  | h + 1 => sameGeom_succ h (sameOk h)
end Go.Proofs.YtlpaecafpbbbkaaGreatDoor
namespace Go.Proofs.YtlpaecafpbbbkaaGreatDoor
open Go.RowKit

theorem wE_len (c : UInt8) : (wE c).length ≤ 6 := by unfold wE EMPTY; split <;> decide
set_option maxRecDepth 100000 in
set_option maxHeartbeats 1000000 in
theorem LineIsEmpty_any (r n : Nat) (hr : r < 4) (a : Option Addr) (hn : n ≤ 2000) (W : World) :
    Calls Tryz.prog 96 #[.agg #[.int .u8 r, .slice a n n]] W fun e w' => e = .returned (.bool (((n / widN r : Nat) : Int) == 0)) ∧ W.grownBy w' none := by
  have HL := Lib.hid (fun w => Length_any r n hr a n hn w)
  have HG := Lib.hid (World.grownBy_alloc W (.cells #[.int .u8 r, .slice a n n] 93) none)
  generalize n / widN r = L at HL ⊢
  go_enter Tryz.func96, Tryz.ntmps96
  go_wp2_with (first | (go_at_call 102; refine (HL.out _).mono ?_; rintro e w' ⟨rfl, hg⟩))
  go_ret
  exact ⟨rfl, gt_trans HG.out hg (.inl rfl)⟩

theorem tag_last (name : List UInt8) (c0 : UInt8) (r : Nat) (hr : r < 4) : ∃ l', (name ++ [c0]) ++ tag r = l' ++ [if r = 0 then c0 else 32] := by
  rcases (by omega : r = 0 ∨ r = 1 ∨ r = 2 ∨ r = 3) with rfl | rfl | rfl | rfl
  · exact ⟨name, by simp [tag]⟩
  · exact ⟨name ++ [c0] ++ [32, 90], by simp [tag]⟩
  · exact ⟨name ++ [c0] ++ [32, 77], by simp [tag]⟩
  · exact ⟨name ++ [c0] ++ [32, 90, 77], by simp [tag]⟩
def nLINE : List UInt8 := [76, 73, 78, 69, 83, 84, 82, 73, 78, 71]
theorem tag_len (r : Nat) : (tag r).length ≤ 4 := by
  match r with
  | 0 => decide
  | 1 => decide
  | 2 => decide
  | n + 3 => simp [tag]
set_option maxRecDepth 100000 in
set_option maxHeartbeats 1000000 in
theorem LineCT_any (r : Nat) (y : Value) (hy : ∃ p n c, y = .slice p n c) (W : World) :
    Calls Tryz.prog 129 #[.agg #[.int .u8 r, y]] W fun e w' => e = .returned (.int .u8 r) ∧ W.grownBy w' none := by
  obtain ⟨p, n, c, rfl⟩ := hy
  go_enter Tryz.func129, Tryz.ntmps129
  go_wp2_with go_in
  go_ret
  exact ⟨rfl, gt_alloc_r (World.grownBy_alloc _ _ _) _⟩

end Go.Proofs.YtlpaecafpbbbkaaGreatDoor
namespace Go.Proofs.YtlpaecafpbbbkaaGreatDoor
open Go.RowKit

set_option maxRecDepth 100000 in
set_option maxHeartbeats 400000 in
theorem Width_lit (x y : Int) (h : (x = 0 ∧ y = 2) ∨ (x = 1 ∧ y = 3) ∨ (x = 2 ∧ y = 3) ∨ (x = 3 ∧ y = 4)) (w : World) :
    Calls Tryz.prog 42 #[.int .i64 x] w fun e w' => e = .returned (.int .i64 y) ∧ w' = w := by
  rcases h with ⟨rfl, rfl⟩ | ⟨rfl, rfl⟩ | ⟨rfl, rfl⟩ | ⟨rfl, rfl⟩
  all_goals
    go_enter Tryz.func42, Tryz.ntmps42
    have b0 : bits .and .i64 0 1 = 0 := by kernel_rfl
    have b1 : bits .and .i64 1 1 = 1 := by kernel_rfl
    have b2 : bits .and .i64 2 1 = 0 := by kernel_rfl
    have b3 : bits .and .i64 3 1 = 1 := by kernel_rfl
    go_wp2_with fail
    go_ret
    exact ⟨by first | rfl | kernel_rfl, rfl⟩
theorem Width_any (r : Nat) (hr : r < 4) (w : World) : Calls Tryz.prog 42 #[.int .i64 r] w fun e w' => e = .returned (.int .i64 (widN r : Nat)) ∧ w' = w :=
  Width_lit r (widN r : Nat) (by unfold widN; omega) w

theorem Leaf_2 (w : World) : Calls Tryz.prog 41 #[.int .i64 2] w fun e w' => e = .returned (.bool true) ∧ w' = w := by
  go_enter Tryz.func41, Tryz.ntmps41
  go_wp2_with fail
  go_ret
  exact ⟨rfl, rfl⟩
end Go.Proofs.YtlpaecafpbbbkaaGreatDoor
