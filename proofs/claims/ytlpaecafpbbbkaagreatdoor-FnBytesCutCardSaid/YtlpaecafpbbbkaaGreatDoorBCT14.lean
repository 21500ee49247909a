/- The reference's writer of well known binary: whatever the geometry; WriteWKB. The package's containers, made of a geometry. The package's polygons, several lines and several polygons: all the contracts, together. The points and several points of the package, as trees of plain data. A value of the package as a geometry, and back. -/
import Derived.Test.YtlpaecafpbbbkaaGreatDoorBCT7
import Derived.Test.YtlpaecafpbbbkaaGreatDoorBCT12
import Derived.Test.YtlpaecafpbbbkaaGreatDoorBCT13
set_option linter.unusedVariables false
set_option linter.unusedSimpArgs false
namespace Go.Proofs.YtlpaecafpbbbkaaGreatDoor
open Go.RowKit

theorem wrT_eq (k : Int) (dm n : Nat) (f : Nat → Nat) (kids : List Raw) : wrT (.mk k dm n f kids) = [1] ++ Lib.leBytes 4 (codeN k + 1000 * dm) ++ (if k = 1 then (if n = 0 then numsW (widN dm) (fun _ => emptyN) else numsW n f) else if k = 2 then bLine (.mk k dm n f kids) else Lib.leBytes 4 kids.length ++ wrTs (decide (k = 3)) kids) := by
  unfold wrT
  rw [Int.toNat_natCast]
theorem gdTs_mem {k d : Int} : ∀ {ts : List Raw} {j : Nat} {t : Raw}, gdTs k d ts → ts[j]? = some t → gdT t ∧ (0 ≤ kidOf k → kindOf t = kidOf k) ∧ (k = 3 → dimR t = d.toNat)
  | [], _, _, _, h => by simp at h
  | s :: ts, 0, t, h, hj => by
    unfold gdTs at h
    simp at hj
    subst hj
    exact ⟨h.1, h.2.1, h.2.2.1⟩
  | s :: ts, j + 1, t, h, hj => by
    unfold gdTs at h
    exact gdTs_mem h.2.2.2 (by simpa using hj)
theorem bLine_len (t : Raw) : (bLine t).length ≤ 50 * wt t := by
  obtain ⟨k, d, n, f, kids⟩ := t
  have e8 := numsW_len n f
  unfold bLine wt
  rw [List.length_append, leB_len, e8]
  omega
theorem wgeom_any : ∀ (h : Nat) (B : Nat → Prop) (V : World) (v : Value) (t : Raw), KD B h V v t → gdT t → ∀ (W : World) (rb : Nat) (x : Value) (l : List UInt8), WS V W rb x l → l.length + 50 * wt t ≤ 999000 →
    Calls Tryz.prog 89 #[.pointer (some ⟨rb, 0, none⟩), v] W fun e w' => e = .returned (.tuple #[]) ∧ ∃ x', WT V W w' rb x x' (l ++ wrT t)
  | 0, _, _, _, _, hk, _, _, _, _, _, _, _ => hk.elim
  | h + 1, B, V, v, .mk k d n f kids, hk, hg, W, rb, x, l, hs, hl => by
    obtain ⟨p, cap, q, c2, rfl, hf, h1, h2, h3, hm1, hm2, hm3, hm4, _⟩ := hk
    unfold gdT at hg
    obtain ⟨k0, k6, d0, d4, hnf, g1, g2, g3, g4, g5, gks⟩ := hg
    obtain ⟨dm, rfl⟩ : ∃ dm : Nat, d = (dm : Int) := ⟨d.toNat, by omega⟩
    rw [Int.toNat_natCast] at g1 g2
    have hd : dm < 4 := by omega
    unfold wt at hl
    have hL : ∀ c, (l ++ [1] ++ Lib.leBytes 4 c).length = l.length + 5 := fun c => by simp [List.length_append, leB_len]
    rw [wrT_eq]
    have fin : ∀ (c : Nat) (b : List UInt8) {e : Ending} {w' : World}, (e = .returned (.tuple #[]) ∧ ∃ x', WT V W w' rb x x' (l ++ [1] ++ Lib.leBytes 4 c ++ b)) → e = .returned (.tuple #[]) ∧ ∃ x', WT V W w' rb x x' (l ++ ([1] ++ Lib.leBytes 4 c ++ b)) := fun c b e w' ⟨he, x', hx⟩ => ⟨he, x', by rw [← List.append_assoc, ← List.append_assoc]; exact hx⟩
    by_cases hk1 : k = 1
    · subst hk1
      rw [if_pos rfl]
      by_cases hn : n = 0
      · subst hn
        rw [if_pos rfl]
        exact (wpt0 V W rb x l _ dm hd p q cap kids.length c2 rfl (by rw [hL]; omega) hs).mono fun e w' hh => fin _ _ hh
      · rw [if_neg hn]
        exact (wpt1 V W rb x l _ dm hd p q n cap kids.length c2 f rfl (by rw [hL]; omega) hn hf hs).mono fun e w' hh => fin _ _ hh
    · by_cases hk2 : k = 2
      · subst hk2
        rw [if_neg (by decide), if_pos rfl]
        exact (wln V W rb x l _ dm hd p q n cap kids.length c2 f kids rfl (by rw [hL]; omega) hf hs).mono fun e w' hh => fin _ _ hh
      · rw [if_neg hk1, if_neg hk2]
        have fin2 : ∀ (c : Nat) (b b2 : List UInt8) {e : Ending} {w' : World}, (e = .returned (.tuple #[]) ∧ ∃ x', WT V W w' rb x x' (l ++ [1] ++ Lib.leBytes 4 c ++ b ++ b2)) → e = .returned (.tuple #[]) ∧ ∃ x', WT V W w' rb x x' (l ++ ([1] ++ Lib.leBytes 4 c ++ (b ++ b2))) := fun c b b2 e w' ⟨he, x', hx⟩ => ⟨he, x', by simpa only [List.append_assoc] using hx⟩
        have hkid : ∀ (j : Nat) (t : Raw), kids[j]? = some t → ∃ a k6 d6 n6 f6 kids6 p6 c6 q6 c7, q = some a ∧ V.cell? (a.add (j * 4)) = some (.int .i64 k6) ∧ V.cell? ⟨(a.add (j * 4)).block, (a.add (j * 4)).off + 1, none⟩ = some (.int .i64 d6) ∧ V.cell? ⟨(a.add (j * 4)).block, (a.add (j * 4)).off + 2, none⟩ = some (.slice p6 n6 c6) ∧ V.cell? ⟨(a.add (j * 4)).block, (a.add (j * 4)).off + 3, none⟩ = some (.slice q6 kids6.length c7) ∧ KD B h V (.agg #[.int .i64 k6, .int .i64 d6, .slice p6 n6 c6, .slice q6 kids6.length c7]) t ∧ t = .mk k6 d6 n6 f6 kids6 := fun j t hj => by
          have hlt := (List.getElem?_eq_some_iff.1 hj).1
          obtain ⟨a, rfl⟩ : ∃ a, q = some a := by
            cases q with
            | none => have := hm3 rfl; omega
            | some a => exact ⟨a, rfl⟩
          obtain ⟨c0, c1, c2, c3, kk, z0, z1, z2, z3⟩ := hm4 a rfl j t hj
          obtain ⟨k6, d6, n6, f6, kids6, p6, c6, q6, c7, e, rfl, rfl, rfl, rfl⟩ := kk.form4
          exact ⟨a, k6, d6, n6, f6, kids6, p6, c6, q6, c7, rfl, z0, z1, z2, z3, kk, e⟩
        have hgeo : k ≠ 3 → ∀ (j : Nat) (t : Raw), kids[j]? = some t → ∃ a k6 d6 p6 n6 c6 q6 m6 c7, q = some a ∧ V.cell? (a.add (j * 4)) = some (.int .i64 k6) ∧ V.cell? ⟨(a.add (j * 4)).block, (a.add (j * 4)).off + 1, none⟩ = some (.int .i64 d6) ∧ V.cell? ⟨(a.add (j * 4)).block, (a.add (j * 4)).off + 2, none⟩ = some (.slice p6 n6 c6) ∧ V.cell? ⟨(a.add (j * 4)).block, (a.add (j * 4)).off + 3, none⟩ = some (.slice q6 m6 c7) ∧ (wrT t).length ≤ 50 * wt t ∧
            ∀ w x1 l1, WS V w rb x1 l1 → l1.length + 50 * wt t ≤ 999000 → Calls Tryz.prog 89 #[.pointer (some ⟨rb, 0, none⟩), .agg #[.int .i64 k6, .int .i64 d6, .slice p6 n6 c6, .slice q6 m6 c7]] w fun e w' => e = .returned (.tuple #[]) ∧ ∃ x', WT V w w' rb x1 x' (l1 ++ wrT t) := fun _ j t hj => by
          obtain ⟨a, k6, d6, n6, f6, kids6, p6, c6, q6, c7, rfl, z0, z1, z2, z3, kk, e⟩ := hkid j t hj
          have hgt := (gdTs_mem gks hj).1
          exact ⟨a, k6, d6, p6, n6, c6, q6, _, c7, rfl, z0, z1, z2, z3, wrT_len t hgt, fun w x1 l1 hs1 hl1 => wgeom_any h B V _ t kk hgt w rb x1 l1 hs1 hl1⟩
        rcases (by omega : k = 3 ∨ k = 0 ∨ k = 4 ∨ k = 5 ∨ k = 6) with rfl | rfl | rfl | rfl | rfl
        · refine (wco3 V W rb x l _ dm hd p q n cap kids.length c2 kids rfl (by rw [hL]; omega) rfl g3 (fun j t hj => ?_) hs).mono fun e w' hh => fin2 _ _ _ hh
          obtain ⟨a, k6, d6, n6, f6, kids6, p6, c6, q6, c7, rfl, z0, z1, z2, z3, kk, e⟩ := hkid j t hj
          obtain ⟨hgt, _, _⟩ := gdTs_mem gks hj
          refine ⟨a, k6, d6, p6, n6, c6, q6, _, c7, rfl, z0, z1, z2, z3, bLine_len t, fun w x1 l1 hs1 hl1 => ?_⟩
          subst e
          unfold gdT at hgt
          obtain ⟨dm6, rfl⟩ : ∃ dm : Nat, d6 = (dm : Int) := ⟨d6.toNat, by omega⟩
          unfold wt at hl1
          cases h with
          | zero => exact kk.elim
          | succ h =>
            obtain ⟨p', cap', q', c2', he, hf', _⟩ := kk
            simp only [Value.agg.injEq, Array.mk.injEq, List.cons.injEq, Value.slice.injEq, and_true, true_and] at he
            obtain ⟨⟨rfl, rfl⟩, rfl, rfl⟩ := he
            exact wline_any V w rb x1 l1 k6 dm6 (by omega) p6 q6 n6 c6 _ c7 f6 kids6 (by omega) hf' hs1
        · exact (wco0 V W rb x l _ dm hd p q n cap kids.length c2 kids rfl (by rw [hL]; omega) rfl g3 (hgeo (by decide)) hs).mono fun e w' hh => fin2 _ _ _ hh
        · exact (wco4 V W rb x l _ dm hd p q n cap kids.length c2 kids rfl (by rw [hL]; omega) rfl g3 (hgeo (by decide)) hs).mono fun e w' hh => fin2 _ _ _ hh
        · exact (wco5 V W rb x l _ dm hd p q n cap kids.length c2 kids rfl (by rw [hL]; omega) rfl g3 (hgeo (by decide)) hs).mono fun e w' hh => fin2 _ _ _ hh
        · exact (wco6 V W rb x l _ dm hd p q n cap kids.length c2 kids rfl (by rw [hL]; omega) rfl g3 (hgeo (by decide)) hs).mono fun e w' hh => fin2 _ _ _ hh

theorem ownsRow_lower {w : World} {base base' size n : Nat} {e : TypeId} {v : Value} {xs : List Value} (h : w.ownsRow base e size v n xs) (hb : base' ≤ base) : w.ownsRow base' e size v n xs :=
  ⟨h.1, h.2.imp id fun ⟨g, cap, cur, e1, e2, rest⟩ => ⟨g, cap, cur, e1, Nat.le_trans hb e2, rest⟩⟩
/-- What writing gives: a row of the call's own. -/
def WrP (W : World) (l : List UInt8) (e : Ending) (w' : World) : Prop := ∃ x, e = .returned x ∧ w'.ownsRow W.heap.size 5 1 x l.length (Bs l) ∧ W.grownBy w' none
set_option maxRecDepth 100000 in
set_option maxHeartbeats 1000000 in
theorem WriteAs_any (h : Nat) (B : Nat → Prop) (W : World) (k d : Int) (p q : Option Addr) (n c m c2 : Nat) (t : Raw) (hk : KD B h W (.agg #[.int .i64 k, .int .i64 d, .slice p n c, .slice q m c2]) t) (hg : gdT t) (hw : wt t ≤ 2000) :
    Calls Tryz.prog 40 #[.agg #[.int .i64 k, .int .i64 d, .slice p n c, .slice q m c2], .slice none 0 0] W (WrP W (wrT t)) := by
  have hs0 : WS W ((W.alloc (.cells #[.int .i64 k, .int .i64 d, .slice p n c, .slice q m c2] 33)).alloc (.cells #[.slice none 0 0, .slice none 0 0] 152)) (W.heap.size + 1) (.slice none 0 0) [] :=
    ⟨gt_alloc_r (World.grownBy_alloc W _ none) _, by omega, by simp, by simp, fun j => by simp, World.ownsRow_nil _ _ _ _, by simp [Value.ownBlock]⟩
  have HG := Lib.hid (wgeom_any h B W _ t hk hg _ (W.heap.size + 1) (.slice none 0 0) [] hs0 (by simp; omega))
  generalize wrT t = L at HG ⊢
  clear hk hg hw hs0
  go_enter Tryz.func40, Tryz.ntmps40
  go_wp2_with (first
    | (go_at_call 89; go_loud (refine HG.out.mono ?_; rintro e w1 ⟨rfl, x1, hx1⟩; have HX := Lib.hid hx1; have c0 := hx1.s.c0; clear hx1)))
  go_ret
  exact ⟨_, rfl, HX.out.s.own, HX.out.s.g⟩
set_option maxRecDepth 100000 in
set_option maxHeartbeats 1000000 in
theorem WriteWKB_any (h : Nat) (B : Nat → Prop) (W : World) (k d : Int) (p q : Option Addr) (n c m c2 : Nat) (t : Raw) (hk : KD B h W (.agg #[.int .i64 k, .int .i64 d, .slice p n c, .slice q m c2]) t) (hg : gdT t) (hw : wt t ≤ 2000) :
    Calls Tryz.prog 21 #[.agg #[.int .i64 k, .int .i64 d, .slice p n c, .slice q m c2]] W fun e w' => ∃ x, e = .returned x ∧ w'.ownsRow W.heap.size 5 1 x (wrT t).length (Bs (wrT t)) ∧ W.grownBy w' none := by
  have G1 := World.grownBy_alloc W (.cells #[.int .i64 k, .int .i64 d, .slice p n c, .slice q m c2] 33) none
  have HA := Lib.hid (WriteAs_any h B _ k d p q n c m c2 t (hk.mono G1) hg hw)
  clear hk hg hw
  go_enter Tryz.func21, Tryz.ntmps21
  go_wp2_with (first
    | (go_at_call 40; refine HA.out.mono ?_; unfold WrP; rintro e w1 ⟨x, rfl, hown, hg⟩))
  go_ret
  exact ⟨_, rfl, ownsRow_lower hown (by simp), gt_trans G1 hg (.inl rfl)⟩
end Go.Proofs.YtlpaecafpbbbkaaGreatDoor
namespace Go.Proofs.YtlpaecafpbbbkaaGreatDoor
open Go.RowKit

theorem keepPg (t : Raw) : keepT 3 (newT t) = decide (kindOf t = 2) := by
  unfold keepT
  rw [kindOf_new]
  have e : kidOf 3 = 2 := by decide
  rw [e]
  have e2 : decide ((2 : Int) < 0) = false := by decide
  rw [e2, Bool.false_or]
  apply decide_eq_decide.2
  unfold kindN
  split <;> omega
end Go.Proofs.YtlpaecafpbbbkaaGreatDoor
namespace Go.Proofs.YtlpaecafpbbbkaaGreatDoor
open Go.RowKit

abbrev DPg := DNode 3 DLine
abbrev DMl := DNode 5 DLine
abbrev DMp := DNode 6 DPg
theorem DPg.dk : DK DPg := DNode.dk DLine.dk
theorem DMl.dk : DK DMl := DNode.dk DLine.dk
theorem DMp.dk : DK DMp := DNode.dk DPg.dk
set_option maxRecDepth 100000 in
set_option maxHeartbeats 400000 in
theorem PgCT (D : (Nat → Prop) → World → Value → Raw → Prop) : CC (DNode 3 D) 145 := by
  intro B W v t ⟨r, f, kids, p, c, ht, hr, hv, _⟩
  subst ht hv
  generalize kids.length = n
  go_enter Tryz.func145, Tryz.ntmps145
  go_wp2_with fail
  go_ret
  exact ⟨rfl, World.grownBy_alloc _ _ _⟩
theorem PgFC : FC DPg 108 := PgForce_of DLine.dk DLine.form LineFC
theorem MlFC : FC DMl 112 := MlForce_of DLine.dk DLine.form LineFC
theorem MpFC : FC DMp 114 := MpForce_of DPg.dk DNode.form PgFC
end Go.Proofs.YtlpaecafpbbbkaaGreatDoor
namespace Go.Proofs.YtlpaecafpbbbkaaGreatDoor
open Go.RowKit

/-- A tree that a point of the package is. -/
def PtT (s : Raw) : Prop := ∃ r n f, s = .mk 1 (r : Nat) n f [] ∧ r < 4 ∧ (n = 0 ∨ n = widN r) ∧ ∀ i, f i < 18446744073709551616
def DPoint (B : Nat → Prop) (W : World) (v : Value) (t : Raw) : Prop := PtT t ∧ v = (ptR t).v
theorem ptR_of {r n : Nat} {f : Nat → Nat} {kids : List Raw} (hr : r < 4) : ptR (.mk 1 (r : Nat) n f kids) = ptOf r n f := by
  show ptOf ((r : Int) % 4).toNat n f = _
  have : ((r : Int) % 4).toNat = r := by omega
  rw [this]
theorem PtT.ok {s : Raw} (h : PtT s) : (ptR s).Ok := by
  obtain ⟨r, n, f, rfl, hr, _, hf⟩ := h
  rw [ptR_of hr]
  exact ptOf_ok r n f hr hf
theorem PtT.dim {s : Raw} (h : PtT s) : dimR s < 4 ∧ (ptR s).r = dimR s := by
  obtain ⟨r, n, f, rfl, hr, _, hf⟩ := h
  rw [ptR_of hr, ptOf_r]
  have : dimR (.mk 1 (r : Nat) n f []) = r := by show ((r : Nat) : Int).toNat = r; omega
  rw [this]
  exact ⟨hr, rfl⟩
theorem fFb_lt (r D : Nat) (f : Nat → Nat) (hf : ∀ i, f i < 18446744073709551616) (i : Nat) : fF r D f i < 18446744073709551616 := by
  unfold fF plX plY plZ plM
  split
  · exact hf _
  · split
    · exact hf _
    · split
      · split
        · exact hf _
        · omega
      · split
        · exact hf _
        · omega
theorem PtT.force {s : Raw} (h : PtT s) (D : Nat) (hD : D < 4) : PtT (forceT D s) ∧ (ptR s).force D = ptR (forceT D s) := by
  obtain ⟨r, n, f, rfl, hr, hn, hf⟩ := h
  have hw := widN_le r hr
  have hwD := widN_le D hD
  have e : forceT D (.mk 1 (r : Nat) n f []) = .mk 1 (D : Nat) (n / widN r * widN D) (fF r D f) [] := by unfold forceT; rw [Int.toNat_natCast]; rfl
  rw [e, ptR_of hr, ptR_of hD]
  refine ⟨⟨D, _, _, rfl, hD, ?_, fFb_lt r D f hf⟩, ?_⟩
  · rcases hn with rfl | rfl
    · left; simp
    · right; rw [Nat.div_self (by omega), Nat.one_mul]
  · rcases hn with rfl | rfl
    · have e1 : ptOf r 0 f = ptE r := by unfold ptOf; rw [if_pos (Nat.zero_div _)]
      rw [e1, Nat.zero_div, Nat.zero_mul]
      unfold Pt.force ptOf ptE
      rw [if_neg (by simp), if_pos (Nat.zero_div _)]
    · have e1 : widN r / widN r = 1 := Nat.div_self (by omega)
      have e2 : ptOf r (widN r) f = ⟨plX r f 0, plY r f 0, plZ r f 0, plM r f 0, r, true⟩ := by unfold ptOf; rw [if_neg (by omega)]
      rw [e2, e1, Nat.one_mul]
      obtain ⟨p1, p2, p3, p4⟩ := fF_place r D hr hD f
      have e3 : ptOf D (widN D) (fF r D f) = ⟨plX D (fF r D f) 0, plY D (fF r D f) 0, plZ D (fF r D f) 0, plM D (fF r D f) 0, D, true⟩ := by unfold ptOf; rw [if_neg (by rw [Nat.div_self (by omega)]; omega)]
      rw [e3, p1, p2, p3, p4]
      unfold Pt.force
      rw [if_pos rfl]
theorem ptOf_min (r n : Nat) (hr : r < 4) (f : Nat → Nat) : ptOf r (min (n / widN r) 1 * widN r) f = ptOf r n f := by
  have hw := widN_le r hr
  unfold ptOf
  rw [Nat.mul_div_cancel _ (by omega)]
  generalize n / widN r = L
  by_cases h : L = 0
  · rw [if_pos h, if_pos (by omega)]
  · rw [if_neg h, if_neg (by omega)]
theorem PtT.new (d : Int) (n : Nat) (f : Nat → Nat) (kids : List Raw) (hf : ∀ i, f i < 18446744073709551616) : PtT (newT (.mk 1 d n f kids)) ∧ ptR (newT (.mk 1 d n f kids)) = ptR (.mk 1 d n f kids) := by
  obtain ⟨r, hr, hr4⟩ : ∃ r : Nat, d % 4 = r ∧ r < 4 := ⟨(d % 4).toNat, by omega, by omega⟩
  have hrt : (d % 4).toNat = r := by rw [hr]; rfl
  have e : newT (.mk 1 d n f kids) = .mk 1 (r : Nat) (min (n / widN r) 1 * widN r) f [] := by rw [new1, hrt, hr]
  rw [e, ptR_of hr4, ptOf_min r n hr4]
  refine ⟨⟨r, _, f, rfl, hr4, ?_, hf⟩, by show _ = ptOf (d % 4).toNat n f; rw [hrt]⟩
  generalize n / widN r = L
  by_cases h : L = 0
  · left; rw [h]; simp
  · right; rw [show min L 1 = 1 by omega, Nat.one_mul]
theorem PointFC : FC DPoint 213 := by
  intro B W v t r' ⟨ht, hv⟩ hok hr' hB
  subst hv
  obtain ⟨h1, h2⟩ := ht.force r' hr'
  have h3 := ht.dim
  have h4 : (ptR t).r < 4 := by omega
  refine (PtForce_any (ptR t).x (ptR t).y (ptR t).z (ptR t).m (ptR t).r (ptR t).b r' h4 hr' W).mono ?_
  rintro e w' ⟨rfl, hg⟩
  exact ⟨_, rfl, ⟨h1, by rw [← h2]⟩, hg⟩
theorem PointCC : CC DPoint 140 := by
  intro B W v t ⟨ht, hv⟩
  subst hv
  rw [← ht.dim.2]
  exact PtCT_any _ _ _ _ _ _ W
theorem PR.keep {B : Nat → Prop} {W W' : World} (g : Kept B W W') {p : Option Addr} {ps : List Pt} (h : PR W p ps) (hb : 0 < ps.length → ∀ a, p = some a → B a.block) : PR W' p ps := by
  refine ⟨h.some_, fun a ha i t hi => ?_⟩
  have h0 : 0 < ps.length := by have := (List.getElem?_eq_some_iff.1 hi).1; omega
  have hB : B (a.add (i * 6)).block := by rw [add_block]; exact hb h0 a ha
  obtain ⟨h0, h1, h2, h3, h4, h5⟩ := h.at_ a ha i t hi
  exact ⟨g _ _ hB h0, g _ _ hB h1, g _ _ hB h2, g _ _ hB h3, g _ _ hB h4, g _ _ hB h5⟩
def DMpt (B : Nat → Prop) (W : World) (v : Value) (t : Raw) : Prop := ∃ r f kids p c, t = .mk 4 (r : Nat) 0 f kids ∧ r < 4 ∧ (∀ s ∈ kids, PtT s) ∧ v = .agg #[.slice p kids.length c, .int .u8 r] ∧ PR W p (kids.map ptR) ∧ (0 < kids.length → ∀ a, p = some a → B a.block)
theorem DMpt.dk : DK DMpt where
  keep := fun g ⟨r, f, kids, p, c, e, hr, hs, ev, hp, hb⟩ => ⟨r, f, kids, p, c, e, hr, hs, ev, hp.keep g (by rw [List.length_map]; exact hb), hb⟩
  weak := fun hl ⟨r, f, kids, p, c, e, hr, hs, ev, hp, hb⟩ => ⟨r, f, kids, p, c, e, hr, hs, ev, hp, fun h0 a ha => hl _ (hb h0 a ha)⟩
  one := fun ⟨r, f, kids, p, c, e, hr, hs, ev, hp, hb⟩ => ⟨_, _, ev, rfl, rfl⟩
theorem DMpt.form {B : Nat → Prop} {W : World} {v : Value} {t : Raw} : DMpt B W v t → ∃ (p : Option Addr) (n c r : Nat), v = .agg #[.slice p n c, .int .u8 r] := fun ⟨r, f, kids, p, c, e, hr, hs, ev, hp, hb⟩ => ⟨p, _, c, r, ev⟩
theorem DMpt.d4 {B : Nat → Prop} {W : World} {v : Value} {t : Raw} : DMpt B W v t → dimR t < 4 := fun ⟨r, f, kids, p, c, e, hr, _⟩ => by subst e; show ((r : Nat) : Int).toNat < 4; omega
theorem PR.lt {W : World} {p : Option Addr} {ps : List Pt} (h : PR W p ps) (h0 : 0 < ps.length) (a : Addr) (ha : p = some a) : a.block < W.heap.size := by
  have hc := (h.at_ a ha 0 (ps[0]'h0) (List.getElem?_eq_getElem h0)).1
  have := World.block_lt_of_cell? W _ hc
  rw [add_block] at this
  exact this
theorem MptCC : CC DMpt 147 := by
  intro B W v t ⟨r, f, kids, p, c, e, hr, hs, ev, hp, hb⟩
  subst e ev
  exact MPCT_any r _ c p W
set_option maxRecDepth 100000 in
set_option maxHeartbeats 1000000 in
theorem MptFC : FC DMpt 110 := by
  intro B W v t r' hd hok hr' hB
  obtain ⟨r, f, kids, p, c, rfl, hr, hs, rfl, hp, hb⟩ := hd
  rw [force_node]
  obtain ⟨n, hn⟩ : ∃ n, kids.length = n := ⟨_, rfl⟩
  have hn2 : n ≤ 2000 := by rw [← hn]; unfold okT at hok; exact hok.2.1
  have hoks : ∀ u ∈ kids.map ptR, u.Ok := fun u hu => by obtain ⟨s, h1, rfl⟩ := List.mem_map.1 hu; exact (hs s h1).ok
  have hmap : (kids.map ptR).map (fun u => u.force r') = (forceTs r' kids).map ptR := by
    refine List.ext_getElem? fun i => ?_
    rw [List.getElem?_map, List.getElem?_map, List.getElem?_map, forceTs_get]
    cases h : kids[i]? with
    | none => rfl
    | some s => simp only [Option.map_some]; rw [((hs s (List.mem_of_getElem? h)).force r' hr').2]
  rw [hn]
  have HG := Lib.hid (gt_alloc_r (World.grownBy_alloc W (.cells #[.slice p n c, .int .u8 r] 101) none) (.cells #[.slice none 0 0, .int .u8 0] 101))
  have HF := Lib.hid (fun w (g : W.grownBy w none) => forceSlice_any r' hr' p (kids.map ptR) n c (by rw [List.length_map]; exact hn) hn2 hoks w (hp.mono g))
  rw [hmap] at HF
  have HC : Hid (∀ w, ((W.alloc (.cells #[.slice p n c, .int .u8 r] 101)).alloc (.cells #[.slice none 0 0, .int .u8 0] 101)).grownBy w none → w.cell? ⟨W.heap.size + 1, 0, none⟩ = some (.slice none 0 0) ∧ w.cell? ⟨W.heap.size + 1, 1, none⟩ = some (.int .u8 0) ∧ w.frozen? ⟨W.heap.size + 1, 0, none⟩ = false ∧ w.frozen? ⟨W.heap.size + 1, 1, none⟩ = false) := fun w g => by
    have hb := g.block (W.heap.size + 1) (by simp) (by simp)
    refine ⟨g.cell (by simp) (by simp), g.cell (by simp) (by simp), ?_, ?_⟩ <;> (rw [World.frozen?_of_block hb]; simp)
  have hfin : Hid (∀ (w : World) (a : Addr), PR w (some a) ((forceTs r' kids).map ptR) → W.heap.size + 2 ≤ a.block → ((W.alloc (.cells #[.slice p n c, .int .u8 r] 101)).alloc (.cells #[.slice none 0 0, .int .u8 0] 101)).grownBy w none → FPost DMpt B W (.mk 4 (r' : Nat) 0 (fF r r' f) (forceTs r' kids)) (.returned (.agg #[.slice (some a) n n, .int .u8 r'])) ((w.setCell ⟨W.heap.size + 1, 0, none⟩ (.slice (some a) n n)).setCell ⟨W.heap.size + 1, 1, none⟩ (.int .u8 r'))) := fun w a h ha g => by
    have hne : ∀ a', some a = some a' → a'.block ≠ W.heap.size + 1 := fun a' e => by injection e with e; subst e; omega
    have hl : (forceTs r' kids).length = n := by rw [forceTs_len, hn]
    refine ⟨_, rfl, ⟨r', _, _, some a, n, rfl, hr', fun s hs' => ?_, by rw [hl], (h.set hne _).set hne _, fun h0 a' ha' => .inr ?_⟩, gt_set_r (gt_set_r (gt_trans HG.out g (.inl rfl)) _ _ (Nat.le_succ _)) _ _ (Nat.le_succ _)⟩
    · obtain ⟨i, hi⟩ := List.getElem?_of_mem hs'
      rw [forceTs_get] at hi
      obtain ⟨u, hu, rfl⟩ := Option.map_eq_some_iff.1 hi
      exact ((hs u (List.mem_of_getElem? hu)).force r' hr').1
    · injection ha' with ha'
      subst ha'
      have := h.lt (by rw [List.length_map]; exact h0) a rfl
      exact ⟨by omega, by simpa [World.setCell] using this⟩
  clear hp hb hok hoks hmap hs hB hn
  go_enter Tryz.func110, Tryz.ntmps110
  go_wp2_with (first
    | (go_at_call 169; refine (HF.out _ HG.out).mono ?_; rintro e w2 ⟨a, rfl, hpr, hab, hg2⟩; obtain ⟨x0, x1, f0, f1⟩ := HC.out _ hg2))
  refine bodyPost_ret (by simp [results, Tryz.results110, go_sem, x0, x1]; try rfl) rfl ?_
  exact hfin.out _ _ hpr (by simpa using hab) hg2

end Go.Proofs.YtlpaecafpbbbkaaGreatDoor
namespace Go.Proofs.YtlpaecafpbbbkaaGreatDoor
open Go.RowKit

set_option maxRecDepth 100000 in
set_option maxHeartbeats 400000 in
theorem AsPoint (fx fy fz fm er : Nat) (eb : Bool) (W : World) : Calls Tryz.prog 49 #[.agg #[.float .f64 fx, .float .f64 fy, .float .f64 fz, .float .f64 fm, .int .u8 er, .bool eb]] W fun e w' => e = .returned (.agg #[.int .i64 1, .iface 165 (.pointer (some ⟨W.heap.size, 0, none⟩))]) ∧ (w'.cell? ⟨W.heap.size, 0, none⟩ = some (.float .f64 fx) ∧ w'.cell? ⟨W.heap.size, 1, none⟩ = some (.float .f64 fy) ∧ w'.cell? ⟨W.heap.size, 2, none⟩ = some (.float .f64 fz) ∧ w'.cell? ⟨W.heap.size, 3, none⟩ = some (.float .f64 fm) ∧ w'.cell? ⟨W.heap.size, 4, none⟩ = some (.int .u8 er) ∧ w'.cell? ⟨W.heap.size, 5, none⟩ = some (.bool eb)) ∧ W.heap.size < w'.heap.size ∧ W.grownBy w' none := by
  have hsf := run_store_flt Tryz.prog
  go_enter Tryz.func49, Tryz.ntmps49
  go_wp2_with fail
  go_returns
  refine ⟨rfl, ?_, by simp; omega, gt_alloc_r (World.grownBy_alloc _ _ _) _⟩
  simp

set_option maxRecDepth 100000 in
set_option maxHeartbeats 1000000 in
theorem MustAsPoint (fx fy fz fm er : Nat) (eb : Bool) (b : Nat) (W : World) (h0 : W.cell? ⟨b, 0, none⟩ = some (.float .f64 fx)) (h1 : W.cell? ⟨b, 1, none⟩ = some (.float .f64 fy)) (h2 : W.cell? ⟨b, 2, none⟩ = some (.float .f64 fz)) (h3 : W.cell? ⟨b, 3, none⟩ = some (.float .f64 fm)) (h4 : W.cell? ⟨b, 4, none⟩ = some (.int .u8 er)) (h5 : W.cell? ⟨b, 5, none⟩ = some (.bool eb)) (hb : b < W.heap.size) : Calls Tryz.prog 75 #[.agg #[.int .i64 1, .iface 165 (.pointer (some ⟨b, 0, none⟩))]] W fun e w' => e = .returned (.agg #[.float .f64 fx, .float .f64 fy, .float .f64 fz, .float .f64 fm, .int .u8 er, .bool eb]) ∧ W.grownBy w' none := by
  have hsf := run_store_flt Tryz.prog
  have hta : ∀ (w : World) (v : Value), (Instr.typeAssert (.iface 165 v) 20 165 false).run Tryz.prog w = .ok v w := fun w v => by kernel_rfl
  go_enter Tryz.func75, Tryz.ntmps75
  have hb1 : b < W.heap.size + 1 := by omega
  have hb2 : b < W.heap.size + 1 + 1 := by omega
  go_wp2_with (go_in)
  go_returns
  exact ⟨rfl, by first | exact gt_alloc_r (gt_alloc_r (World.grownBy_alloc _ _ _) _) _ | exact gt_alloc_r (World.grownBy_alloc _ _ _) _⟩

set_option maxRecDepth 100000 in
set_option maxHeartbeats 400000 in
theorem AsLineString (er : Nat) (ep : Option Addr) (en ec : Nat) (W : World) : Calls Tryz.prog 51 #[.agg #[.int .u8 er, .slice ep en ec]] W fun e w' => e = .returned (.agg #[.int .i64 2, .iface 167 (.pointer (some ⟨W.heap.size, 0, none⟩))]) ∧ (w'.cell? ⟨W.heap.size, 0, none⟩ = some (.int .u8 er) ∧ w'.cell? ⟨W.heap.size, 1, none⟩ = some (.slice ep en ec)) ∧ W.heap.size < w'.heap.size ∧ W.grownBy w' none := by
  go_enter Tryz.func51, Tryz.ntmps51
  go_wp2_with fail
  go_returns
  refine ⟨rfl, ?_, by simp; omega, gt_alloc_r (World.grownBy_alloc _ _ _) _⟩
  simp

set_option maxRecDepth 100000 in
set_option maxHeartbeats 1000000 in
theorem MustAsLineString (er : Nat) (ep : Option Addr) (en ec : Nat) (b : Nat) (W : World) (h0 : W.cell? ⟨b, 0, none⟩ = some (.int .u8 er)) (h1 : W.cell? ⟨b, 1, none⟩ = some (.slice ep en ec)) (hb : b < W.heap.size) : Calls Tryz.prog 64 #[.agg #[.int .i64 2, .iface 167 (.pointer (some ⟨b, 0, none⟩))]] W fun e w' => e = .returned (.agg #[.int .u8 er, .slice ep en ec]) ∧ W.grownBy w' none := by
  have hta : ∀ (w : World) (v : Value), (Instr.typeAssert (.iface 167 v) 20 167 false).run Tryz.prog w = .ok v w := fun w v => by kernel_rfl
  go_enter Tryz.func64, Tryz.ntmps64
  have hb1 : b < W.heap.size + 1 := by omega
  have hb2 : b < W.heap.size + 1 + 1 := by omega
  go_wp2_with (go_in)
  go_returns
  exact ⟨rfl, by first | exact gt_alloc_r (gt_alloc_r (World.grownBy_alloc _ _ _) _) _ | exact gt_alloc_r (World.grownBy_alloc _ _ _) _⟩

set_option maxRecDepth 100000 in
set_option maxHeartbeats 400000 in
theorem AsPolygon (ep : Option Addr) (en ec er : Nat) (W : World) : Calls Tryz.prog 53 #[.agg #[.slice ep en ec, .int .u8 er]] W fun e w' => e = .returned (.agg #[.int .i64 3, .iface 170 (.pointer (some ⟨W.heap.size, 0, none⟩))]) ∧ (w'.cell? ⟨W.heap.size, 0, none⟩ = some (.slice ep en ec) ∧ w'.cell? ⟨W.heap.size, 1, none⟩ = some (.int .u8 er)) ∧ W.heap.size < w'.heap.size ∧ W.grownBy w' none := by
  go_enter Tryz.func53, Tryz.ntmps53
  go_wp2_with fail
  go_returns
  refine ⟨rfl, ?_, by simp; omega, gt_alloc_r (World.grownBy_alloc _ _ _) _⟩
  simp

set_option maxRecDepth 100000 in
set_option maxHeartbeats 1000000 in
theorem MustAsPolygon (ep : Option Addr) (en ec er : Nat) (b : Nat) (W : World) (h0 : W.cell? ⟨b, 0, none⟩ = some (.slice ep en ec)) (h1 : W.cell? ⟨b, 1, none⟩ = some (.int .u8 er)) (hb : b < W.heap.size) : Calls Tryz.prog 66 #[.agg #[.int .i64 3, .iface 170 (.pointer (some ⟨b, 0, none⟩))]] W fun e w' => e = .returned (.agg #[.slice ep en ec, .int .u8 er]) ∧ W.grownBy w' none := by
  have hta : ∀ (w : World) (v : Value), (Instr.typeAssert (.iface 170 v) 20 170 false).run Tryz.prog w = .ok v w := fun w v => by kernel_rfl
  go_enter Tryz.func66, Tryz.ntmps66
  have hb1 : b < W.heap.size + 1 := by omega
  have hb2 : b < W.heap.size + 1 + 1 := by omega
  go_wp2_with (go_in)
  go_returns
  exact ⟨rfl, by first | exact gt_alloc_r (gt_alloc_r (World.grownBy_alloc _ _ _) _) _ | exact gt_alloc_r (World.grownBy_alloc _ _ _) _⟩

set_option maxRecDepth 100000 in
set_option maxHeartbeats 400000 in
theorem AsMultiPoint (ep : Option Addr) (en ec er : Nat) (W : World) : Calls Tryz.prog 55 #[.agg #[.slice ep en ec, .int .u8 er]] W fun e w' => e = .returned (.agg #[.int .i64 4, .iface 173 (.pointer (some ⟨W.heap.size, 0, none⟩))]) ∧ (w'.cell? ⟨W.heap.size, 0, none⟩ = some (.slice ep en ec) ∧ w'.cell? ⟨W.heap.size, 1, none⟩ = some (.int .u8 er)) ∧ W.heap.size < w'.heap.size ∧ W.grownBy w' none := by
  go_enter Tryz.func55, Tryz.ntmps55
  go_wp2_with fail
  go_returns
  refine ⟨rfl, ?_, by simp; omega, gt_alloc_r (World.grownBy_alloc _ _ _) _⟩
  simp

set_option maxRecDepth 100000 in
set_option maxHeartbeats 1000000 in
theorem MustAsMultiPoint (ep : Option Addr) (en ec er : Nat) (b : Nat) (W : World) (h0 : W.cell? ⟨b, 0, none⟩ = some (.slice ep en ec)) (h1 : W.cell? ⟨b, 1, none⟩ = some (.int .u8 er)) (hb : b < W.heap.size) : Calls Tryz.prog 79 #[.agg #[.int .i64 4, .iface 173 (.pointer (some ⟨b, 0, none⟩))]] W fun e w' => e = .returned (.agg #[.slice ep en ec, .int .u8 er]) ∧ W.grownBy w' none := by
  have hta : ∀ (w : World) (v : Value), (Instr.typeAssert (.iface 173 v) 20 173 false).run Tryz.prog w = .ok v w := fun w v => by kernel_rfl
  go_enter Tryz.func79, Tryz.ntmps79
  have hb1 : b < W.heap.size + 1 := by omega
  have hb2 : b < W.heap.size + 1 + 1 := by omega
  go_wp2_with (go_in)
  go_returns
  exact ⟨rfl, by first | exact gt_alloc_r (gt_alloc_r (World.grownBy_alloc _ _ _) _) _ | exact gt_alloc_r (World.grownBy_alloc _ _ _) _⟩

set_option maxRecDepth 100000 in
set_option maxHeartbeats 400000 in
theorem AsMultiLineString (ep : Option Addr) (en ec er : Nat) (W : World) : Calls Tryz.prog 57 #[.agg #[.slice ep en ec, .int .u8 er]] W fun e w' => e = .returned (.agg #[.int .i64 5, .iface 176 (.pointer (some ⟨W.heap.size, 0, none⟩))]) ∧ (w'.cell? ⟨W.heap.size, 0, none⟩ = some (.slice ep en ec) ∧ w'.cell? ⟨W.heap.size, 1, none⟩ = some (.int .u8 er)) ∧ W.heap.size < w'.heap.size ∧ W.grownBy w' none := by
  go_enter Tryz.func57, Tryz.ntmps57
  go_wp2_with fail
  go_returns
  refine ⟨rfl, ?_, by simp; omega, gt_alloc_r (World.grownBy_alloc _ _ _) _⟩
  simp

set_option maxRecDepth 100000 in
set_option maxHeartbeats 1000000 in
theorem MustAsMultiLineString (ep : Option Addr) (en ec er : Nat) (b : Nat) (W : World) (h0 : W.cell? ⟨b, 0, none⟩ = some (.slice ep en ec)) (h1 : W.cell? ⟨b, 1, none⟩ = some (.int .u8 er)) (hb : b < W.heap.size) : Calls Tryz.prog 68 #[.agg #[.int .i64 5, .iface 176 (.pointer (some ⟨b, 0, none⟩))]] W fun e w' => e = .returned (.agg #[.slice ep en ec, .int .u8 er]) ∧ W.grownBy w' none := by
  have hta : ∀ (w : World) (v : Value), (Instr.typeAssert (.iface 176 v) 20 176 false).run Tryz.prog w = .ok v w := fun w v => by kernel_rfl
  go_enter Tryz.func68, Tryz.ntmps68
  have hb1 : b < W.heap.size + 1 := by omega
  have hb2 : b < W.heap.size + 1 + 1 := by omega
  go_wp2_with (go_in)
  go_returns
  exact ⟨rfl, by first | exact gt_alloc_r (gt_alloc_r (World.grownBy_alloc _ _ _) _) _ | exact gt_alloc_r (World.grownBy_alloc _ _ _) _⟩

set_option maxRecDepth 100000 in
set_option maxHeartbeats 400000 in
theorem AsMultiPolygon (ep : Option Addr) (en ec er : Nat) (W : World) : Calls Tryz.prog 59 #[.agg #[.slice ep en ec, .int .u8 er]] W fun e w' => e = .returned (.agg #[.int .i64 6, .iface 179 (.pointer (some ⟨W.heap.size, 0, none⟩))]) ∧ (w'.cell? ⟨W.heap.size, 0, none⟩ = some (.slice ep en ec) ∧ w'.cell? ⟨W.heap.size, 1, none⟩ = some (.int .u8 er)) ∧ W.heap.size < w'.heap.size ∧ W.grownBy w' none := by
  go_enter Tryz.func59, Tryz.ntmps59
  go_wp2_with fail
  go_returns
  refine ⟨rfl, ?_, by simp; omega, gt_alloc_r (World.grownBy_alloc _ _ _) _⟩
  simp

set_option maxRecDepth 100000 in
set_option maxHeartbeats 1000000 in
theorem MustAsMultiPolygon (ep : Option Addr) (en ec er : Nat) (b : Nat) (W : World) (h0 : W.cell? ⟨b, 0, none⟩ = some (.slice ep en ec)) (h1 : W.cell? ⟨b, 1, none⟩ = some (.int .u8 er)) (hb : b < W.heap.size) : Calls Tryz.prog 70 #[.agg #[.int .i64 6, .iface 179 (.pointer (some ⟨b, 0, none⟩))]] W fun e w' => e = .returned (.agg #[.slice ep en ec, .int .u8 er]) ∧ W.grownBy w' none := by
  have hta : ∀ (w : World) (v : Value), (Instr.typeAssert (.iface 179 v) 20 179 false).run Tryz.prog w = .ok v w := fun w v => by kernel_rfl
  go_enter Tryz.func70, Tryz.ntmps70
  have hb1 : b < W.heap.size + 1 := by omega
  have hb2 : b < W.heap.size + 1 + 1 := by omega
  go_wp2_with (go_in)
  go_returns
  exact ⟨rfl, by first | exact gt_alloc_r (gt_alloc_r (World.grownBy_alloc _ _ _) _) _ | exact gt_alloc_r (World.grownBy_alloc _ _ _) _⟩

set_option maxRecDepth 100000 in
set_option maxHeartbeats 400000 in
theorem AsGeometryCollection (ep : Option Addr) (en ec er : Nat) (W : World) : Calls Tryz.prog 61 #[.agg #[.slice ep en ec, .int .u8 er]] W fun e w' => e = .returned (.agg #[.int .i64 0, .iface 183 (.pointer (some ⟨W.heap.size, 0, none⟩))]) ∧ (w'.cell? ⟨W.heap.size, 0, none⟩ = some (.slice ep en ec) ∧ w'.cell? ⟨W.heap.size, 1, none⟩ = some (.int .u8 er)) ∧ W.heap.size < w'.heap.size ∧ W.grownBy w' none := by
  go_enter Tryz.func61, Tryz.ntmps61
  go_wp2_with fail
  go_returns
  refine ⟨rfl, ?_, by simp; omega, gt_alloc_r (World.grownBy_alloc _ _ _) _⟩
  simp

set_option maxRecDepth 100000 in
set_option maxHeartbeats 1000000 in
theorem MustAsGeometryCollection (ep : Option Addr) (en ec er : Nat) (b : Nat) (W : World) (h0 : W.cell? ⟨b, 0, none⟩ = some (.slice ep en ec)) (h1 : W.cell? ⟨b, 1, none⟩ = some (.int .u8 er)) (hb : b < W.heap.size) : Calls Tryz.prog 62 #[.agg #[.int .i64 0, .iface 183 (.pointer (some ⟨b, 0, none⟩))]] W fun e w' => e = .returned (.agg #[.slice ep en ec, .int .u8 er]) ∧ W.grownBy w' none := by
  have hta : ∀ (w : World) (v : Value), (Instr.typeAssert (.iface 183 v) 20 183 false).run Tryz.prog w = .ok v w := fun w v => by kernel_rfl
  go_enter Tryz.func62, Tryz.ntmps62
  have hb1 : b < W.heap.size + 1 := by omega
  have hb2 : b < W.heap.size + 1 + 1 := by omega
  go_wp2_with (go_in)
  go_returns
  exact ⟨rfl, by first | exact gt_alloc_r (gt_alloc_r (World.grownBy_alloc _ _ _) _) _ | exact gt_alloc_r (World.grownBy_alloc _ _ _) _⟩
end Go.Proofs.YtlpaecafpbbbkaaGreatDoor
