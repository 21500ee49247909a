/- The reference's GeoJSON of coordinates, walked. Rows of elements of one cell, as trees of plain data; what Coordinates makes. Coordinates of polygons, several lines, several polygons. -/
import Derived.Test.YthcjnadceambgaaGreatDoorJST21
namespace Go.Proofs.YthcjnadceambgaaGreatDoor
open Go.RowKit

/-- The reference's function for the coordinates, of trees to the depth h. -/
def JbOk (T : Nat → Int) (h : Nat) : Prop := ∀ (B : Nat → Prop) (W : World) (v : Value) (t : Raw), KD B h W v t → dimsOk t → pl t ≤ 2000 → Tabs T W → Calls Tryz.prog 51 #[v] W fun e w' => e = .returned (.string ⟨(jbT T t).toArray⟩) ∧ W.grownBy w' none
theorem plJs_snoc (T : Nat → Int) (r : Nat) (f : Nat → Nat) (j : Nat) : plJs T r f (j + 1) = plJs T r f j ++ [jsonPl T (plX r f j) (plY r f j) (plZ r f j) r] := by simp [plJs, List.range_succ]
theorem jbTs_snoc (T : Nat → Int) (ts : List Raw) (t : Raw) : jbTs T (ts ++ [t]) = jbTs T ts ++ (bif noPt t then [] else [jbT T t]) := by
  rw [jbTs_append]
  have e : jbTs T [t] = bif noPt t then [] else [jbT T t] := by
    unfold jbTs jbTs
    cases noPt t <;> rfl
  rw [e]
theorem jbTs_le (T : Nat → Int) : ∀ ts : List Raw, (jbTs T ts).length ≤ ts.length
  | [] => by unfold jbTs; simp
  | t :: ts => by
    have := jbTs_le T ts
    unfold jbTs
    cases noPt t
    · simp only [cond_false, List.length_cons]; omega
    · simp only [cond_true, List.length_cons]; omega

set_option maxRecDepth 100000 in
set_option maxHeartbeats 4000000 in
theorem jb_succ (T : Nat → Int) (hT : ∀ i, U64 (T i)) (h : Nat) (ihb : JbOk T h) : JbOk T (h + 1) := by
  intro B W v t hk hd hp ht
  have hpl := jbT_len T t
  obtain ⟨k, d, n, f, kids⟩ := t
  obtain ⟨hd0, hd4, hdk⟩ := hd
  obtain ⟨r, rfl⟩ := Int.eq_ofNat_of_zero_le hd0
  have hr : r < 4 := by omega
  obtain ⟨p, cap, q, c2, rfl, hf, h1, h2, h3, hm1, hm2, hm3, hm4, _⟩ := hk
  have hp0 := hp
  unfold pl at hp
  simp only [Int.toNat_natCast] at hp
  have hw := widN_le r hr
  have hL : n / widN r ≤ 2000 := by
    have := Nat.zero_le (pls kids)
    generalize n / widN r = L at hp ⊢
    omega
  have hn : n ≤ 100000 := by
    have h2 := Nat.mod_add_div n (widN r)
    have h3 := Nat.mod_lt n (by omega : 0 < widN r)
    have h4 : widN r * (n / widN r) ≤ 4 * 2000 := Nat.mul_le_mul hw.2 hL
    omega
  have hpk : pls kids ≤ 2000 := Nat.le_trans (Nat.le_add_left _ _) hp
  have hml : n / widN r + kids.length ≤ 2000 := by
    have := pls_len kids
    generalize n / widN r = L at hp ⊢
    omega
  have hcap : (jbT T (.mk k r n f kids)).length ≤ 24200000 := by omega
  have HPl := Lib.hid (fun w (g : W.grownBy w none) => Places_any' r hr p n cap f hn w (hf.mono g))
  have HWp := Lib.hid (fun i w (g : W.grownBy w none) => jsonPlace_any T hT (plX r f i) (plY r f i) (plZ r f i) (plM r f i) r (hf.lt _) (hf.lt _) (fval_plZ hf r i) hr w (ht.mono g (by simp) (by simp)))
  have HB := World.grownBy_alloc W (.cells #[.int .i64 k, .int .i64 r, .slice p n cap, .slice q kids.length c2] 25) none
  have HBX : Hid (∀ W', (W.alloc (.cells #[.int .i64 k, .int .i64 r, .slice p n cap, .slice q kids.length c2] 25)).grownBy W' none → W'.cell? ⟨W.heap.size, 0, none⟩ = some (.int .i64 k) ∧ W'.cell? ⟨W.heap.size, 1, none⟩ = some (.int .i64 r) ∧ W'.cell? ⟨W.heap.size, 3, none⟩ = some (.slice q kids.length c2)) := fun W' g => ⟨g.cell (by simp) (by simp), g.cell (by simp) (by simp), g.cell (by simp) (by simp)⟩
  have hsf := run_store_flt Tryz.prog
  by_cases hk1 : k = 1
  · subst hk1
    have ejb : jbT T (.mk 1 r n f kids) = if n / widN r = 0 then [91, 93] else jsonPl T (plX r f 0) (plY r f 0) (plZ r f 0) r := by unfold jbT; rw [Int.toNat_natCast, if_pos rfl]
    obtain ⟨R, hR⟩ : ∃ R : ByteArray, R = ⟨(jbT T (.mk 1 r n f kids)).toArray⟩ := ⟨_, rfl⟩
    have HRe : Hid ((n / widN r = 0 → R = ⟨#[91, 93]⟩) ∧ (¬ n / widN r = 0 → R = ⟨(jsonPl T (plX r f 0) (plY r f 0) (plZ r f 0) r).toArray⟩)) := ⟨fun h => by rw [hR, ejb, if_pos h], fun h => by rw [hR, ejb, if_neg h]⟩
    rw [← hR]
    generalize kids.length = m at HB HBX ⊢
    generalize n / widN r = L at HPl HRe
    clear hm4 hm3 hf hdk ht ejb hd0 hd4 hp0 hpl hcap hml hpk hp hL hm1 hR
    go_enter Tryz.func51, Tryz.ntmps51
    go_wp2_with (first
      | (go_at_call 58; refine (HPl.out _ HB).mono ?_; rintro e w' ⟨v, rfl, hv⟩; obtain ⟨pp, cc, rfl⟩ := hv.slice))
    have hprow := hv.prow
    have HGN := Lib.hid (gt_trans HB hv.grown0 (.inl rfl))
    obtain ⟨x0, x1, x3⟩ := HBX.out w' hv.grown0
    clear HBX
    by_cases hL0 : L = 0
    · have hRe := HRe.out.1 hL0
      have HR9 := Lib.hid hRe
      subst hL0
      clear hv hRe
      refine wp_loop_rounds 1 ?_
      rw [rounds_succ]
      go_wp2_with fail
      go_wp2_with fail
      go_ret
      exact ⟨ret_str HR9.out.symm, HGN.out⟩
    · have HR9 := Lib.hid (HRe.out.2 hL0)
      have hL1 : (0 : Int) < (L : Int) := by omega
      obtain ⟨a, rfl⟩ := hprow.some_ (by omega)
      obtain ⟨q0, q1, q2, q3⟩ := hprow.at_ a rfl 0 (by omega)
      have ha0 : a.add (0 * 4) = a := by simp [Addr.add]
      rw [ha0] at q0 q1 q2 q3
      have hz : W.heap.size < w'.heap.size := by have := hv.grown0.size; simp at this; omega
      have HWk := Lib.hid (fun w (g : Below w'.heap.size w' w) => HWp.out 0 w (gt_trans HGN.out (gt_below g none) (.inl rfl)))
      have HH2 : Hid (∀ w2 w3, Below w'.heap.size w' w2 → w2.grownBy w3 none → W.grownBy w3 none) := fun w2 w3 g g3 => gt_trans (gt_trans HGN.out (gt_below g none) (.inl rfl)) g3 (.inl rfl)
      clear hv ha0 HRe
      refine wp_loop_rounds 1 ?_
      rw [rounds_succ]
      go_wp2_with (first
        | (go_at_call 85; refine (HWk.out _ (by go_grown)).mono ?_; rintro e w'' ⟨rfl, hb⟩; have G3 := HH2.out _ _ (by go_grown) hb))
      go_ret
      exact ⟨ret_str HR9.out.symm, G3⟩
  · have ebody : jbT T (.mk k r n f kids) = [91] ++ joinC (plJs T r f (n / widN r) ++ jbTs T (kids.take kids.length)) ++ [93] := by rw [List.take_length]; unfold jbT; rw [Int.toNat_natCast, if_neg hk1]
    obtain ⟨nb, hnb⟩ : ∃ nb : Nat → Nat, nb = fun l => (jbTs T (kids.take l)).length := ⟨_, rfl⟩
    obtain ⟨ps, hps⟩ : ∃ ps, ps = plJs T r f (n / widN r) ++ jbTs T (kids.take kids.length) := ⟨_, rfl⟩
    have hpl2 : ps.length = n / widN r + nb kids.length := by rw [hps, hnb, List.length_append, plJs_len]
    have hnbl : ∀ l, nb l ≤ kids.length := fun l => by
      rw [hnb]
      have := jbTs_le T (kids.take l)
      have h2 := List.length_take_le l kids
      show (jbTs T (kids.take l)).length ≤ _
      rw [List.length_take] at this
      omega
    have hjn : joinC ps = cTo (fun i => ps.getD i []) ps.length := rfl
    obtain ⟨R, hR⟩ : ∃ R : ByteArray, R = ⟨(jbT T (.mk k r n f kids)).toArray⟩ := ⟨_, rfl⟩
    rw [ebody, ← hps] at hcap
    have HL := Lib.hid (fun p cap w (h : SRow w p ps.length (fun i => ps.getD i [])) => jsonList_any p ps.length cap (fun i => ps.getD i []) (by rw [← hjn]; simp only [List.length_append, List.length_cons, List.length_nil] at hcap; omega) (by have := hnbl kids.length; omega) w h)
    rw [← hjn, hps, ← ebody, ← hR, ← hps] at HL
    rw [← hR]
    have HPS := Lib.hid hps
    have HPL := Lib.hid hpl2
    have hcx : n / widN r + nb kids.length ≤ 2000 := by have := hnbl kids.length; omega
    have HNL : Hid (∀ l, n / widN r + nb l ≤ 2000) := fun l => by have := hnbl l; omega
    have HKid := Lib.hid (fun w (g : W.grownBy w none) a (ha : q = some a) j t (hj : kids[j]? = some t) => (by
        obtain ⟨c0, c1, c2, c3, k0, k1, k2, k3, k4⟩ := hm4 a ha j t hj
        exact ⟨c0, c1, c2, c3, k0.mono g, g.cell k1 (by simp), g.cell k2 (by simp), g.cell k3 (by simp), g.cell k4 (by simp)⟩ : ∃ c0 c1 c2 c3, KD B h w (.agg #[c0, c1, c2, c3]) t ∧ w.cell? (a.add (j * 4)) = some c0 ∧ w.cell? ⟨(a.add (j * 4)).block, (a.add (j * 4)).off + 1, none⟩ = some c1 ∧ w.cell? ⟨(a.add (j * 4)).block, (a.add (j * 4)).off + 2, none⟩ = some c2 ∧ w.cell? ⟨(a.add (j * 4)).block, (a.add (j * 4)).off + 3, none⟩ = some c3))
    have HIB := Lib.hid (fun w v j t (g : W.grownBy w none) (hj : kids[j]? = some t) (hk : KD B h w v t) => ihb B w v t hk (dimsOks_mem kids hdk j t hj) (by have := pls_mem kids j t hj; omega) (ht.mono g (by simp) (by simp)))
    have HSn := Lib.hid (fun j t (hj : kids[j]? = some t) => (by
        obtain ⟨hlt, rfl⟩ := List.getElem?_eq_some_iff.1 hj
        rw [List.take_succ_eq_append_getElem hlt, jbTs_snoc] : jbTs T (kids.take (j + 1)) = jbTs T (kids.take j) ++ (bif noPt t then [] else [jbT T t])))
    have HNb : Hid (∀ j, nb j = (jbTs T (kids.take j)).length) := fun j => by rw [hnb]
    have HG : Hid (∀ j, j < kids.length → ∃ t, kids[j]? = some t) := fun j hj => ⟨kids[j]'(by omega), List.getElem?_eq_getElem (by omega)⟩
    have HPs := Lib.hid (fun j => plJs_snoc T r f j)
    have HF0 : Hid (plJs T r f 0 = []) := by show plJs T r f 0 = []; simp [plJs]
    have HT0 : Hid (jbTs T (kids.take 0) = []) := by show jbTs T (kids.take 0) = []; rw [List.take_zero]; unfold jbTs; rfl
    have HN0 : Hid (nb 0 = 0) := by show nb 0 = 0; rw [hnb]; show (jbTs T (kids.take 0)).length = 0; rw [HT0.out]; rfl
    have hqn := Lib.hid hm3
    have hkB : (k == 1) = false := by rw [beq_eq_false_iff_ne]; exact hk1
    have hmm : kids.length ≤ 2000 := Nat.le_trans (Nat.le_add_left _ _) hml
    generalize n / widN r = L at HPl hL hp HPS HPL hcx HNL ⊢
    generalize kids.length = m at HG hmm hm1 HB HBX HPS HPL hcx ⊢
    clear hm4 hm3 hf hdk ht ebody hd0 hd4 hp0 hpl hcap hps hpl2 hjn hR hnb hml hpk hp hnbl hk1
    go_enter Tryz.func51, Tryz.ntmps51
    go_wp2_with (first
      | (go_at_call 58; refine (HPl.out _ HB).mono ?_; rintro e w' ⟨v, rfl, hv⟩; obtain ⟨pp, cc, rfl⟩ := hv.slice))
    have hprow := hv.prow
    have HGN := Lib.hid (gt_trans HB hv.grown0 (.inl rfl))
    have HBN : Hid (∀ w2, w'.grownBy w2 none → w2.cell? ⟨W.heap.size, 0, none⟩ = some (.int .i64 k) ∧ w2.cell? ⟨W.heap.size, 1, none⟩ = some (.int .i64 r) ∧ w2.cell? ⟨W.heap.size, 3, none⟩ = some (.slice q m c2)) := fun w2 g => HBX.out w2 (gt_trans hv.grown0 g (.inl rfl))
    have hz0 : W.heap.size < w'.heap.size := by have := hv.grown0.size; simp at this; omega
    clear hv HBX
    go_loopw [5, 34] (fun x i wr => ∃ j : Nat, j ≤ L ∧ i = .int .i64 j ∧ AppV 9 1 w'.heap.size w' (.slice none 0 0) wr x j (sL (plJs T r f j))) (fun _ i _ => L - (intOf i).toNat)
    case atStart => exact ⟨0, by omega, rfl, by rw [HF0.out]; exact AppV.nil _ _ _ _⟩
    case round =>
      obtain ⟨j, hj, rfl, H⟩ := hrel
      rename World => wr
      obtain ⟨x0, x1, x3⟩ := HBN.out wr H.grown0
      have hz : W.heap.size < wr.heap.size := Nat.lt_of_lt_of_le hz0 H.grown0.size
      by_cases hjn : j < L
      · obtain ⟨a, rfl⟩ := hprow.some_ (by omega)
        obtain ⟨q0, q1, q2, q3⟩ := (hprow.mono H.grown0).at_ a rfl j hjn
        have HWk := Lib.hid (HWp.out j)
        have HPj := Lib.hid (HPs.out j)
        have HF : Hid (∀ w2, Below wr.heap.size wr w2 → W.grownBy w2 none) := fun w2 g => gt_trans HGN.out (gt_trans H.grown0 (gt_below g none) (.inl rfl)) (.inl rfl)
        have HH : Hid (∀ w2 w3, Below wr.heap.size wr w2 → w2.grownBy w3 none → AppV 9 1 w'.heap.size w' (.slice none 0 0) w3 u5 j (sL (plJs T r f j))) := fun w2 w3 g g3 => H.beside (gt_trans (gt_below g none) g3 (.inl rfl))
        clear H
        go_wp2_with (first
          | (go_at_call 85; refine (HWk.out _ (HF.out _ (by go_grown))).mono ?_; rintro e w'' ⟨rfl, hb⟩; have H := HH.out _ _ (by go_grown) hb)
          | (at_builtin; refine app_cells rfl _ _ _ rfl Tryz.underlying36 (.string ⟨#[]⟩) 16 infoS rfl (by omega) H rfl rfl (by first | rfl | simp) _ (by first | rfl | simp) (by simp [Value.oneCell']) (Nat.le_refl _) (by omega) (by omega) ?_; intro v1 w1 H1; clear H; have H := H1; clear H1))
        refine ⟨⟨j + 1, by omega, by go_num, ?_⟩, by simp [intOf]; omega⟩
        rw [HPj.out, sL_snoc]
        exact H
      · obtain rfl : j = L := by omega
        go_wp2_with fail
        go_wp2_with fail
        have HGL := Lib.hid H
        clear x0 x1 x3 H hz
        go_loopw [5, 49] (fun x i w2 => ∃ l : Nat, l ≤ m ∧ i = .int .i64 l ∧ AppV 9 1 w'.heap.size w' (.slice none 0 0) w2 x (j + nb l) (sL (plJs T r f j ++ jbTs T (kids.take l)))) (fun _ i _ => m - (intOf i).toNat)
        case atStart => exact ⟨0, by omega, rfl, by rw [HT0.out, HN0.out, List.append_nil]; exact HGL.out⟩
        case round =>
          clear HGL
          obtain ⟨l, hl, rfl, H⟩ := hrel
          rename World => w2
          have GW2 := gt_trans HGN.out H.grown0 (.inl rfl)
          obtain ⟨x0, x1, x3⟩ := HBN.out w2 H.grown0
          have hz2 : W.heap.size < w2.heap.size := Nat.lt_of_lt_of_le hz0 H.grown0.size
          by_cases hlm : l < m
          · obtain ⟨t, ht⟩ := HG.out l hlm
            obtain ⟨a, rfl⟩ : ∃ a, q = some a := by
              cases q with
              | none => have := hqn.out rfl; omega
              | some a => exact ⟨a, rfl⟩
            obtain ⟨c0, c1, c2, c3, kk, q0, q1, q2, q3⟩ := HKid.out w2 GW2 a rfl l t ht
            obtain ⟨k1, d1, n1, f1, kids1, p1, cap1, q1', cq1, hte, rfl, rfl, rfl, rfl⟩ := kk.form4
            have HNo : Hid (noPt t = (decide (k1 = 1) && decide (n1 = 0))) := by show noPt t = _; rw [hte]; rfl
            clear hte
            generalize kids1.length = m1 at kk q3
            have HBo := Lib.hid (fun w (g : w2.grownBy w none) => HIB.out w _ l t (gt_trans GW2 g (.inl rfl)) ht (kk.mono g))
            have hSn := Lib.hid (HSn.out l t ht)
            have hN1 := HNb.out (l + 1)
            have hN2 := HNb.out l
            have hcl := HNL.out l
            have HH : Hid (∀ w3 w4, w2.grownBy w3 none → w3.grownBy w4 none → AppV 9 1 w'.heap.size w' (.slice none 0 0) w4 u5 (j + nb l) (sL (plJs T r f j ++ jbTs T (kids.take l)))) := fun w3 w4 g g3 => H.beside (gt_trans g g3 (.inl rfl))
            have G5 := Lib.hid (World.grownBy_alloc w2 (.cells #[.int .i64 k1, .int .i64 d1, .slice p1 n1 cap1, .slice q1' m1 cq1] 25) none)
            have HHb : Hid (∀ w3, w2.grownBy w3 none → AppV 9 1 w'.heap.size w' (.slice none 0 0) w3 u5 (j + nb l) (sL (plJs T r f j ++ jbTs T (kids.take l)))) := fun w3 g => H.beside g
            rw [hSn.out, List.length_append, ← hN2] at hN1
            have HN1 := Lib.hid hN1
            clear H kk ht GW2 hN1 hN2
            by_cases hno : k1 = 1 ∧ n1 = 0
            · obtain ⟨rfl, rfl⟩ := hno
              have hnp : noPt t = true := by rw [HNo.out]; rfl
              rw [hnp] at HN1 hSn
              have hn9 : nb (l + 1) = nb l := HN1.out
              have hs9 : jbTs T (kids.take (l + 1)) = jbTs T (kids.take l) := by rw [hSn.out]; exact List.append_nil _
              have HN9 := Lib.hid hn9
              have HS9 := Lib.hid hs9
              clear hnp hn9 hs9 HN1 hSn HNo
              go_wp2_with fail
              refine ⟨⟨l + 1, by omega, by go_num, ?_⟩, by simp [intOf]; omega⟩
              rw [HS9.out, HN9.out]
              exact HHb.out _ G5.out
            · have hnp : noPt t = false := by
                rw [HNo.out]
                by_cases h1 : k1 = 1
                · have : ¬ n1 = 0 := fun e => hno ⟨h1, e⟩
                  simp [this]
                · simp [h1]
              rw [hnp] at HN1 hSn
              have hn9 : nb (l + 1) = nb l + 1 := HN1.out
              have hs9 : jbTs T (kids.take (l + 1)) = jbTs T (kids.take l) ++ [jbT T t] := hSn.out
              have HN9 := Lib.hid hn9
              have HS9 := Lib.hid hs9
              clear hnp hn9 hs9 HN1 hSn HNo
              by_cases h1 : k1 = 1
              · have h1b : (k1 != 1) = false := by rw [h1]; rfl
                have hn1 : (0 : Int) < (n1 : Int) := by have : ¬ n1 = 0 := fun e => hno ⟨h1, e⟩; omega
                clear hno h1
                go_wp2_with (first
                  | (go_at_call 51; refine (HBo.out _ G5.out).mono ?_; rintro e w'' ⟨rfl, hb⟩; have H := HH.out _ _ G5.out hb)
                  | (at_builtin; refine app_cells rfl _ _ _ rfl Tryz.underlying36 (.string ⟨#[]⟩) 16 infoS rfl (by omega) H rfl rfl (by first | rfl | simp) _ (by first | rfl | simp) (by simp [Value.oneCell']) (Nat.le_refl _) (by omega) (by omega) ?_; intro v1 w1 H1; clear H; have H := H1; clear H1))
                refine ⟨⟨l + 1, by omega, by go_num, ?_⟩, by simp [intOf]; omega⟩
                rw [HS9.out, ← List.append_assoc, sL_snoc, HN9.out, ← Nat.add_assoc]
                exact H
              · have h1b : (k1 != 1) = true := by rw [bne_iff_ne]; exact h1
                clear hno h1
                go_wp2_with (first
                  | (go_at_call 51; refine (HBo.out _ G5.out).mono ?_; rintro e w'' ⟨rfl, hb⟩; have H := HH.out _ _ G5.out hb)
                  | (at_builtin; refine app_cells rfl _ _ _ rfl Tryz.underlying36 (.string ⟨#[]⟩) 16 infoS rfl (by omega) H rfl rfl (by first | rfl | simp) _ (by first | rfl | simp) (by simp [Value.oneCell']) (Nat.le_refl _) (by omega) (by omega) ?_; intro v1 w1 H1; clear H; have H := H1; clear H1))
                refine ⟨⟨l + 1, by omega, by go_num, ?_⟩, by simp [intOf]; omega⟩
                rw [HS9.out, ← List.append_assoc, sL_snoc, HN9.out, ← Nat.add_assoc]
                exact H
          · obtain rfl : l = m := by omega
            rw [← HPS.out, ← HPL.out] at H
            obtain ⟨ppx, ccx, rfl⟩ := H.slice
            have HLk := Lib.hid (HL.out ppx ccx w2 (H.srowL rfl))
            clear H
            go_wp2_with fail
            go_wp2_with (go_at_call 86; refine HLk.out.mono ?_; rintro e w'' ⟨rfl, rfl⟩)
            go_ret
            exact ⟨rfl, GW2⟩
theorem jbOk (T : Nat → Int) (hT : ∀ i, U64 (T i)) : ∀ h, JbOk T h
  | 0 => fun _ _ _ _ hk => hk.elim
  | h + 1 => jb_succ T hT h (jbOk T hT h)
end Go.Proofs.YthcjnadceambgaaGreatDoor
namespace Go.Proofs.YthcjnadceambgaaGreatDoor
open Go.RowKit

/-- A row of elements of one cell in memory, to be read: the trees ts, all of it in blocks of which B is true. -/
def RowD1 (D : (Nat → Prop) → World → Value → Raw → Prop) (B : Nat → Prop) (W : World) (p : Option Addr) (ts : List Raw) : Prop :=
  (0 < ts.length → ∃ a, p = some a) ∧ ∀ a, p = some a → B a.block ∧ ∀ i t, ts[i]? = some t → ∃ c0, W.cell? (a.add i) = some c0 ∧ D B W c0 t
section
variable {D : (Nat → Prop) → World → Value → Raw → Prop}
theorem RowD1.keep (K : DK0 D) {B : Nat → Prop} {W W' : World} (g : Kept B W W') {p : Option Addr} {ts : List Raw} (h : RowD1 D B W p ts) : RowD1 D B W' p ts :=
  ⟨h.1, fun a ha => ⟨(h.2 a ha).1, fun i t hi => by
    obtain ⟨hb, h2⟩ := h.2 a ha
    obtain ⟨c0, h0, hd⟩ := h2 i t hi
    exact ⟨c0, g _ _ (by rw [add_block]; exact hb) h0, K.keep g hd⟩⟩⟩
theorem RowD1.weak (K : DK0 D) {B B' : Nat → Prop} {W : World} (hl : ∀ b, B b → B' b) {p : Option Addr} {ts : List Raw} (h : RowD1 D B W p ts) : RowD1 D B' W p ts :=
  ⟨h.1, fun a ha => ⟨hl _ (h.2 a ha).1, fun i t hi => by
    obtain ⟨c0, h0, hd⟩ := (h.2 a ha).2 i t hi
    exact ⟨c0, h0, K.weak hl hd⟩⟩⟩
/-- A row x of n elements that the call owns. -/
def RowS1 (D : (Nat → Prop) → World → Value → Raw → Prop) (e : TypeId) (base : Nat) (B : Nat → Prop) (W : World) (x : Value) (n : Nat) (s : Nat → Option Raw) (cs : List Value) : Prop :=
  W.ownsRow base e 1 x n cs ∧ ∀ i t, s i = some t → ∃ c0, cs[i]? = some c0 ∧ D (fun b => (B b ∨ base ≤ b ∧ b < W.heap.size) ∧ x.ownBlock ≠ some b) W c0 t
variable {e base : Nat} {B : Nat → Prop}
theorem RowS1.sel {W : World} {x : Value} {n : Nat} {s s' : Nat → Option Raw} {cs : List Value} (k : RowS1 D e base B W x n s cs) (h : ∀ i t, s' i = some t → s i = some t) : RowS1 D e base B W x n s' cs :=
  ⟨k.1, fun i t hi => k.2 i t (h i t hi)⟩
theorem RowS1.kept (K : DK0 D) {W W' : World} {x : Value} {n : Nat} {s : Nat → Option Raw} {cs : List Value} (k : RowS1 D e base B W x n s cs) (g : W.grownBy W' none) : RowS1 D e base B W' x n s cs :=
  ⟨k.1.kept g (by cases x.ownBlock <;> simp), fun i t hi => by
    obtain ⟨c0, h0, hk⟩ := k.2 i t hi
    exact ⟨c0, h0, K.weak (fun b hb => ⟨hb.1.imp id fun h => ⟨h.1, Nat.lt_of_lt_of_le h.2 g.size⟩, hb.2⟩) (K.keep (.grown g) hk)⟩⟩
theorem RowS1.put (K : DK0 D) {W : World} {g n cap : Nat} {s : Nat → Option Raw} {cs : List Value} (k : RowS1 D e base B W (.slice (some ⟨g, 0, none⟩) n cap) n s cs) (i : Nat) (hi : i < n) {c0 : Value} {t : Raw}
    (hk : D (fun b => (B b ∨ base ≤ b ∧ b < W.heap.size) ∧ g ≠ b) W c0 t) :
    RowS1 D e base B (W.setCell ⟨g, i, none⟩ c0) (.slice (some ⟨g, 0, none⟩) n cap) n (fun j => if j = i then some t else s j) (cs.set i c0) := by
  have hcl : cs.length = n * 1 := k.1.1
  have hsz : (W.setCell ⟨g, i, none⟩ c0).heap.size = W.heap.size := by simp [World.setCell]
  have hk2 : ∀ {u : Raw} {d0 : Value}, D (fun b => (B b ∨ base ≤ b ∧ b < W.heap.size) ∧ g ≠ b) W d0 u → D (fun b => (B b ∨ base ≤ b ∧ b < W.heap.size) ∧ g ≠ b) (W.setCell ⟨g, i, none⟩ c0) d0 u := fun h =>
    K.keep (.set (q := ⟨g, i, none⟩) (fun hB => hB.2 rfl) c0) h
  have hob : ∀ b, (Value.slice (some ⟨g, 0, none⟩) n cap).ownBlock ≠ some b ↔ g ≠ b := fun b => by
    have : (Value.slice (some ⟨g, 0, none⟩) n cap).ownBlock = some g := rfl
    rw [this]; simp
  refine ⟨(k.1.stored i c0).1, fun j t' hj => ?_⟩
  rw [hsz]
  simp only [hob]
  have hj : (if j = i then some t else s j) = some t' := hj
  by_cases hji : j = i
  · subst hji
    rw [if_pos rfl] at hj
    injection hj with hj
    subst hj
    exact ⟨c0, List.getElem?_set_self (by omega), hk2 hk⟩
  · rw [if_neg hji] at hj
    obtain ⟨d0, h0, hd⟩ := k.2 j t' hj
    simp only [hob] at hd
    exact ⟨d0, by rw [List.getElem?_set_ne (by omega)]; exact h0, hk2 hd⟩
theorem RowS1.row (K : DK0 D) {W : World} {x : Value} {ts : List Raw} {cs : List Value} {p : Option Addr} {c : Nat} (k : RowS1 D e base B W x ts.length (fun i => ts[i]?) cs) (hx : x = .slice p ts.length c) {B' : Nat → Prop} (hB : ∀ b, B b → B' b) (hB2 : ∀ b, base ≤ b → b < W.heap.size → B' b) : RowD1 D B' W p ts := by
  subst hx
  have hcl : cs.length = ts.length * 1 := k.1.1
  refine ⟨fun hn => ?_, fun a ha => ?_⟩
  · rcases k.1.2 with h | ⟨g, cap, cur, hv, _⟩
    · omega
    · injection hv with h1; exact ⟨_, h1⟩
  · rcases k.1.2 with h | ⟨g, cap, cur, hv, _⟩
    · have := h.1; rw [ha] at this; cases this
    · injection hv with h1 h2 h3
      subst h3
      rw [h1] at ha
      injection ha with ha
      subst ha
      subst h1
      have hlt := k.1.lt g rfl
      refine ⟨hB2 _ hlt.1 hlt.2, fun i t hi => ?_⟩
      obtain ⟨c0, h0, hd⟩ := k.2 i t hi
      have hin := (List.getElem?_eq_some_iff.1 hi).1
      refine ⟨c0, ?_, K.weak (fun b hb => hb.1.elim (hB b) fun h => hB2 b h.1 h.2) hd⟩
      rw [addr0, k.1.cellAt _ (by omega)]; exact h0
end
/-- A row of sequences: the coordinates of a polygon or of several lines. -/
def DSq (k : Int) (B : Nat → Prop) (W : World) (v : Value) (t : Raw) : Prop := ∃ r f kids p, t = .mk k ((r : Nat) : Int) 0 f kids ∧ v = .slice p kids.length kids.length ∧ RowD DLine B W p kids
theorem DSq.dk {k : Int} : DK0 (DSq k) where
  keep := fun g ⟨r, f, kids, p, e, ev, h⟩ => ⟨r, f, kids, p, e, ev, h.keep DLine.dk g⟩
  weak := fun hl ⟨r, f, kids, p, e, ev, h⟩ => ⟨r, f, kids, p, e, ev, h.weak DLine.dk hl⟩
theorem DSq.form {k : Int} {B : Nat → Prop} {W : World} {v : Value} {t : Raw} : DSq k B W v t → ∃ (p : Option Addr) (n : Nat), v = .slice p n n := fun ⟨r, f, kids, p, e, ev, h⟩ => ⟨p, _, ev⟩
/-- A row of rows of sequences: the coordinates of several polygons. -/
def DSs (k : Int) (B : Nat → Prop) (W : World) (v : Value) (t : Raw) : Prop := ∃ r f kids p, t = .mk k ((r : Nat) : Int) 0 f kids ∧ v = .slice p kids.length kids.length ∧ RowD1 (DSq 3) B W p kids
theorem DSs.dk {k : Int} : DK0 (DSs k) where
  keep := fun g ⟨r, f, kids, p, e, ev, h⟩ => ⟨r, f, kids, p, e, ev, h.keep DSq.dk g⟩
  weak := fun hl ⟨r, f, kids, p, e, ev, h⟩ => ⟨r, f, kids, p, e, ev, h.weak DSq.dk hl⟩
/-- A function that makes a value of another form out of a value, the same tree. -/
def NC (D D' : (Nat → Prop) → World → Value → Raw → Prop) (f : Nat) : Prop := ∀ (B : Nat → Prop) (W : World) (v : Value) (t : Raw), D B W v t → okT t → (∀ b, B b → b < W.heap.size) → Calls Tryz.prog f #[v] W (FPost D' B W t)
theorem LineNC : NC DLine DLine 128 := by
  intro B W v t hd _ _
  have hd0 := hd
  obtain ⟨r, n, f, p, rfl, hr, hm, rfl, hf, hb⟩ := hd
  exact (LineCoords_any r n n p W).mono fun e w' ⟨he, hg⟩ => ⟨_, he, DLine.dk.weak (fun b hb => .inl hb) (DLine.dk.mono hg hd0), hg⟩
theorem node_jb (T : Nat → Int) (k : Int) (r : Nat) (f : Nat → Nat) (kids : List Raw) (hk : k ≠ 1) : jbT T (.mk k (r : Nat) 0 f kids) = [91] ++ jJ T kids kids.length ++ [93] := by
  unfold jbT
  rw [Int.toNat_natCast, if_neg hk]
  have e : plJs T r f (0 / widN r) = [] := by simp [plJs]
  rw [e, List.nil_append]
  unfold jJ
  rw [List.take_length]
end Go.Proofs.YthcjnadceambgaaGreatDoor
namespace Go.Proofs.YthcjnadceambgaaGreatDoor
open Go.RowKit
theorem infoSq : (Tryz.prog.info? 43).map (fun i => (i.zero, i.size, i.bytes)) = some (some (.agg #[.int .u8 0, .slice none 0 0]), 2, 32) := by kernel_rfl
theorem infoSs : (Tryz.prog.info? 111).map (fun i => (i.zero, i.size, i.bytes)) = some (some (.slice none 0 0), 1, 24) := by kernel_rfl

set_option maxRecDepth 100000 in
set_option maxHeartbeats 400000 in
theorem MlNum_any (p : Option Addr) (n c r : Nat) (W : World) : Calls Tryz.prog 129 #[.agg #[.slice p n c, .int .u8 r]] W fun e w' => e = .returned (.int .i64 n) ∧ W.grownBy w' none := by
  go_enter Tryz.func129, Tryz.ntmps129
  go_wp2_with fail
  go_ret
  exact ⟨rfl, World.grownBy_alloc _ _ _⟩
set_option maxRecDepth 100000 in
set_option maxHeartbeats 1000000 in
theorem MlAt_any (a : Addr) (n c r k : Nat) (er : Nat) (ep : Option Addr) (en ec : Nat) (hk : k < n) (hn : n ≤ 2000) (W : World) (h0 : W.cell? (a.add (k * 2)) = some (.int .u8 er)) (h1 : W.cell? ⟨(a.add (k * 2)).block, (a.add (k * 2)).off + 1, none⟩ = some (.slice ep en ec)) : Calls Tryz.prog 130 #[.agg #[.slice (some a) n c, .int .u8 r], .int .i64 k] W fun e w' => e = .returned (.agg #[.int .u8 er, .slice ep en ec]) ∧ W.grownBy w' none := by
  have hb0 : a.block < W.heap.size := by have := World.block_lt_of_cell? W _ h0; rw [add_block] at this; exact this
  have hb1 : a.block < W.heap.size + 1 := by omega
  have hb2 : a.block < W.heap.size + 1 + 1 := by omega
  have hb3 : (a.add (k * 2)).block < W.heap.size := by rw [add_block]; omega
  have hb4 : (a.add (k * 2)).block < W.heap.size + 1 := by rw [add_block]; omega
  have hb5 : (a.add (k * 2)).block < W.heap.size + 1 + 1 := by rw [add_block]; omega
  have hki : (k : Int) < (n : Int) := by omega
  have hk0 : (0 : Int) ≤ (k : Int) := by omega
  go_enter Tryz.func130, Tryz.ntmps130
  go_wp2_with fail
  go_returns
  exact ⟨rfl, gt_alloc_r (World.grownBy_alloc _ _ _) _⟩

set_option maxRecDepth 100000 in
set_option maxHeartbeats 400000 in
theorem MpNum_any (p : Option Addr) (n c r : Nat) (W : World) : Calls Tryz.prog 131 #[.agg #[.slice p n c, .int .u8 r]] W fun e w' => e = .returned (.int .i64 n) ∧ W.grownBy w' none := by
  go_enter Tryz.func131, Tryz.ntmps131
  go_wp2_with fail
  go_ret
  exact ⟨rfl, World.grownBy_alloc _ _ _⟩
set_option maxRecDepth 100000 in
set_option maxHeartbeats 1000000 in
theorem MpAt_any (a : Addr) (n c r k : Nat) (ep : Option Addr) (en ec er : Nat) (hk : k < n) (hn : n ≤ 2000) (W : World) (h0 : W.cell? (a.add (k * 2)) = some (.slice ep en ec)) (h1 : W.cell? ⟨(a.add (k * 2)).block, (a.add (k * 2)).off + 1, none⟩ = some (.int .u8 er)) : Calls Tryz.prog 132 #[.agg #[.slice (some a) n c, .int .u8 r], .int .i64 k] W fun e w' => e = .returned (.agg #[.slice ep en ec, .int .u8 er]) ∧ W.grownBy w' none := by
  have hb0 : a.block < W.heap.size := by have := World.block_lt_of_cell? W _ h0; rw [add_block] at this; exact this
  have hb1 : a.block < W.heap.size + 1 := by omega
  have hb2 : a.block < W.heap.size + 1 + 1 := by omega
  have hb3 : (a.add (k * 2)).block < W.heap.size := by rw [add_block]; omega
  have hb4 : (a.add (k * 2)).block < W.heap.size + 1 := by rw [add_block]; omega
  have hb5 : (a.add (k * 2)).block < W.heap.size + 1 + 1 := by rw [add_block]; omega
  have hki : (k : Int) < (n : Int) := by omega
  have hk0 : (0 : Int) ≤ (k : Int) := by omega
  go_enter Tryz.func132, Tryz.ntmps132
  go_wp2_with fail
  go_returns
  exact ⟨rfl, gt_alloc_r (World.grownBy_alloc _ _ _) _⟩

set_option maxRecDepth 100000 in
set_option maxHeartbeats 4000000 in
theorem PgCoords_of (HE : NC DLine DLine 128) : NC (DNode 3 DLine) (DSq 3) 78 := by
  intro B W v t hd hok hB
  obtain ⟨r, f, kids, p, c, rfl, hr, rfl, hc1, hc2, hrow⟩ := hd
  obtain ⟨n, hn⟩ : ∃ n, kids.length = n := ⟨_, rfl⟩
  have hn2 : n ≤ 2000 := by rw [← hn]; unfold okT at hok; exact hok.2.1
  have hoks : okTs kids := by unfold okT at hok; exact hok.2.2
  rw [hn] at hc1 ⊢
  obtain ⟨i0, hi, hzz⟩ := Option.map_eq_some_iff.1 infoSq
  simp only [Prod.mk.injEq] at hzz
  have HI := Lib.hid hzz
  have HFM : Hid (∀ (B : Nat → Prop) (W : World) (v : Value) (t : Raw), DLine B W v t → ∃ (r : Nat) (p : Option Addr) (n c : Nat), v = .agg #[.int .u8 r, .slice p n c]) := fun B W v t h => by obtain ⟨a, b, c, d, e⟩ := DLine.form2 h; exact ⟨a, b, c, d, e⟩
  have HFO : Hid (∀ (B : Nat → Prop) (W : World) (v : Value) (t : Raw), DLine B W v t → ∃ (er : Nat) (ep : Option Addr) (en ec : Nat), v = .agg #[.int .u8 er, .slice ep en ec]) := fun B W v t h => DLine.form2 h
  have HG := Lib.hid (World.grownBy_alloc W (.cells #[.slice p n c, .int .u8 r] 76) none)
  have HC : Hid (∀ w, (W.alloc (.cells #[.slice p n c, .int .u8 r] 76)).grownBy w none → w.cell? ⟨W.heap.size, 0, none⟩ = some (.slice p n c) ∧ w.cell? ⟨W.heap.size, 1, none⟩ = some (.int .u8 r)) := fun w g => ⟨g.cell (by simp) (by simp), g.cell (by simp) (by simp)⟩
  have HR : Hid (∀ w, W.grownBy w none → ∀ i, i < n → ∃ t a c0 c1, kids[i]? = some t ∧ p = some a ∧ w.cell? (a.add (i * 2)) = some c0 ∧ w.cell? ⟨(a.add (i * 2)).block, (a.add (i * 2)).off + 1, none⟩ = some c1 ∧ DLine B w (.agg #[c0, c1]) t) := fun w g i hi => by
    obtain ⟨a, ha⟩ := hrow.1 (by omega)
    obtain ⟨c0, c1, h0, h1, hd⟩ := (hrow.2 a ha).2 i (kids[i]'(by omega)) (List.getElem?_eq_getElem (by omega))
    exact ⟨kids[i]'(by omega), a, c0, c1, List.getElem?_eq_getElem (by omega), ha, g.cell h0 (by simp), g.cell h1 (by simp), DLine.dk.mono g hd⟩
  have HF : Hid (∀ wr w, W.grownBy wr none → wr.grownBy w none → ∀ v t i, kids[i]? = some t → DLine B wr v t → Calls Tryz.prog 128 #[v] w (fun e w2 => ∃ v', e = .returned v' ∧ DLine (fun b => B b ∨ Fr wr w2 b) w2 v' t ∧ wr.grownBy w2 none)) := fun wr w g g' v t i hi h =>
    (HE B w v t (DLine.dk.mono g' h) (okTs_mem hoks hi) (fun b hb => Nat.lt_of_lt_of_le (hB b hb) (Nat.le_trans g.size g'.size))).mono fun e w2 ⟨v', he, hd, hg⟩ => ⟨v', he, DLine.dk.weak (fun b hb => hb.imp id fun h => ⟨Nat.le_trans g'.size h.1, h.2⟩) hd, gt_trans g' hg (.inl rfl)⟩
  have hgs : ∀ (w : World) (b jj : Nat) (y : Value), W.heap.size + 1 ≤ b → (W.alloc (.cells #[.slice p n c, .int .u8 r] 76)).grownBy w none → (W.alloc (.cells #[.slice p n c, .int .u8 r] 76)).grownBy (w.setCell ⟨b, jj, none⟩ y) none := fun w b jj y hb g => gt_set_r g _ _ (by simpa using hb)
  have HGs := Lib.hid hgs
  have hput : Hid (∀ (wr w2 : World) g k cs t c0 c1, k < n → kids[k]? = some t → RowS DLine 43 (W.heap.size + 1) B wr (.slice (some ⟨g, 0, none⟩) n n) n (fun i => if i < k then kids[i]? else none) cs → wr.grownBy w2 none → DLine (fun b => B b ∨ Fr wr w2 b) w2 (.agg #[c0, c1]) t →
      RowS DLine 43 (W.heap.size + 1) B ((w2.setCell ⟨g, k * 2, none⟩ c0).setCell ⟨g, k * 2 + 1, none⟩ c1) (.slice (some ⟨g, 0, none⟩) n n) n (fun i => if i < k + 1 then kids[i]? else none) ((cs.set (k * 2) c0).set (k * 2 + 1) c1)) := fun wr w2 g k cs t c0 c1 hk ht h g2 hd => by
    have hlt := h.1.lt g rfl
    refine (RowS.put DLine.dk (h.kept DLine.dk g2) k hk (DLine.dk.weak (fun b hb => ?_) hd)).sel (fun i t' hi => ?_)
    · rcases hb with hb | hb
      · exact ⟨.inl hb, fun e => by have := hB b hb; omega⟩
      · exact ⟨.inr ⟨by have := hb.1; omega, hb.2⟩, fun e => by have := hb.1; omega⟩
    · show (if i = k then some t else if i < k then _ else none) = some t'
      have hi' : (if i < k + 1 then kids[i]? else none) = some t' := hi
      by_cases hik : i = k
      · subst hik
        rw [if_pos (by omega), ht] at hi'
        rw [if_pos rfl]; exact hi'
      · rw [if_neg hik]
        by_cases hl : i < k
        · rw [if_pos (by omega)] at hi'; rw [if_pos hl]; exact hi'
        · rw [if_neg (by omega)] at hi'; cases hi'
  have hcell : Hid (∀ (w : World) g k cs (s : Nat → Option Raw), k < n → RowS DLine 43 (W.heap.size + 1) B w (.slice (some ⟨g, 0, none⟩) n n) n s cs → W.heap.size + 1 ≤ g ∧ g < w.heap.size ∧ (∃ v, w.cell? ⟨g, k * 2, none⟩ = some v) ∧ (∃ v, w.cell? ⟨g, k * 2 + 1, none⟩ = some v) ∧ ∀ j, w.frozen? ⟨g, j, none⟩ = false) := fun w g k cs s hk h => by
    have hl : cs.length = n * 2 := h.1.1
    have key : ∀ o, o < 2 → ∃ v, w.cell? ⟨g, k * 2 + o, none⟩ = some v := fun o h6 => by
      rw [h.1.cellAt _ (by omega)]
      exact ⟨_, List.getElem?_eq_getElem (by omega)⟩
    exact ⟨(h.1.lt g rfl).1, (h.1.lt g rfl).2, key 0 (by omega), key 1 (by omega), fun j => h.1.frozenAt j⟩
  have hfin : Hid (∀ (w : World) g cs, (W.alloc (.cells #[.slice p n c, .int .u8 r] 76)).grownBy w none → RowS DLine 43 (W.heap.size + 1) B w (.slice (some ⟨g, 0, none⟩) n n) n (fun i => if i < n then kids[i]? else none) cs → FPost (DSq 3) B W (.mk 3 (r : Nat) 0 f kids) (.returned (.slice (some ⟨g, 0, none⟩) n n)) w) := fun w g cs gg h => by
    have h1 : RowS DLine 43 (W.heap.size + 1) B w (.slice (some ⟨g, 0, none⟩) n n) kids.length (fun i => kids[i]?) cs := by
      rw [hn]
      exact h.sel fun i t hi => by
        have := (List.getElem?_eq_some_iff.1 hi).1
        rw [hn] at this
        show (if i < n then _ else none) = _
        rw [if_pos this]; exact hi
    exact ⟨_, rfl, ⟨r, f, kids, some ⟨g, 0, none⟩, rfl, by rw [hn], h1.row DLine.dk (by rw [hn]) (fun b hb => .inl hb) (fun b h1 h2 => .inr ⟨by omega, h2⟩)⟩, gt_trans HG.out gg (.inl rfl)⟩
  clear hrow hzz hgs hok hoks HE hB hc1 hc2
  go_enter Tryz.func78, Tryz.ntmps78
  go_wp2_with (first
    | (at_make; refine wpList_make_full _ rfl _ _ _ rfl (W.heap.size + 1) 43 i0 (.agg #[.int .u8 0, .slice none 0 0]) 2 Tryz.underlying111 hi HI.out.1 HI.out.2.1 .i64 .i64 _ _ n rfl rfl rfl rfl (by rw [HI.out.2.2]; omega) (by unfold maxLen; omega) (by first | simp; done | (have := (gt_refl _ _).size; simp at this ⊢; omega)) ?_; intro w1 hown hg1; have hbox := HC.out w1 (gt_trans (gt_refl _ _) hg1 (.inl rfl)); obtain ⟨hb0, hb1⟩ := hbox))
  have Gs := gt_trans (gt_refl _ _) hg1 (.inl rfl)
  obtain ⟨xs0, hxs0⟩ : ∃ xs0, xs0 = (madeCells (Value.cells (.agg #[.int .u8 0, .slice none 0 0])) (n * 2)).toList := ⟨_, rfl⟩
  rw [← hxs0] at hown
  clear hxs0 hb0 hb1
  obtain ⟨g, hgg⟩ : ∃ g, g = (W.alloc (.cells #[.slice p n c, .int .u8 r] 76)).heap.size := ⟨_, rfl⟩
  have hgg2 : g = W.heap.size + 1 := by rw [hgg]; simp
  rw [← hgg] at hown
  (try simp only [World.size_alloc] at hgg ⊢); rw [← hgg2]
  clear hgg hgg2
  go_loopw [13] (fun i wr => ∃ (k : Nat) (cs : List Value), k ≤ n ∧ i = .int .i64 k ∧ (W.alloc (.cells #[.slice p n c, .int .u8 r] 76)).grownBy wr none ∧ RowS DLine 43 (W.heap.size + 1) B wr (.slice (some ⟨g, 0, none⟩) n n) n (fun i => if i < k then kids[i]? else none) cs) (fun i _ => n - (intOf i).toNat)
  case atStart => exact ⟨0, xs0, by omega, rfl, Gs, hown, fun i t h => absurd h (by simp)⟩
  case round =>
    clear hown Gs hg1
    obtain ⟨k, cs, hk, rfl, Gr, hrow⟩ := hrel
    rename World => wr
    obtain ⟨k0, k1⟩ := HC.out wr Gr
    by_cases hkL : k < n
    · obtain ⟨t, a, c0, c1, hti, rfl, q0, q1, hd⟩ := HR.out wr (gt_trans HG.out Gr (.inl rfl)) k hkL
      obtain ⟨er, ep, en, ec, he⟩ := HFM.out _ _ _ _ hd
      simp only [Value.agg.injEq, Array.mk.injEq, List.cons.injEq, and_true] at he
      obtain ⟨rfl, rfl⟩ := he
      have HF1 := Lib.hid (fun w g => HF.out wr w (gt_trans HG.out Gr (.inl rfl)) g _ t k hti hd)
      have HP1 := Lib.hid (fun w2 c0 c1 => hput.out wr w2 g k cs t c0 c1 hkL hti hrow)
      have hg9 := hcell.out wr g k cs _ hkL hrow
      have hgb := hg9.1
      have hgs2 := hg9.2.1
      have HK1 : Hid (∀ w, wr.grownBy w none → (∃ v, w.cell? ⟨g, k * 2, none⟩ = some v) ∧ (∃ v, w.cell? ⟨g, k * 2 + 1, none⟩ = some v) ∧ ∀ j, w.frozen? ⟨g, j, none⟩ = false) := fun w g' => (hcell.out w g k cs _ hkL (hrow.kept DLine.dk g')).2.2
      clear hti hd hrow hg9
      go_wp2_with (first
          | (go_at_call 128; refine (HF1.out _ (World.grownBy_alloc _ _ _)).mono ?_; rintro e w2 ⟨v2, rfl, hd2, hg2⟩; obtain ⟨er2, ep2, en2, ec2, rfl⟩ := HFO.out _ _ _ _ hd2; have HD2 := Lib.hid (HP1.out w2 _ _ hg2 hd2); clear hd2; obtain ⟨⟨v0, x0⟩, ⟨v1, x1⟩, xf⟩ := HK1.out _ hg2; have f0 := xf (k * 2); have f1 := xf (k * 2 + 1)))
      refine ⟨⟨k + 1, _, by omega, by go_num, ?_, HD2.out⟩, by simp [intOf]; omega⟩
      exact HGs.out _ _ _ _ hgb (HGs.out _ _ _ _ hgb (gt_trans Gr hg2 (.inl rfl)))
    · obtain rfl : k = n := by omega
      go_wp2_with fail
      go_wp2_with fail
      go_ret
      exact hfin.out _ _ _ Gr hrow

set_option maxRecDepth 100000 in
set_option maxHeartbeats 4000000 in
theorem MlCoords_of (HE : NC DLine DLine 128) : NC (DNode 5 DLine) (DSq 5) 82 := by
  intro B W v t hd hok hB
  obtain ⟨r, f, kids, p, c, rfl, hr, rfl, hc1, hc2, hrow⟩ := hd
  obtain ⟨n, hn⟩ : ∃ n, kids.length = n := ⟨_, rfl⟩
  have hn2 : n ≤ 2000 := by rw [← hn]; unfold okT at hok; exact hok.2.1
  have hoks : okTs kids := by unfold okT at hok; exact hok.2.2
  rw [hn] at hc1 ⊢
  obtain ⟨i0, hi, hzz⟩ := Option.map_eq_some_iff.1 infoSq
  simp only [Prod.mk.injEq] at hzz
  have HI := Lib.hid hzz
  have HFM : Hid (∀ (B : Nat → Prop) (W : World) (v : Value) (t : Raw), DLine B W v t → ∃ (r : Nat) (p : Option Addr) (n c : Nat), v = .agg #[.int .u8 r, .slice p n c]) := fun B W v t h => by obtain ⟨a, b, c, d, e⟩ := DLine.form2 h; exact ⟨a, b, c, d, e⟩
  have HFO : Hid (∀ (B : Nat → Prop) (W : World) (v : Value) (t : Raw), DLine B W v t → ∃ (er : Nat) (ep : Option Addr) (en ec : Nat), v = .agg #[.int .u8 er, .slice ep en ec]) := fun B W v t h => DLine.form2 h
  have HG := Lib.hid (World.grownBy_alloc W (.cells #[.slice p n c, .int .u8 r] 79) none)
  have HC : Hid (∀ w, (W.alloc (.cells #[.slice p n c, .int .u8 r] 79)).grownBy w none → w.cell? ⟨W.heap.size, 0, none⟩ = some (.slice p n c) ∧ w.cell? ⟨W.heap.size, 1, none⟩ = some (.int .u8 r)) := fun w g => ⟨g.cell (by simp) (by simp), g.cell (by simp) (by simp)⟩
  have HR : Hid (∀ w, W.grownBy w none → ∀ i, i < n → ∃ t a c0 c1, kids[i]? = some t ∧ p = some a ∧ w.cell? (a.add (i * 2)) = some c0 ∧ w.cell? ⟨(a.add (i * 2)).block, (a.add (i * 2)).off + 1, none⟩ = some c1 ∧ DLine B w (.agg #[c0, c1]) t) := fun w g i hi => by
    obtain ⟨a, ha⟩ := hrow.1 (by omega)
    obtain ⟨c0, c1, h0, h1, hd⟩ := (hrow.2 a ha).2 i (kids[i]'(by omega)) (List.getElem?_eq_getElem (by omega))
    exact ⟨kids[i]'(by omega), a, c0, c1, List.getElem?_eq_getElem (by omega), ha, g.cell h0 (by simp), g.cell h1 (by simp), DLine.dk.mono g hd⟩
  have HF : Hid (∀ wr w, W.grownBy wr none → wr.grownBy w none → ∀ v t i, kids[i]? = some t → DLine B wr v t → Calls Tryz.prog 128 #[v] w (fun e w2 => ∃ v', e = .returned v' ∧ DLine (fun b => B b ∨ Fr wr w2 b) w2 v' t ∧ wr.grownBy w2 none)) := fun wr w g g' v t i hi h =>
    (HE B w v t (DLine.dk.mono g' h) (okTs_mem hoks hi) (fun b hb => Nat.lt_of_lt_of_le (hB b hb) (Nat.le_trans g.size g'.size))).mono fun e w2 ⟨v', he, hd, hg⟩ => ⟨v', he, DLine.dk.weak (fun b hb => hb.imp id fun h => ⟨Nat.le_trans g'.size h.1, h.2⟩) hd, gt_trans g' hg (.inl rfl)⟩
  have hgs : ∀ (w : World) (b jj : Nat) (y : Value), W.heap.size + 1 ≤ b → (W.alloc (.cells #[.slice p n c, .int .u8 r] 79)).grownBy w none → (W.alloc (.cells #[.slice p n c, .int .u8 r] 79)).grownBy (w.setCell ⟨b, jj, none⟩ y) none := fun w b jj y hb g => gt_set_r g _ _ (by simpa using hb)
  have HGs := Lib.hid hgs
  have hput : Hid (∀ (wr w2 : World) g k cs t c0 c1, k < n → kids[k]? = some t → RowS DLine 43 (W.heap.size + 1) B wr (.slice (some ⟨g, 0, none⟩) n n) n (fun i => if i < k then kids[i]? else none) cs → wr.grownBy w2 none → DLine (fun b => B b ∨ Fr wr w2 b) w2 (.agg #[c0, c1]) t →
      RowS DLine 43 (W.heap.size + 1) B ((w2.setCell ⟨g, k * 2, none⟩ c0).setCell ⟨g, k * 2 + 1, none⟩ c1) (.slice (some ⟨g, 0, none⟩) n n) n (fun i => if i < k + 1 then kids[i]? else none) ((cs.set (k * 2) c0).set (k * 2 + 1) c1)) := fun wr w2 g k cs t c0 c1 hk ht h g2 hd => by
    have hlt := h.1.lt g rfl
    refine (RowS.put DLine.dk (h.kept DLine.dk g2) k hk (DLine.dk.weak (fun b hb => ?_) hd)).sel (fun i t' hi => ?_)
    · rcases hb with hb | hb
      · exact ⟨.inl hb, fun e => by have := hB b hb; omega⟩
      · exact ⟨.inr ⟨by have := hb.1; omega, hb.2⟩, fun e => by have := hb.1; omega⟩
    · show (if i = k then some t else if i < k then _ else none) = some t'
      have hi' : (if i < k + 1 then kids[i]? else none) = some t' := hi
      by_cases hik : i = k
      · subst hik
        rw [if_pos (by omega), ht] at hi'
        rw [if_pos rfl]; exact hi'
      · rw [if_neg hik]
        by_cases hl : i < k
        · rw [if_pos (by omega)] at hi'; rw [if_pos hl]; exact hi'
        · rw [if_neg (by omega)] at hi'; cases hi'
  have hcell : Hid (∀ (w : World) g k cs (s : Nat → Option Raw), k < n → RowS DLine 43 (W.heap.size + 1) B w (.slice (some ⟨g, 0, none⟩) n n) n s cs → W.heap.size + 1 ≤ g ∧ g < w.heap.size ∧ (∃ v, w.cell? ⟨g, k * 2, none⟩ = some v) ∧ (∃ v, w.cell? ⟨g, k * 2 + 1, none⟩ = some v) ∧ ∀ j, w.frozen? ⟨g, j, none⟩ = false) := fun w g k cs s hk h => by
    have hl : cs.length = n * 2 := h.1.1
    have key : ∀ o, o < 2 → ∃ v, w.cell? ⟨g, k * 2 + o, none⟩ = some v := fun o h6 => by
      rw [h.1.cellAt _ (by omega)]
      exact ⟨_, List.getElem?_eq_getElem (by omega)⟩
    exact ⟨(h.1.lt g rfl).1, (h.1.lt g rfl).2, key 0 (by omega), key 1 (by omega), fun j => h.1.frozenAt j⟩
  have hfin : Hid (∀ (w : World) g cs, (W.alloc (.cells #[.slice p n c, .int .u8 r] 79)).grownBy w none → RowS DLine 43 (W.heap.size + 1) B w (.slice (some ⟨g, 0, none⟩) n n) n (fun i => if i < n then kids[i]? else none) cs → FPost (DSq 5) B W (.mk 5 (r : Nat) 0 f kids) (.returned (.slice (some ⟨g, 0, none⟩) n n)) w) := fun w g cs gg h => by
    have h1 : RowS DLine 43 (W.heap.size + 1) B w (.slice (some ⟨g, 0, none⟩) n n) kids.length (fun i => kids[i]?) cs := by
      rw [hn]
      exact h.sel fun i t hi => by
        have := (List.getElem?_eq_some_iff.1 hi).1
        rw [hn] at this
        show (if i < n then _ else none) = _
        rw [if_pos this]; exact hi
    exact ⟨_, rfl, ⟨r, f, kids, some ⟨g, 0, none⟩, rfl, by rw [hn], h1.row DLine.dk (by rw [hn]) (fun b hb => .inl hb) (fun b h1 h2 => .inr ⟨by omega, h2⟩)⟩, gt_trans HG.out gg (.inl rfl)⟩
  clear hrow hzz hgs hok hoks HE hB hc1 hc2
  go_enter Tryz.func82, Tryz.ntmps82
  go_wp2_with (first
    | (go_at_call 129; refine (MlNum_any p n c r _).mono ?_; rintro e w0 ⟨rfl, hg0⟩)
    | (at_make; refine wpList_make_full _ rfl _ _ _ rfl (W.heap.size + 1) 43 i0 (.agg #[.int .u8 0, .slice none 0 0]) 2 Tryz.underlying111 hi HI.out.1 HI.out.2.1 .i64 .i64 _ _ n rfl rfl rfl rfl (by rw [HI.out.2.2]; omega) (by unfold maxLen; omega) (by first | simp; done | (have := hg0.size; simp at this ⊢; omega)) ?_; intro w1 hown hg1; have hbox := HC.out w1 (gt_trans hg0 hg1 (.inl rfl)); obtain ⟨hb0, hb1⟩ := hbox))
  have Gs := gt_trans hg0 hg1 (.inl rfl)
  obtain ⟨xs0, hxs0⟩ : ∃ xs0, xs0 = (madeCells (Value.cells (.agg #[.int .u8 0, .slice none 0 0])) (n * 2)).toList := ⟨_, rfl⟩
  rw [← hxs0] at hown
  clear hxs0 hb0 hb1
  obtain ⟨g, hgg⟩ : ∃ g, g = w0.heap.size := ⟨_, rfl⟩
  rw [← hgg] at hown ⊢
  skip
  skip
  clear hgg
  go_loopw [5] (fun i wr => ∃ (k : Nat) (cs : List Value), k ≤ n ∧ i = .int .i64 k ∧ (W.alloc (.cells #[.slice p n c, .int .u8 r] 79)).grownBy wr none ∧ RowS DLine 43 (W.heap.size + 1) B wr (.slice (some ⟨g, 0, none⟩) n n) n (fun i => if i < k then kids[i]? else none) cs) (fun i _ => n - (intOf i).toNat)
  case atStart => exact ⟨0, xs0, by omega, rfl, Gs, hown, fun i t h => absurd h (by simp)⟩
  case round =>
    clear hown Gs hg1
    obtain ⟨k, cs, hk, rfl, Gr, hrow⟩ := hrel
    rename World => wr
    obtain ⟨k0, k1⟩ := HC.out wr Gr
    by_cases hkL : k < n
    · obtain ⟨t, a, c0, c1, hti, rfl, q0, q1, hd⟩ := HR.out wr (gt_trans HG.out Gr (.inl rfl)) k hkL
      obtain ⟨er, ep, en, ec, he⟩ := HFM.out _ _ _ _ hd
      simp only [Value.agg.injEq, Array.mk.injEq, List.cons.injEq, and_true] at he
      obtain ⟨rfl, rfl⟩ := he
      have HF1 := Lib.hid (fun w g => HF.out wr w (gt_trans HG.out Gr (.inl rfl)) g _ t k hti hd)
      have HP1 := Lib.hid (fun w2 c0 c1 => hput.out wr w2 g k cs t c0 c1 hkL hti hrow)
      have hg9 := hcell.out wr g k cs _ hkL hrow
      have hgb := hg9.1
      have hgs2 := hg9.2.1
      have HK1 : Hid (∀ w, wr.grownBy w none → (∃ v, w.cell? ⟨g, k * 2, none⟩ = some v) ∧ (∃ v, w.cell? ⟨g, k * 2 + 1, none⟩ = some v) ∧ ∀ j, w.frozen? ⟨g, j, none⟩ = false) := fun w g' => (hcell.out w g k cs _ hkL (hrow.kept DLine.dk g')).2.2
      have HAt := Lib.hid (MlAt_any a n c r k _ _ _ _ hkL hn2 wr q0 q1)
      clear hti hd hrow hg9
      go_wp2_with (first
          | (go_at_call 130; refine (HAt.out).mono ?_; rintro e wa ⟨rfl, hga⟩)
          | (go_at_call 128; refine (HF1.out _ hga).mono ?_; rintro e w2 ⟨v2, rfl, hd2, hg2⟩; obtain ⟨er2, ep2, en2, ec2, rfl⟩ := HFO.out _ _ _ _ hd2; have HD2 := Lib.hid (HP1.out w2 _ _ hg2 hd2); clear hd2; obtain ⟨⟨v0, x0⟩, ⟨v1, x1⟩, xf⟩ := HK1.out _ hg2; have f0 := xf (k * 2); have f1 := xf (k * 2 + 1)))
      refine ⟨⟨k + 1, _, by omega, by go_num, ?_, HD2.out⟩, by simp [intOf]; omega⟩
      exact HGs.out _ _ _ _ hgb (HGs.out _ _ _ _ hgb (gt_trans Gr hg2 (.inl rfl)))
    · obtain rfl : k = n := by omega
      go_wp2_with fail
      go_wp2_with fail
      go_ret
      exact hfin.out _ _ _ Gr hrow

set_option maxRecDepth 100000 in
set_option maxHeartbeats 4000000 in
theorem MpCoords_of (HE : NC (DNode 3 DLine) (DSq 3) 78) : NC (DNode 6 (DNode 3 DLine)) (DSs 6) 84 := by
  intro B W v t hd hok hB
  obtain ⟨r, f, kids, p, c, rfl, hr, rfl, hc1, hc2, hrow⟩ := hd
  obtain ⟨n, hn⟩ : ∃ n, kids.length = n := ⟨_, rfl⟩
  have hn2 : n ≤ 2000 := by rw [← hn]; unfold okT at hok; exact hok.2.1
  have hoks : okTs kids := by unfold okT at hok; exact hok.2.2
  rw [hn] at hc1 ⊢
  obtain ⟨i0, hi, hzz⟩ := Option.map_eq_some_iff.1 infoSs
  simp only [Prod.mk.injEq] at hzz
  have HI := Lib.hid hzz
  have HFM : Hid (∀ (B : Nat → Prop) (W : World) (v : Value) (t : Raw), (DNode 3 DLine) B W v t → ∃ (p : Option Addr) (n c r : Nat), v = .agg #[.slice p n c, .int .u8 r]) := fun B W v t h => DNode.form h
  have HFO : Hid (∀ (B : Nat → Prop) (W : World) (v : Value) (t : Raw), (DSq 3) B W v t → ∃ (p : Option Addr) (n : Nat), v = .slice p n n) := fun B W v t h => DSq.form h
  have HG := Lib.hid (World.grownBy_alloc W (.cells #[.slice p n c, .int .u8 r] 57) none)
  have HC : Hid (∀ w, (W.alloc (.cells #[.slice p n c, .int .u8 r] 57)).grownBy w none → w.cell? ⟨W.heap.size, 0, none⟩ = some (.slice p n c) ∧ w.cell? ⟨W.heap.size, 1, none⟩ = some (.int .u8 r)) := fun w g => ⟨g.cell (by simp) (by simp), g.cell (by simp) (by simp)⟩
  have HR : Hid (∀ w, W.grownBy w none → ∀ i, i < n → ∃ t a c0 c1, kids[i]? = some t ∧ p = some a ∧ w.cell? (a.add (i * 2)) = some c0 ∧ w.cell? ⟨(a.add (i * 2)).block, (a.add (i * 2)).off + 1, none⟩ = some c1 ∧ (DNode 3 DLine) B w (.agg #[c0, c1]) t) := fun w g i hi => by
    obtain ⟨a, ha⟩ := hrow.1 (by omega)
    obtain ⟨c0, c1, h0, h1, hd⟩ := (hrow.2 a ha).2 i (kids[i]'(by omega)) (List.getElem?_eq_getElem (by omega))
    exact ⟨kids[i]'(by omega), a, c0, c1, List.getElem?_eq_getElem (by omega), ha, g.cell h0 (by simp), g.cell h1 (by simp), (DNode.dk DLine.dk).mono g hd⟩
  have HF : Hid (∀ wr w, W.grownBy wr none → wr.grownBy w none → ∀ v t i, kids[i]? = some t → (DNode 3 DLine) B wr v t → Calls Tryz.prog 78 #[v] w (fun e w2 => ∃ v', e = .returned v' ∧ (DSq 3) (fun b => B b ∨ Fr wr w2 b) w2 v' t ∧ wr.grownBy w2 none)) := fun wr w g g' v t i hi h =>
    (HE B w v t ((DNode.dk DLine.dk).mono g' h) (okTs_mem hoks hi) (fun b hb => Nat.lt_of_lt_of_le (hB b hb) (Nat.le_trans g.size g'.size))).mono fun e w2 ⟨v', he, hd, hg⟩ => ⟨v', he, DSq.dk.weak (fun b hb => hb.imp id fun h => ⟨Nat.le_trans g'.size h.1, h.2⟩) hd, gt_trans g' hg (.inl rfl)⟩
  have hgs : ∀ (w : World) (b jj : Nat) (y : Value), W.heap.size + 1 ≤ b → (W.alloc (.cells #[.slice p n c, .int .u8 r] 57)).grownBy w none → (W.alloc (.cells #[.slice p n c, .int .u8 r] 57)).grownBy (w.setCell ⟨b, jj, none⟩ y) none := fun w b jj y hb g => gt_set_r g _ _ (by simpa using hb)
  have HGs := Lib.hid hgs
  have hput : Hid (∀ (wr w2 : World) g k cs t c0, k < n → kids[k]? = some t → RowS1 (DSq 3) 111 (W.heap.size + 1) B wr (.slice (some ⟨g, 0, none⟩) n n) n (fun i => if i < k then kids[i]? else none) cs → wr.grownBy w2 none → (DSq 3) (fun b => B b ∨ Fr wr w2 b) w2 c0 t →
      RowS1 (DSq 3) 111 (W.heap.size + 1) B (w2.setCell ⟨g, k, none⟩ c0) (.slice (some ⟨g, 0, none⟩) n n) n (fun i => if i < k + 1 then kids[i]? else none) (cs.set k c0)) := fun wr w2 g k cs t c0 hk ht h g2 hd => by
    have hlt := h.1.lt g rfl
    refine (RowS1.put DSq.dk (h.kept DSq.dk g2) k hk (DSq.dk.weak (fun b hb => ?_) hd)).sel (fun i t' hi => ?_)
    · rcases hb with hb | hb
      · exact ⟨.inl hb, fun e => by have := hB b hb; omega⟩
      · exact ⟨.inr ⟨by have := hb.1; omega, hb.2⟩, fun e => by have := hb.1; omega⟩
    · show (if i = k then some t else if i < k then _ else none) = some t'
      have hi' : (if i < k + 1 then kids[i]? else none) = some t' := hi
      by_cases hik : i = k
      · subst hik
        rw [if_pos (by omega), ht] at hi'
        rw [if_pos rfl]; exact hi'
      · rw [if_neg hik]
        by_cases hl : i < k
        · rw [if_pos (by omega)] at hi'; rw [if_pos hl]; exact hi'
        · rw [if_neg (by omega)] at hi'; cases hi'
  have hcell : Hid (∀ (w : World) g k cs (s : Nat → Option Raw), k < n → RowS1 (DSq 3) 111 (W.heap.size + 1) B w (.slice (some ⟨g, 0, none⟩) n n) n s cs → W.heap.size + 1 ≤ g ∧ g < w.heap.size ∧ (∃ v, w.cell? ⟨g, k, none⟩ = some v) ∧ ∀ j, w.frozen? ⟨g, j, none⟩ = false) := fun w g k cs s hk h => by
    have hl : cs.length = n * 1 := h.1.1
    have key : ∀ o, o < 1 → ∃ v, w.cell? ⟨g, k + o, none⟩ = some v := fun o h6 => by
      rw [h.1.cellAt _ (by omega)]
      exact ⟨_, List.getElem?_eq_getElem (by omega)⟩
    exact ⟨(h.1.lt g rfl).1, (h.1.lt g rfl).2, key 0 (by omega), fun j => h.1.frozenAt j⟩
  have hfin : Hid (∀ (w : World) g cs, (W.alloc (.cells #[.slice p n c, .int .u8 r] 57)).grownBy w none → RowS1 (DSq 3) 111 (W.heap.size + 1) B w (.slice (some ⟨g, 0, none⟩) n n) n (fun i => if i < n then kids[i]? else none) cs → FPost (DSs 6) B W (.mk 6 (r : Nat) 0 f kids) (.returned (.slice (some ⟨g, 0, none⟩) n n)) w) := fun w g cs gg h => by
    have h1 : RowS1 (DSq 3) 111 (W.heap.size + 1) B w (.slice (some ⟨g, 0, none⟩) n n) kids.length (fun i => kids[i]?) cs := by
      rw [hn]
      exact h.sel fun i t hi => by
        have := (List.getElem?_eq_some_iff.1 hi).1
        rw [hn] at this
        show (if i < n then _ else none) = _
        rw [if_pos this]; exact hi
    exact ⟨_, rfl, ⟨r, f, kids, some ⟨g, 0, none⟩, rfl, by rw [hn], h1.row DSq.dk (by rw [hn]) (fun b hb => .inl hb) (fun b h1 h2 => .inr ⟨by omega, h2⟩)⟩, gt_trans HG.out gg (.inl rfl)⟩
  clear hrow hzz hgs hok hoks HE hB hc1 hc2
  go_enter Tryz.func84, Tryz.ntmps84
  go_wp2_with (first
    | (go_at_call 131; refine (MpNum_any p n c r _).mono ?_; rintro e w0 ⟨rfl, hg0⟩)
    | (at_make; refine wpList_make_full _ rfl _ _ _ rfl (W.heap.size + 1) 111 i0 (.slice none 0 0) 1 Tryz.underlying118 hi HI.out.1 HI.out.2.1 .i64 .i64 _ _ n rfl rfl rfl rfl (by rw [HI.out.2.2]; omega) (by unfold maxLen; omega) (by first | simp; done | (have := hg0.size; simp at this ⊢; omega)) ?_; intro w1 hown hg1; have hbox := HC.out w1 (gt_trans hg0 hg1 (.inl rfl)); obtain ⟨hb0, hb1⟩ := hbox))
  have Gs := gt_trans hg0 hg1 (.inl rfl)
  obtain ⟨xs0, hxs0⟩ : ∃ xs0, xs0 = (madeCells (Value.cells (.slice none 0 0)) (n * 1)).toList := ⟨_, rfl⟩
  rw [← hxs0] at hown
  clear hxs0 hb0 hb1
  obtain ⟨g, hgg⟩ : ∃ g, g = w0.heap.size := ⟨_, rfl⟩
  rw [← hgg] at hown ⊢
  skip
  skip
  clear hgg
  go_loopw [5] (fun i wr => ∃ (k : Nat) (cs : List Value), k ≤ n ∧ i = .int .i64 k ∧ (W.alloc (.cells #[.slice p n c, .int .u8 r] 57)).grownBy wr none ∧ RowS1 (DSq 3) 111 (W.heap.size + 1) B wr (.slice (some ⟨g, 0, none⟩) n n) n (fun i => if i < k then kids[i]? else none) cs) (fun i _ => n - (intOf i).toNat)
  case atStart => exact ⟨0, xs0, by omega, rfl, Gs, hown, fun i t h => absurd h (by simp)⟩
  case round =>
    clear hown Gs hg1
    obtain ⟨k, cs, hk, rfl, Gr, hrow⟩ := hrel
    rename World => wr
    obtain ⟨k0, k1⟩ := HC.out wr Gr
    by_cases hkL : k < n
    · obtain ⟨t, a, c0, c1, hti, rfl, q0, q1, hd⟩ := HR.out wr (gt_trans HG.out Gr (.inl rfl)) k hkL
      obtain ⟨ep, en, ec, er, he⟩ := HFM.out _ _ _ _ hd
      simp only [Value.agg.injEq, Array.mk.injEq, List.cons.injEq, and_true] at he
      obtain ⟨rfl, rfl⟩ := he
      have HF1 := Lib.hid (fun w g => HF.out wr w (gt_trans HG.out Gr (.inl rfl)) g _ t k hti hd)
      have HP1 := Lib.hid (fun w2 c0 => hput.out wr w2 g k cs t c0 hkL hti hrow)
      have hg9 := hcell.out wr g k cs _ hkL hrow
      have hgb := hg9.1
      have hgs2 := hg9.2.1
      have HK1 : Hid (∀ w, wr.grownBy w none → (∃ v, w.cell? ⟨g, k, none⟩ = some v) ∧ ∀ j, w.frozen? ⟨g, j, none⟩ = false) := fun w g' => (hcell.out w g k cs _ hkL (hrow.kept DSq.dk g')).2.2
      have HAt := Lib.hid (MpAt_any a n c r k _ _ _ _ hkL hn2 wr q0 q1)
      clear hti hd hrow hg9
      go_wp2_with (first
          | (go_at_call 132; refine (HAt.out).mono ?_; rintro e wa ⟨rfl, hga⟩)
          | (go_at_call 78; refine (HF1.out _ hga).mono ?_; rintro e w2 ⟨v2, rfl, hd2, hg2⟩; obtain ⟨ep2, en2, rfl⟩ := HFO.out _ _ _ _ hd2; have HD2 := Lib.hid (HP1.out w2 _ hg2 hd2); clear hd2; obtain ⟨⟨v0, x0⟩, xf⟩ := HK1.out _ hg2; have f0 := xf k))
      refine ⟨⟨k + 1, _, by omega, by go_num, ?_, HD2.out⟩, by simp [intOf]; omega⟩
      exact HGs.out _ _ _ _ hgb (gt_trans Gr hg2 (.inl rfl))
    · obtain rfl : k = n := by omega
      go_wp2_with fail
      go_wp2_with fail
      go_ret
      exact hfin.out _ _ _ Gr hrow
theorem PgNC : NC DPg (DSq 3) 78 := PgCoords_of LineNC
theorem MlNC : NC DMl (DSq 5) 82 := MlCoords_of LineNC
theorem MpNC : NC DMp (DSs 6) 84 := MpCoords_of PgNC
end Go.Proofs.YthcjnadceambgaaGreatDoor
