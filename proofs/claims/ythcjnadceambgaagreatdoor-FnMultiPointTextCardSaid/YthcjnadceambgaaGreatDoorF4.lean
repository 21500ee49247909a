/- The reference's text of a geometry, walked: the body. -/
import Derived.Test.YthcjnadceambgaaGreatDoorF3
namespace Go.Proofs.YthcjnadceambgaaGreatDoor
open Go.RowKit

theorem ret_str {a b : ByteArray} (h : a = b) : Ending.returned (.string a) = .returned (.string b) := by rw [h]

set_option maxRecDepth 100000 in
set_option maxHeartbeats 4000000 in
theorem body_succ (T : Nat → Int) (hT : ∀ i, U64 (T i)) (h : Nat) (ihb : BodyOk T h) (iht : TextOk T h) : BodyOk T (h + 1) := by
  intro B W v t hk hd hp ht
  have hpl := bodyT_len T t
  obtain ⟨k, d, n, f, kids⟩ := t
  obtain ⟨hd0, hd4, hdk⟩ := hd
  obtain ⟨r, rfl⟩ := Int.eq_ofNat_of_zero_le hd0
  have hr : r < 4 := by omega
  obtain ⟨p, cap, q, c2, rfl, hf, h1, h2, h3, hm1, hm2, hm3, hm4, _⟩ := hk
  have hp0 := hp
  unfold pl at hp
  simp only [Int.toNat_natCast] at hp
  have hw := widN_le r hr
  have hL : n / widN r ≤ 2000 := by
    have := Nat.zero_le (pls kids)
    generalize n / widN r = L at hp ⊢
    omega
  have hn : n ≤ 100000 := by
    have h2 := Nat.mod_add_div n (widN r)
    have h3 := Nat.mod_lt n (by omega : 0 < widN r)
    have h4 : widN r * (n / widN r) ≤ 4 * 2000 := Nat.mul_le_mul hw.2 hL
    omega
  have hpk : pls kids ≤ 2000 := Nat.le_trans (Nat.le_add_left _ _) hp
  have hml : kids.length ≤ 2000 := by have := pls_len kids; omega
  obtain ⟨cB, hcB⟩ : ∃ cB, cB = decide (k = 0) := ⟨_, rfl⟩
  have ebody : bodyT T (.mk k r n f kids) = wrapP (plTs T r f (n / widN r) ++ bodyTs T cB (kids.take kids.length)) := by rw [List.take_length, hcB]; unfold bodyT; simp only [Int.toNat_natCast]
  have hcap : (bodyT T (.mk k r n f kids)).length ≤ 33000000 := by omega
  rw [ebody] at hcap ⊢
  obtain ⟨ps, hps⟩ : ∃ ps, ps = plTs T r f (n / widN r) ++ bodyTs T cB (kids.take kids.length) := ⟨_, rfl⟩
  obtain ⟨c, hc⟩ : ∃ c, c = n / widN r + kids.length := ⟨_, rfl⟩
  have hpl2 : ps.length = c := by rw [hps, hc, List.length_append, plTs_len, bodyTs_len, List.length_take]; omega
  rw [← hps] at hcap ⊢
  have HPS := Lib.hid hps
  have hc4 : c ≤ 4000 := by rw [hc]; omega
  have HC := Lib.hid hc
  have HPL := Lib.hid hpl2
  obtain ⟨s, hs⟩ : ∃ s : Nat → List UInt8, s = fun i => ps.getD i [] := ⟨_, rfl⟩
  have HSr := Lib.hid hs
  have hjn : joinC ps = cTo s c := by unfold joinC; rw [hpl2, hs]
  have hcl : (cTo s c).length ≤ 33000000 := by
    by_cases hpe : ps = []
    · have : c = 0 := by rw [← hpl2, hpe]; rfl
      rw [this]; simp [cTo]
    · unfold wrapP at hcap
      rw [if_neg hpe, hjn] at hcap
      simp only [List.length_append, List.length_cons, List.length_nil] at hcap
      omega
  have hle := cTo_le s c
  obtain ⟨S, hS⟩ : ∃ S : Nat → ByteArray, ∀ k, S k = ⟨([40] ++ cTo s k).toArray⟩ := ⟨_, fun _ => rfl⟩
  obtain ⟨U, hU⟩ : ∃ U : Nat → ByteArray, ∀ k, U k = ⟨([40] ++ cTo s k ++ [44]).toArray⟩ := ⟨_, fun _ => rfl⟩
  obtain ⟨X, hX⟩ : ∃ X : Nat → ByteArray, ∀ k, X k = ⟨(s k).toArray⟩ := ⟨_, fun _ => rfl⟩
  obtain ⟨J, hJ⟩ : ∃ J : ByteArray, J = ⟨([40] ++ cTo s c ++ [41]).toArray⟩ := ⟨_, rfl⟩
  have hx : ∀ k, k < c → (s k).length + (cTo s k).length ≤ 33000000 := fun k hk => by
    have h1 := hle (k + 1) hk
    have h2 : (cTo s (k + 1)).length = (cTo s k ++ (if 0 < k then [44] else []) ++ s k).length := rfl
    simp only [List.length_append] at h2
    omega
  have HU := Lib.hid (fun k (hk : k < c) => cat_run Tryz.prog ([40] ++ cTo s k) [44] (S k) ⟨#[44]⟩ (U k) (hS k) rfl (hU k) (by have := hx k hk; simp only [List.length_append, List.length_cons, List.length_nil]; omega))
  have HX := Lib.hid (fun k (hk : k < c) (h0 : 0 < k) => cat_run Tryz.prog ([40] ++ cTo s k ++ [44]) (s k) (U k) (X k) (S (k + 1)) (hU k) (hX k) (by rw [hS]; show ByteArray.mk ([40] ++ (cTo s k ++ (if 0 < k then [44] else []) ++ s k)).toArray = _; rw [if_pos h0]; simp only [List.append_assoc]) (by have := hx k hk; simp only [List.length_append, List.length_cons, List.length_nil]; omega))
  have HZ := Lib.hid (fun k (hk : k < c) (h0 : ¬ 0 < k) => cat_run Tryz.prog ([40] ++ cTo s k) (s k) (S k) (X k) (S (k + 1)) (hS k) (hX k) (by rw [hS]; show ByteArray.mk ([40] ++ (cTo s k ++ (if 0 < k then [44] else []) ++ s k)).toArray = _; rw [if_neg h0]; simp only [List.append_assoc, List.nil_append]) (by have := hx k hk; simp only [List.length_append, List.length_cons, List.length_nil]; omega))
  have HJ := Lib.hid (cat_run Tryz.prog ([40] ++ cTo s c) [41] (S c) ⟨#[41]⟩ J (hS c) rfl hJ (by simp only [List.length_append, List.length_cons, List.length_nil]; omega))
  have h0S : S 0 = ⟨#[40]⟩ := by rw [hS]; rfl
  have HSX : Hid (∀ (w : World) p, SRow w p c (fun i => ps.getD i []) → ∀ a, p = some a → ∀ i, i < c → w.cell? (a.add i) = some (.string (X i))) := fun w p hh a ha i hi => by rw [hX, hs]; exact hh.at_ a ha i hi
  have HWr : Hid ((c = 0 → (⟨(wrapP ps).toArray⟩ : ByteArray) = ⟨#[69, 77, 80, 84, 89]⟩) ∧ (¬ c = 0 → (⟨(wrapP ps).toArray⟩ : ByteArray) = J)) := ⟨fun h0 => by
    have : ps = [] := List.eq_nil_of_length_eq_zero (by rw [hpl2]; exact h0)
    rw [(wrapP_empty ps).2 this]; rfl, fun h0 => by
    have : ¬ ps = [] := fun e => h0 (by rw [← hpl2, e]; rfl)
    unfold wrapP
    rw [if_neg this, hjn, hJ]⟩
  obtain ⟨R, hR⟩ : ∃ R : ByteArray, R = ⟨(wrapP ps).toArray⟩ := ⟨_, rfl⟩
  rw [← hR] at HWr ⊢
  clear hS hU hX hJ hle hx hs hps hc hpl2 hjn hcl hR
  have HPl := Lib.hid (fun w (g : W.grownBy w none) => Places_any' r hr p n cap f hn w (hf.mono g))
  have HWp := Lib.hid (fun i w (g : W.grownBy w none) => writePlace_any T hT (plX r f i) (plY r f i) (plZ r f i) (plM r f i) r (hf.lt _) (hf.lt _) (fval_plZ hf r i) (fval_plM hf r i) hr w (ht.mono g (by simp) (by simp)))
  have HKid := Lib.hid (fun w (g : W.grownBy w none) a (ha : q = some a) j t (hj : kids[j]? = some t) => (by
      obtain ⟨c0, c1, c2, c3, k0, k1, k2, k3, k4⟩ := hm4 a ha j t hj
      exact ⟨c0, c1, c2, c3, k0.mono g, g.cell k1 (by simp), g.cell k2 (by simp), g.cell k3 (by simp), g.cell k4 (by simp)⟩ : ∃ c0 c1 c2 c3, KD B h w (.agg #[c0, c1, c2, c3]) t ∧ w.cell? (a.add (j * 4)) = some c0 ∧ w.cell? ⟨(a.add (j * 4)).block, (a.add (j * 4)).off + 1, none⟩ = some c1 ∧ w.cell? ⟨(a.add (j * 4)).block, (a.add (j * 4)).off + 2, none⟩ = some c2 ∧ w.cell? ⟨(a.add (j * 4)).block, (a.add (j * 4)).off + 3, none⟩ = some c3))
  have HIB := Lib.hid (fun w v j t (g : W.grownBy w none) (hj : kids[j]? = some t) (hk : KD B h w v t) => ihb B w v t hk (dimsOks_mem kids hdk j t hj) (by have := pls_mem kids j t hj; omega) (ht.mono g (by simp) (by simp)))
  have HIT := Lib.hid (fun w v j t (g : W.grownBy w none) (hj : kids[j]? = some t) (hk : KD B h w v t) => iht B w v t hk (dimsOks_mem kids hdk j t hj) (by have := pls_mem kids j t hj; omega) (ht.mono g (by simp) (by simp)))
  have HSn := Lib.hid (fun j t (hj : kids[j]? = some t) => (by
      obtain ⟨hlt, rfl⟩ := List.getElem?_eq_some_iff.1 hj
      rw [List.take_succ_eq_append_getElem hlt, bodyTs_snoc] : bodyTs T cB (kids.take (j + 1)) = bodyTs T cB (kids.take j) ++ [bif cB then textT T t else bodyT T t]))
  have HG : Hid (∀ j, j < kids.length → ∃ t, kids[j]? = some t) := fun j hj => ⟨kids[j]'(by omega), List.getElem?_eq_getElem (by omega)⟩
  have HPs := Lib.hid (fun j => plTs_snoc T r f j)
  have HLen : Hid (∀ L j, j ≤ kids.length → (plTs T r f L ++ bodyTs T cB (kids.take j)).length = L + j) := fun L j hj => by rw [List.length_append, plTs_len, bodyTs_len, List.length_take]; omega
  have HB := World.grownBy_alloc W (.cells #[.int .i64 k, .int .i64 r, .slice p n cap, .slice q kids.length c2] 25) none
  have HBX : Hid (∀ W', (W.alloc (.cells #[.int .i64 k, .int .i64 r, .slice p n cap, .slice q kids.length c2] 25)).grownBy W' none → W'.cell? ⟨W.heap.size, 0, none⟩ = some (.int .i64 k) ∧ W'.cell? ⟨W.heap.size, 1, none⟩ = some (.int .i64 r) ∧ W'.cell? ⟨W.heap.size, 3, none⟩ = some (.slice q kids.length c2)) := fun W' g => ⟨g.cell (by simp) (by simp), g.cell (by simp) (by simp), g.cell (by simp) (by simp)⟩
  have hsf := run_store_flt Tryz.prog
  have HF0 : Hid (plTs T r f 0 = []) := by simp [plTs]; exact trivial
  have HT0 : Hid (bodyTs T cB (kids.take 0) = []) := by simp [bodyTs]; exact trivial
  have hqn := Lib.hid hm3
  have hkB : (k == 0) = cB := by rw [hcB]; rfl
  generalize n / widN r = L at HPl hL hp HPS HC ⊢
  generalize kids.length = m at HG HLen hml hm1 HB HBX HPS HC ⊢
  clear hm4 hm3 hf hdk ht ebody hcB hd0 hd4 hp0 hpl hcap
  go_enter Tryz.func28, Tryz.ntmps28
  go_wp2_with (first
    | (go_at_call 58; refine (HPl.out _ HB).mono ?_; rintro e w' ⟨v, rfl, hv⟩; obtain ⟨pp, cc, rfl⟩ := hv.slice))
  have hprow := hv.prow
  have HGN := Lib.hid (gt_trans HB hv.grown0 (.inl rfl))
  have HBN : Hid (∀ w2, w'.grownBy w2 none → w2.cell? ⟨W.heap.size, 0, none⟩ = some (.int .i64 k) ∧ w2.cell? ⟨W.heap.size, 1, none⟩ = some (.int .i64 r) ∧ w2.cell? ⟨W.heap.size, 3, none⟩ = some (.slice q m c2)) := fun w2 g => HBX.out w2 (gt_trans hv.grown0 g (.inl rfl))
  have hz0 : W.heap.size < w'.heap.size := by have := hv.grown0.size; simp at this; omega
  clear hv HBX
  go_loopw [3, 17] (fun x i wr => ∃ j : Nat, j ≤ L ∧ i = .int .i64 j ∧ AppV 9 1 w'.heap.size w' (.slice none 0 0) wr x j (sL (plTs T r f j))) (fun _ i _ => L - (intOf i).toNat)
  case atStart => exact ⟨0, by omega, rfl, by rw [HF0.out]; exact AppV.nil _ _ _ _⟩
  case round =>
    obtain ⟨j, hj, rfl, H⟩ := hrel
    rename World => wr
    obtain ⟨x0, x1, x3⟩ := HBN.out wr H.grown0
    have hz : W.heap.size < wr.heap.size := Nat.lt_of_lt_of_le hz0 H.grown0.size
    by_cases hjn : j < L
    · obtain ⟨a, rfl⟩ := hprow.some_ (by omega)
      obtain ⟨q0, q1, q2, q3⟩ := (hprow.mono H.grown0).at_ a rfl j hjn
      have HWk := Lib.hid (HWp.out j)
      have HPj := Lib.hid (HPs.out j)
      have HF : Hid (∀ w2, Below wr.heap.size wr w2 → W.grownBy w2 none) := fun w2 g => gt_trans HGN.out (gt_trans H.grown0 (gt_below g none) (.inl rfl)) (.inl rfl)
      have HH : Hid (∀ w2 w3, Below wr.heap.size wr w2 → w2.grownBy w3 none → AppV 9 1 w'.heap.size w' (.slice none 0 0) w3 u3 j (sL (plTs T r f j))) := fun w2 w3 g g3 => H.beside (gt_trans (gt_below g none) g3 (.inl rfl))
      clear H
      go_wp2_with (first
        | (go_at_call 59; refine (HWk.out _ (HF.out _ (by go_grown))).mono ?_; rintro e w'' ⟨rfl, hb⟩; have H := HH.out _ _ (by go_grown) hb)
        | (at_builtin; refine app_cells rfl _ _ _ rfl Tryz.underlying36 (.string ⟨#[]⟩) 16 infoS rfl (by omega) H rfl rfl (by first | rfl | simp) _ (by first | rfl | simp) (by simp [Value.oneCell']) (Nat.le_refl _) (by omega) (by omega) ?_; intro v1 w1 H1; clear H; have H := H1; clear H1))
      refine ⟨⟨j + 1, by omega, by go_num, ?_⟩, by simp [intOf]; omega⟩
      rw [HPj.out, sL_snoc]
      exact H
    · obtain rfl : j = L := by omega
      go_wp2_with fail
      go_wp2_with fail
      have HGL := Lib.hid H
      have HGW := Lib.hid (gt_trans HGN.out H.grown0 (.inl rfl))
      clear x0 x1 x3 H hz
      go_loopw [3, 32] (fun x i w2 => ∃ l : Nat, l ≤ m ∧ i = .int .i64 l ∧ AppV 9 1 w'.heap.size w' (.slice none 0 0) w2 x (j + l) (sL (plTs T r f j ++ bodyTs T cB (kids.take l)))) (fun _ i _ => m - (intOf i).toNat)
      case atStart => exact ⟨0, by omega, rfl, by rw [HT0.out, List.append_nil]; exact HGL.out⟩
      case round =>
        obtain ⟨l, hl, rfl, H⟩ := hrel
        rename World => w2
        have GW2 := gt_trans HGN.out H.grown0 (.inl rfl)
        obtain ⟨x0, x1, x3⟩ := HBN.out w2 H.grown0
        have hz2 : W.heap.size < w2.heap.size := Nat.lt_of_lt_of_le hz0 H.grown0.size
        by_cases hlm : l < m
        · obtain ⟨t, ht⟩ := HG.out l hlm
          obtain ⟨a, rfl⟩ : ∃ a, q = some a := by
            cases q with
            | none => have := hqn.out rfl; omega
            | some a => exact ⟨a, rfl⟩
          obtain ⟨c0, c1, c2, c3, kk, q0, q1, q2, q3⟩ := HKid.out w2 GW2 a rfl l t ht
          obtain ⟨k1, d1, n1, f1, kids1, p1, cap1, q1', cq1, hte, rfl, rfl, rfl, rfl⟩ := kk.form4
          clear hte
          generalize kids1.length = m1 at kk q3
          have HBo := Lib.hid (fun w (g : w2.grownBy w none) => HIB.out w _ l t (gt_trans GW2 g (.inl rfl)) ht (kk.mono g))
          have HTo := Lib.hid (fun w (g : w2.grownBy w none) => HIT.out w _ l t (gt_trans GW2 g (.inl rfl)) ht (kk.mono g))
          have hSn := Lib.hid (HSn.out l t ht)
          have HH : Hid (∀ w3 w4, w2.grownBy w3 none → w3.grownBy w4 none → AppV 9 1 w'.heap.size w' (.slice none 0 0) w4 u3 (j + l) (sL (plTs T r f j ++ bodyTs T cB (kids.take l)))) := fun w3 w4 g g3 => H.beside (gt_trans g g3 (.inl rfl))
          have G5 := Lib.hid (World.grownBy_alloc w2 (.cells #[.int .i64 k1, .int .i64 d1, .slice p1 n1 cap1, .slice q1' m1 cq1] 25) none)
          clear H kk ht GW2
          cases cB
          · simp only [cond_false] at hSn
            go_wp2_with (first
              | (go_at_call 28; refine (HBo.out _ G5.out).mono ?_; rintro e w'' ⟨rfl, hb⟩; have H := HH.out _ _ G5.out hb)
              | (at_builtin; refine app_cells rfl _ _ _ rfl Tryz.underlying36 (.string ⟨#[]⟩) 16 infoS rfl (by omega) H rfl rfl (by first | rfl | simp) _ (by first | rfl | simp) (by simp [Value.oneCell']) (Nat.le_refl _) (by omega) (by omega) ?_; intro v1 w1 H1; clear H; have H := H1; clear H1))
            refine ⟨⟨l + 1, by omega, by go_num, ?_⟩, by simp [intOf]; omega⟩
            rw [hSn.out, ← List.append_assoc, sL_snoc, ← Nat.add_assoc]
            exact H
          · simp only [cond_true] at hSn
            go_wp2_with (first
              | (go_at_call 11; refine (HTo.out _ G5.out).mono ?_; rintro e w'' ⟨rfl, hb⟩; have H := HH.out _ _ G5.out hb)
              | (at_builtin; refine app_cells rfl _ _ _ rfl Tryz.underlying36 (.string ⟨#[]⟩) 16 infoS rfl (by omega) H rfl rfl (by first | rfl | simp) _ (by first | rfl | simp) (by simp [Value.oneCell']) (Nat.le_refl _) (by omega) (by omega) ?_; intro v1 w1 H1; clear H; have H := H1; clear H1))
            refine ⟨⟨l + 1, by omega, by go_num, ?_⟩, by simp [intOf]; omega⟩
            rw [hSn.out, ← List.append_assoc, sL_snoc, ← Nat.add_assoc]
            exact H
        · obtain rfl : l = m := by omega
          rw [← HPS.out, ← HC.out] at H
          obtain ⟨ppx, ccx, rfl⟩ := H.slice
          have hsr := HSX.out w2 ppx (H.srowL HPL.out.symm)
          have hsn := (own_at H.own).1
          have HSR := Lib.hid hsr
          clear hsr H hz2 x0 x1 x3
          by_cases hc0 : c = 0
          · have HW0 := Lib.hid (HWr.out.1 hc0)
            subst hc0
            go_wp2_with fail
            go_wp2_with fail
            go_ret
            exact ⟨ret_str HW0.out.symm, GW2⟩
          · have hc1 : 0 < c := by omega
            have hcB : (c == 0) = false := by simpa using hc0
            go_wp2_with fail
            go_wp2_with fail
            go_loopw [8, 55] (fun x i wr => ∃ k : Nat, k ≤ c ∧ i = .int .i64 k ∧ x = .string (S k) ∧ wr = w2) (fun _ i _ => c - (intOf i).toNat)
            case atStart => exact ⟨0, by omega, rfl, by rw [h0S], rfl⟩
            case round =>
              obtain ⟨k, hk, rfl, rfl, rfl⟩ := hrel
              by_cases hkn : k < c
              · obtain ⟨a, ha⟩ := hsn (by omega)
                have qk := HSR.out a ha k hkn
                subst ha
                by_cases hk0 : 0 < k
                · have eU := HU.out k hkn
                  have eX := HX.out k hkn hk0
                  go_wp2_with fail
                  exact ⟨⟨k + 1, by omega, by go_num, rfl, by trivial⟩, by simp [intOf]; omega⟩
                · have eX := HZ.out k hkn hk0
                  go_wp2_with fail
                  exact ⟨⟨k + 1, by omega, by go_num, rfl, by trivial⟩, by simp [intOf]; omega⟩
              · obtain rfl : k = c := by omega
                have eJ := HJ.out
                go_wp2_with fail
                go_wp2_with fail
                go_ret
                exact ⟨ret_str (HWr.out.2 hc0).symm, GW2⟩
theorem bodyOk (T : Nat → Int) (hT : ∀ i, U64 (T i)) : ∀ h, BodyOk T h
  | 0 => fun _ _ _ _ hk => hk.elim
  | h + 1 => body_succ T hT h (bodyOk T hT h) (text_of_body T h (bodyOk T hT h))
theorem textOk (T : Nat → Int) (hT : ∀ i, U64 (T i)) (h : Nat) : TextOk T h := text_of_body T h (bodyOk T hT h)
end Go.Proofs.YthcjnadceambgaaGreatDoor
