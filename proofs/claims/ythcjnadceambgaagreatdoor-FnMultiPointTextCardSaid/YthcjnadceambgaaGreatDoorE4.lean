/- The reference's ForceCoordinatesType. -/
import Derived.Test.YthcjnadceambgaaGreatDoorE5
import Derived.Test.YthcjnadceambgaaGreatDoorX
import Derived.StillTailTactics
namespace Go.Proofs.YthcjnadceambgaaGreatDoor
open Go.RowKit

theorem Nums_any (r : Nat) (hr : r < 4) (p : Option Addr) (n cap : Nat) (X Y Z M : Nat → Nat) (hn : n ≤ 100000) (W : World) (hp : PRow W p n X Y Z M) :
    Calls Tryz.prog 60 #[.slice p n cap, .int .i64 r] W fun e w' => ∃ v, e = .returned v ∧ AppV 60 1 W.heap.size W (.slice none 0 0) w' v (n * widN r) (nTo r X Y Z M n) := by
  rcases (by omega : r = 0 ∨ r = 1 ∨ r = 2 ∨ r = 3) with rfl | rfl | rfl | rfl
  · exact Nums_0 p n cap X Y Z M hn W hp
  · exact Nums_1 p n cap X Y Z M hn W hp
  · exact Nums_2 p n cap X Y Z M hn W hp
  · exact Nums_3 p n cap X Y Z M hn W hp
theorem Places_any' (r : Nat) (hr : r < 4) (p : Option Addr) (n cap : Nat) (f : Nat → Nat) (hn : n ≤ 100000) (W : World) (hf : FVal W p n f) :
    Calls Tryz.prog 58 #[.slice p n cap, .int .i64 r] W fun e w' => ∃ v, e = .returned v ∧ AppV 92 4 W.heap.size W (.slice none 0 0) w' v (n / widN r) (pCells r f (n / widN r)) := by
  rcases (by omega : r = 0 ∨ r = 1 ∨ r = 2 ∨ r = 3) with rfl | rfl | rfl | rfl
  · exact Places_0 p n cap f hn W hf
  · exact Places_1 p n cap f hn W hf
  · exact Places_2 p n cap f hn W hf
  · exact Places_3 p n cap f hn W hf

theorem nTo_len (r : Nat) (hr : r < 4) (X Y Z M : Nat → Nat) : ∀ k, (nTo r X Y Z M k).length = k * widN r
  | 0 => by simp [nTo]
  | k + 1 => by
    have h := nTo_len r hr X Y Z M k
    rcases (by omega : r = 0 ∨ r = 1 ∨ r = 2 ∨ r = 3) with rfl | rfl | rfl | rfl <;> simp [nTo, widN] at h ⊢ <;> omega
theorem nTo_at (r r' : Nat) (hr : r' < 4) (f : Nat → Nat) : ∀ n i, i < n * widN r' → (nTo r' (plX r f) (plY r f) (plZ r f) (plM r f) n)[i]? = some (.float .f64 (fF r r' f i))
  | 0, i, h => by omega
  | n + 1, i, h => by
    have hl := nTo_len r' hr (plX r f) (plY r f) (plZ r f) (plM r f) n
    by_cases hi : i < n * widN r'
    · have := nTo_at r r' hr f n i hi
      rw [nTo, List.append_assoc, List.append_assoc, List.getElem?_append_left (by omega)]
      exact this
    · obtain ⟨c, rfl⟩ : ∃ c, i = n * widN r' + c := ⟨i - n * widN r', by omega⟩
      rw [nTo, List.append_assoc, List.append_assoc, List.getElem?_append_right (by omega), hl, Nat.add_sub_cancel_left]
      have hw := widN_le r' hr
      have hc : c < widN r' := by rw [Nat.succ_mul] at h; omega
      have hq : (n * widN r' + c) / widN r' = n := by
        rw [Nat.mul_comm, Nat.mul_add_div (by omega), Nat.div_eq_of_lt hc]; omega
      have hm : (n * widN r' + c) % widN r' = c := by
        rw [Nat.mul_comm, Nat.mul_add_mod, Nat.mod_eq_of_lt hc]
      unfold fF
      rw [hq, hm]
      rcases (by omega : r' = 0 ∨ r' = 1 ∨ r' = 2 ∨ r' = 3) with rfl | rfl | rfl | rfl
      · have hc' : c < 2 := hc
        rcases (by omega : c = 0 ∨ c = 1) with rfl | rfl <;> rfl
      · have hc' : c < 3 := hc
        rcases (by omega : c = 0 ∨ c = 1 ∨ c = 2) with rfl | rfl | rfl <;> rfl
      · have hc' : c < 3 := hc
        rcases (by omega : c = 0 ∨ c = 1 ∨ c = 2) with rfl | rfl | rfl <;> rfl
      · have hc' : c < 4 := hc
        rcases (by omega : c = 0 ∨ c = 1 ∨ c = 2 ∨ c = 3) with rfl | rfl | rfl | rfl <;> rfl
theorem fF_lt {W : World} {p : Option Addr} {n : Nat} {f : Nat → Nat} (h : FVal W p n f) (r r' i : Nat) : fF r r' f i < 18446744073709551616 := by
  unfold fF
  split
  · exact h.lt _
  · split
    · exact h.lt _
    · split
      · exact fval_plZ h r _
      · exact fval_plM h r _

theorem AppV.prow {e base : Nat} {w0 w : World} {v0 : Value} {p : Option Addr} {n c r : Nat} {f : Nat → Nat} (h : AppV e 4 base w0 v0 w (.slice p n c) n (pCells r f n)) : PRow w p n (plX r f) (plY r f) (plZ r f) (plM r f) := by
  obtain ⟨h1, h2⟩ := own_at4 h.own
  refine ⟨h1, fun a ha i hi => ⟨?_, ?_, ?_, ?_⟩⟩
  · exact h2 a ha i 0 _ ((pCells_at r f n i hi 0 (by omega)).trans rfl)
  · exact h2 a ha i 1 _ ((pCells_at r f n i hi 1 (by omega)).trans rfl)
  · exact h2 a ha i 2 _ ((pCells_at r f n i hi 2 (by omega)).trans rfl)
  · exact h2 a ha i 3 _ ((pCells_at r f n i hi 3 (by omega)).trans rfl)



set_option maxRecDepth 100000 in
set_option maxHeartbeats 4000000 in
theorem ForceD : ∀ (h : Nat) (B : Nat → Prop) (W : World) (v : Value) (t : Raw) (r' : Nat), r' < 4 → KD B h W v t → dimsOk t → pl t ≤ 2000 →
    Calls Tryz.prog 32 #[v, .int .i64 r'] W fun e w' => ∃ v', e = .returned v' ∧ KD (Fr W w') h w' v' (forceT r' t) ∧ W.grownBy w' none := by
  intro h
  induction h with
  | zero => intro B W v t r' _ hk; exact hk.elim
  | succ h ih =>
    intro B W v t r' hr' hk hd hp
    obtain ⟨k, d, n, f, kids⟩ := t
    obtain ⟨hd0, hd4, hdk⟩ := hd
    obtain ⟨r, rfl⟩ := Int.eq_ofNat_of_zero_le hd0
    obtain ⟨p, cap, q, c2, rfl, hf, h1, h2, h3, hm1, hm2, hm3, hm4, _⟩ := hk
    have hr : r < 4 := by omega
    unfold pl at hp
    simp only [Int.toNat_natCast] at hp
    have hw := widN_le r hr
    have hw' := widN_le r' hr'
    have hn : n ≤ 100000 := by
      have h1 : n / widN r ≤ 2000 := by omega
      have h2 := Nat.mod_add_div n (widN r)
      have h3 := Nat.mod_lt n (by omega : 0 < widN r)
      have h4 : widN r * (n / widN r) ≤ 4 * 2000 := Nat.mul_le_mul hw.2 h1
      omega
    have hL : n / widN r ≤ 2000 := by omega
    have hpk : pls kids ≤ 2000 := Nat.le_trans (Nat.le_add_left _ _) hp
    have HPl := Lib.hid (fun w (g : W.grownBy w none) => Places_any' r hr p n cap f hn w (hf.mono g))
    have HNu := Lib.hid (fun w pq c (hpr : PRow w pq (n / widN r) (plX r f) (plY r f) (plZ r f) (plM r f)) => Nums_any r' hr' pq (n / widN r) c _ _ _ _ (by omega) w hpr)
    have HFv : Hid (∀ (w0 w : World) (p : Option Addr) (cc : Nat), AppV 60 1 w0.heap.size w0 (.slice none 0 0) w (.slice p (n / widN r * widN r') cc) (n / widN r * widN r') (nTo r' (plX r f) (plY r f) (plZ r f) (plM r f) (n / widN r)) → FVal w p (n / widN r * widN r') (fF r r' f)) :=
      fun w0 w p cc hh => hh.fval (fun i => fF_lt hf r r' i) (fun i hi => nTo_at r r' hr' f (n / widN r) i hi)
    have HKid := Lib.hid (fun w (g : W.grownBy w none) a (ha : q = some a) j t (hj : kids[j]? = some t) => (by
      obtain ⟨c0, c1, c2, c3, k0, k1, k2, k3, k4⟩ := hm4 a ha j t hj
      exact ⟨c0, c1, c2, c3, k0.mono g, g.cell k1 (by simp), g.cell k2 (by simp), g.cell k3 (by simp), g.cell k4 (by simp)⟩ : ∃ c0 c1 c2 c3, KD B h w (.agg #[c0, c1, c2, c3]) t ∧ w.cell? (a.add (j * 4)) = some c0 ∧ w.cell? ⟨(a.add (j * 4)).block, (a.add (j * 4)).off + 1, none⟩ = some c1 ∧ w.cell? ⟨(a.add (j * 4)).block, (a.add (j * 4)).off + 2, none⟩ = some c2 ∧ w.cell? ⟨(a.add (j * 4)).block, (a.add (j * 4)).off + 3, none⟩ = some c3))
    have HIH := Lib.hid (fun w v j t (hj : kids[j]? = some t) (hk : KD B h w v t) => ih B w v t r' hr' hk (dimsOks_mem kids hdk j t hj) (by have := pls_mem kids j t hj; omega))
    have HSn := Lib.hid (fun j t (hj : kids[j]? = some t) => (by
      obtain ⟨hlt, rfl⟩ := List.getElem?_eq_some_iff.1 hj
      rw [List.take_succ_eq_append_getElem hlt, forceTs_snoc] : forceTs r' (kids.take (j + 1)) = forceTs r' (kids.take j) ++ [forceT r' t]))
    have hml : kids.length ≤ 2000 := by have := pls_len kids; omega
    have HG : Hid (∀ j, j < kids.length → ∃ t, kids[j]? = some t) := fun j hj => ⟨kids[j]'(by omega), List.getElem?_eq_getElem (by omega)⟩
    have HLn : Hid (∀ j, j ≤ kids.length → (forceTs r' (kids.take j)).length = j) := fun j hj => by rw [forceTs_len, List.length_take]; omega
    have HEnd : forceT r' (.mk k r n f kids) = .mk k r' (n / widN r * widN r') (fF r r' f) (forceTs r' (kids.take kids.length)) := by rw [List.take_length]; unfold forceT; simp only [Int.toNat_natCast]
    have hqn := Lib.hid hm3
    rw [HEnd]
    generalize n / widN r = L at HPl HNu HFv hL hp ⊢
    generalize kids.length = m at HG HLn hml hm1 ⊢
    obtain ⟨N, hN⟩ : ∃ N, N = L * widN r' := ⟨_, rfl⟩
    rw [← hN] at HNu HFv ⊢
    have hNle : N ≤ 8000 := by rw [hN]; exact Nat.mul_le_mul hL hw'.2
    clear hm4 hm3 ih hf hdk HEnd hN hd0 hd4
    go_enter Tryz.func32, Tryz.ntmps32
    have HB3 := W3_grown W (.int .i64 k) (.int .i64 r) (.slice p n cap) (.slice q m c2) k r' 25
    have HPre := Lib.hid (fun w g => Pre.of W w (.int .i64 k) (.int .i64 r) (.slice p n cap) (.slice q m c2) k r' 25 g)
    go_wp2_with (first
      | (go_at_call 58; refine (HPl.out _ HB3).mono ?_; rintro e w1 ⟨v1, rfl, hv1⟩; obtain ⟨pp, cc, rfl⟩ := hv1.slice))
    have G1 := gt_trans HB3 hv1.grown0 (.inl rfl)
    have hs1 : W.heap.size + 3 ≤ w1.heap.size := by rw [← W3_size W (.int .i64 k) (.int .i64 r) (.slice p n cap) (.slice q m c2) k r' 25]; exact hv1.grown0.size
    refine (HNu.out _ _ _ hv1.prow).mono ?_
    rintro e w2 ⟨v2, rfl, hv2⟩
    obtain ⟨pn, cn, rfl⟩ := hv2.slice
    have hfn := HFv.out _ _ _ _ hv2
    obtain ⟨pn', cn', e9, hc1, hc2, hc3, hob⟩ := own_form hv2.own
    obtain ⟨rfl, rfl⟩ : pn = pn' ∧ cn = cn' := by injection e9 with e9 e10 e11; exact ⟨e9, e11⟩
    have hnlt := hv2.own.lt
    have hpre := HPre.out w2 (gt_trans hv1.grown0 hv2.grown0 (.inl rfl))
    have I0 := Lib.hid (hpre.start h hfn hc1 hc2 hc3 (fun a ha => by have := hnlt _ (hob a ha); omega))
    obtain ⟨_, _, a0, a1, a2, a3, o0, o1, o2, o3, of_, _⟩ := hpre
    have of2 := of_ 2
    have HO : Hid (∀ w', (w2.setCell ⟨W.heap.size + 1 + 1, 2, none⟩ (.slice pn N cn)).grownBy w' none → True) := fun _ _ => trivial
    clear hnlt hob hc1 hc2 hc3 hfn hv2 hv1 HPre HFv of_ e9
    go_wp2_with fail
    clear a0 a1 a2 a3 o0 o1 o2 o3 of2 HO hs1 G1
    go_loopw [23] (fun i wr => ∃ (j : Nat) (x : Value) (cs : List Value), i = .int .i64 j ∧ j ≤ m ∧ OutInv W wr h k r' pn N cn (fF r r' f) x (forceTs r' (kids.take j)) cs) (fun i _ => m - (intOf i).toNat)
    case atStart => exact ⟨0, .slice none 0 0, [], rfl, by omega, by simpa [forceTs] using I0.out⟩
    case round =>
      obtain ⟨j, x, cs, rfl, hj, I⟩ := hrel
      rename World => wr
      clear I0
      by_cases hjm : j < m
      · obtain ⟨t, ht⟩ := HG.out j hjm
        obtain ⟨a, rfl⟩ : ∃ a, q = some a := by
          cases q with
          | none => have := hqn.out rfl; omega
          | some a => exact ⟨a, rfl⟩
        obtain ⟨c0, c1, c2, c3, kk, q0, q1, q2, q3⟩ := HKid.out wr I.g a rfl j t ht
        obtain ⟨k1, d1, n1, f1, kids1, p1, cap1, q1', cq1, _, rfl, rfl, rfl, rfl⟩ := kk.form4
        generalize kids1.length = m1 at kk q3
        have HK5 := Lib.hid (fun w (g : wr.grownBy w none) => HIH.out w _ j t ht (kk.mono g))
        have hSn := Lib.hid (HSn.out j t ht)
        have hLn := Lib.hid (HLn.out j (by omega))
        obtain ⟨px, cx, rfl, _⟩ := own_form I.kr.1
        have hle := hLn.out
        have HI := Lib.hid (fun w (g : wr.grownBy w none) => I.kept g)
        have hxl : (forceTs r' (kids.take j)).length = j := hLn.out
        rw [hxl] at HI
        have HX : Hid (∀ w, wr.grownBy w none → w.cell? ⟨W.heap.size + 1 + 1, 3, none⟩ = some (.slice px j cx) ∧ w.frozen? ⟨W.heap.size + 1 + 1, 3, none⟩ = false) := fun w g => ⟨(HI.out w g).o3, (HI.out w g).of_ 3⟩
        have HOw : Hid (∀ w, wr.grownBy w none → w.ownsRow (W.heap.size + 3) 25 4 (.slice px j cx) j cs) := fun w g => by
          have hh := (HI.out w g).kr.1
          rw [hLn.out] at hh
          exact hh
        have HX7 : Hid (∀ w6 w7, wr.grownBy w6 none → w6.grownBy w7 (Value.slice px j cx).ownBlock → w7.cell? ⟨W.heap.size + 1 + 1, 3, none⟩ = some (.slice px j cx) ∧ w7.frozen? ⟨W.heap.size + 1 + 1, 3, none⟩ = false) := fun w6 w7 g g' => by
          have hi := HI.out w6 g
          have hne : some (W.heap.size + 1 + 1) ≠ (Value.slice px j cx).ownBlock := fun e => by have := (hi.kr.1.lt _ e.symm).1; omega
          exact ⟨g'.cell hi.o3 hne, by rw [World.frozen?_of_block (g'.block (W.heap.size + 1 + 1) (by have := hi.big; omega) hne)]; exact hi.of_ 3⟩
        have HSnoc : Hid (∀ (w1 w2 w3 w4 : World) (d0 d1 d2 d3 : Value) (gg cap : Nat), wr.grownBy w1 none → w1.grownBy w2 none → w2.grownBy w3 none → KD (Fr w1 w2) h w2 (.agg #[d0, d1, d2, d3]) (forceT r' t) → w4.ownsRow (W.heap.size + 3) 25 4 (.slice (some ⟨gg, 0, none⟩) (j + 1) cap) (j + 1) (cs ++ [d0, d1, d2, d3]) → w3.grownBy w4 (Value.slice px j cx).ownBlock → ((Value.slice px j cx).ownBlock = some gg ∨ gg = w3.heap.size) →
            OutInv W (w4.setCell ⟨W.heap.size + 1 + 1, 3, none⟩ (.slice (some ⟨gg, 0, none⟩) (j + 1) cap)) h k r' pn N cn (fF r r' f) (.slice (some ⟨gg, 0, none⟩) (j + 1) cap) (forceTs r' (kids.take (j + 1))) (cs ++ [d0, d1, d2, d3])) := fun w1 w2 w3 w4 d0 d1 d2 d3 gg cap g1 g2 g3 hk hown g4 hg => by
          have hh := (HI.out wr (gt_refl _ _)).snoc g1 g2 g3 hk (by rw [hLn.out]; exact hown) g4 hg
          rw [hLn.out, ← hSn.out] at hh
          exact hh
        have hbig := I.big
        clear kk ht I hle hxl
        go_wp2_with fail
        have G5 := World.grownBy_alloc wr (.cells #[.int .i64 k1, .int .i64 d1, .slice p1 n1 cap1, .slice q1' m1 cq1] 25) none
        obtain ⟨y3, yf⟩ := HX.out _ (gt_drew_r G5)
        have HG5 := Lib.hid (gt_drew_r G5)
        clear G5
        go_region_law (first
          | (go_simp; go_at_call 32; refine (HK5.out _ HG5.out).mono ?_; rintro e w5 ⟨v5, rfl, hk5, hg5⟩; obtain ⟨k6, d6, n6, f6, kids6, p6, cap6, q6, cq6, _, rfl⟩ := hk5.form; have G6 := gt_trans HG5.out hg5 (.inl rfl); obtain ⟨z3, zf⟩ := HX.out _ G6; have hz5 : W.heap.size + 1 + 1 < w5.heap.size := by have := G6.size; omega)
          | (refine step_cells (size := 4) (n := j) (xs := cs) (base := W.heap.size + 3) (W := w5) rfl _ _ _ rfl Tryz.underlying23 (.agg #[.int .i64 0, .int .i64 0, .slice none 0 0, .slice none 0 0]) 64 infoG rfl (Nat.succ_pos 3) rfl rfl rfl _ ?_ ?_ ?_ (Nat.succ_pos 0) ?_ ?_ ?_ ?_; exact HOw.out _ (gt_alloc_r G6 _); rfl; exact one4 _ _ _ _ _ _ _ _; (have := G6.size; simp; omega); omega; omega; intro gg cap7 w7 hown7 hg7 hat7; obtain ⟨u3, uf⟩ := HX7.out _ _ (gt_alloc_r G6 _) hg7))
        all_goals
          have HFin := Lib.hid (HSnoc.out _ _ _ _ _ _ _ _ _ _ HG5.out hg5 (World.grownBy_alloc _ _ _) hk5 hown7 hg7 hat7)
          clear hown7 hg7 hat7 hk5 u3 uf z3 zf y3 yf
          go_wp2_with fail
          exact ⟨⟨j + 1, _, _, by go_num, by omega, HFin.out⟩, by simp [intOf]; omega⟩
      · obtain rfl : j = m := by omega
        obtain ⟨px, cx, rfl, _⟩ := own_form I.kr.1
        have hxl : (forceTs r' (kids.take j)).length = j := HLn.out j (by omega)
        rw [hxl] at I
        have o0 := I.o0
        have o1 := I.o1
        have o2 := I.o2
        have o3 := I.o3
        have r0 := I.r0
        have r1 := I.r1
        have r2 := I.r2
        have r3 := I.r3
        have rf0 := I.rf 0
        have rf1 := I.rf 1
        have rf2 := I.rf 2
        have rf3 := I.rf 3
        have HEnd := Lib.hid I.end_
        clear I
        go_wp2_with fail
        go_wp2_with fail
        refine bodyPost_ret (by simp [results, Tryz.results32, go_sem, r0, r1, r2, r3]; try rfl) rfl ?_
        exact ⟨_, rfl, HEnd.out.1, HEnd.out.2⟩
end Go.Proofs.YthcjnadceambgaaGreatDoor
