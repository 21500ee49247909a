/- Sizes of what the reference's New makes; a line made of a geometry, in new blocks. What the reference's New makes of numbers that are none of them NaN, may be written. -/
import Derived.Test.YtlpaecafpbbbkaaGreatDoorBCT2
import Derived.Test.YtlpaecafpbbbkaaGreatDoorBCT7
import Derived.Test.YtlpaecafpbbbkaaGreatDoorBCT11
set_option linter.unusedVariables false
set_option linter.unusedSimpArgs false
namespace Go.Proofs.YtlpaecafpbbbkaaGreatDoor
open Go.RowKit

mutual
/-- All of one type of coordinates, and no row longer than 2000. -/
def okU (r : Nat) : Raw → Prop
  | .mk _ d n _ kids => d = (r : Nat) ∧ n ≤ 2000 ∧ kids.length ≤ 2000 ∧ okUs r kids
def okUs (r : Nat) : List Raw → Prop
  | [] => True
  | t :: ts => okU r t ∧ okUs r ts
end
mutual
theorem okU.ok {r : Nat} : ∀ {t : Raw}, okU r t → okT t
  | .mk _ _ _ _ _, h => by unfold okU at h; unfold okT; exact ⟨h.2.1, h.2.2.1, okUs.ok h.2.2.2⟩
theorem okUs.ok {r : Nat} : ∀ {ts : List Raw}, okUs r ts → okTs ts
  | [], _ => trivial
  | _ :: _, h => by unfold okUs at h; unfold okTs; exact ⟨okU.ok h.1, okUs.ok h.2⟩
end
mutual
theorem okU.force {r D : Nat} (hw : widN D ≤ widN r) : ∀ {t : Raw}, okU r t → okU D (forceT D t)
  | .mk k d n f kids, h => by
    unfold okU at h
    obtain ⟨rfl, h1, h2, h3⟩ := h
    unfold forceT okU
    refine ⟨rfl, ?_, by rw [forceTs_len]; exact h2, okUs.force hw h3⟩
    rw [Int.toNat_natCast]
    have e1 := Nat.mul_le_mul_left (n / widN r) hw
    have e2 := Nat.div_mul_le_self n (widN r)
    omega
theorem okUs.force {r D : Nat} (hw : widN D ≤ widN r) : ∀ {ts : List Raw}, okUs r ts → okUs D (forceTs D ts)
  | [], _ => trivial
  | _ :: _, h => by unfold okUs at h; unfold forceTs okUs; exact ⟨okU.force hw h.1, okUs.force hw h.2⟩
end
theorem widN_and : ∀ a b : Nat, a < 4 → b < 4 → widN (a &&& b) ≤ widN a ∧ widN (a &&& b) ≤ widN b := by
  intro a b ha hb
  rcases (by omega : a = 0 ∨ a = 1 ∨ a = 2 ∨ a = 3) with rfl | rfl | rfl | rfl <;> rcases (by omega : b = 0 ∨ b = 1 ∨ b = 2 ∨ b = 3) with rfl | rfl | rfl | rfl <;> decide
theorem widN_dims : ∀ (ks : List Raw) (m : Raw), m ∈ ks → dimR m < 4 → widN (dimsOf ks) ≤ widN (dimR m)
  | [], _, h, _ => by simp at h
  | t :: ks, m, h, hm => by
    have hl := dimsOf_lt ks
    unfold dimsOf
    by_cases ht : dimR t < 4
    · rcases List.mem_cons.1 h with rfl | h
      · exact (widN_and _ _ ht hl).1
      · exact Nat.le_trans (widN_and _ _ ht hl).2 (widN_dims ks m h hm)
    · rcases List.mem_cons.1 h with rfl | h
      · exact absurd hm ht
      · have e : dimR t &&& dimsOf ks = (dimR t % 4) &&& dimsOf ks := by
          apply Nat.eq_of_testBit_eq
          intro i
          rw [Nat.testBit_and, Nat.testBit_and, show (4 : Nat) = 2 ^ 2 from rfl, Nat.testBit_mod_two_pow]
          by_cases hi : i < 2
          · simp [hi]
          · have : (dimsOf ks).testBit i = false := Nat.testBit_lt_two_pow (Nat.lt_of_lt_of_le hl (by have := Nat.pow_le_pow_right (n := 2) (by omega) (by omega : 2 ≤ i); omega))
            rw [this]; simp
        rw [e]
        exact Nat.le_trans (widN_and _ _ (by omega) hl).2 (widN_dims ks m h hm)
theorem okUs_of {D : Nat} : ∀ (ks : List Raw), (∀ m ∈ ks, okU (dimR m) m ∧ widN D ≤ widN (dimR m)) → okUs D (forceTs D ks)
  | [], _ => trivial
  | m :: ks, h => by unfold forceTs okUs; exact ⟨okU.force (h m List.mem_cons_self).2 (h m List.mem_cons_self).1, okUs_of ks fun s hs => h s (List.mem_cons_of_mem _ hs)⟩
mutual
theorem new_okU : ∀ t : Raw, wt t ≤ 2000 → okU (dimR (newT t)) (newT t) ∧ dimR (newT t) < 4
  | .mk k d n f kids, hw => by
    unfold wt at hw
    have hd : (d % 4).toNat < 4 := by omega
    have hd2 : (d % 4) = ((d % 4).toNat : Int) := by omega
    unfold newT
    split
    · show okU (d % 4).toNat _ ∧ (d % 4).toNat < 4
      refine ⟨?_, hd⟩
      unfold okU
      have e2 := Nat.div_mul_le_self n (widN (d % 4).toNat)
      have e1 := Nat.mul_le_mul_right (widN (d % 4).toNat) (Nat.min_le_left (n / widN (d % 4).toNat) 1)
      exact ⟨hd2, by omega, by simp, trivial⟩
    · split
      · show okU (d % 4).toNat _ ∧ (d % 4).toNat < 4
        refine ⟨?_, hd⟩
        unfold okU
        have e2 := Nat.div_mul_le_self n (widN (d % 4).toNat)
        exact ⟨hd2, by omega, by simp, trivial⟩
      · obtain ⟨f', e⟩ := node_one (kindN k) (d % 4).toNat f ((newTs kids).filter (keepT (kindN k)))
        rw [e]
        have hk := news_okU kids (by omega)
        have hlen : ((newTs kids).filter (keepT (kindN k))).length ≤ 2000 := by
          have h1 := List.length_filter_le (keepT (kindN k)) (newTs kids)
          have h2 : ∀ l : List Raw, (newTs l).length = l.length := fun l => by
            induction l with
            | nil => rfl
            | cons t l ih => unfold newTs; simp [ih]
          have h3 := wts_len kids
          rw [h2] at h1
          omega
        by_cases hks : (newTs kids).filter (keepT (kindN k)) = []
        · rw [if_pos hks, if_pos hks]
          refine ⟨?_, hd⟩
          unfold okU
          exact ⟨rfl, by omega, by simp, trivial⟩
        · rw [if_neg hks, if_neg hks]
          refine ⟨?_, dimsOf_lt _⟩
          show okU ((dimsOf ((newTs kids).filter (keepT (kindN k))) : Nat) : Int).toNat _
          rw [Int.toNat_natCast]
          unfold okU
          exact ⟨rfl, by omega, by rw [forceTs_len]; exact hlen, okUs_of _ fun m hm => ⟨(hk m ((List.mem_filter.1 hm).1)).1, widN_dims _ m hm (hk m ((List.mem_filter.1 hm).1)).2⟩⟩
theorem news_okU : ∀ ts : List Raw, wts ts ≤ 2000 → ∀ m ∈ newTs ts, okU (dimR m) m ∧ dimR m < 4
  | [], _, m, hm => by unfold newTs at hm; simp at hm
  | t :: ts, hw, m, hm => by
    unfold wts at hw
    unfold newTs at hm
    rcases List.mem_cons.1 hm with rfl | hm
    · exact new_okU t (by omega)
    · exact news_okU ts (by omega) m hm
end
theorem new_ok (t : Raw) (h : wt t ≤ 2000) : okT (newT t) := (new_okU t h).1.ok
theorem okTs_of : ∀ (ts : List Raw), (∀ m ∈ ts, okT m) → okTs ts
  | [], _ => trivial
  | m :: ts, h => ⟨h m List.mem_cons_self, okTs_of ts fun s hs => h s (List.mem_cons_of_mem _ hs)⟩

theorem DLine.form {B : Nat → Prop} {W : World} {v : Value} {t : Raw} : DLine B W v t → ∃ (r : Nat) (p : Option Addr) (n c : Nat), v = .agg #[.int .u8 r, .slice p n c] := fun ⟨r, n, f, p, _, _, _, ev, _⟩ => ⟨r, p, n, n, ev⟩
theorem DLine.d4 {B : Nat → Prop} {W : World} {v : Value} {t : Raw} : DLine B W v t → dimR t < 4 := fun ⟨r, n, f, p, e, hr, _⟩ => by subst e; show ((r : Nat) : Int).toNat < 4; omega
theorem DNode.form {k : Int} {D : (Nat → Prop) → World → Value → Raw → Prop} {B : Nat → Prop} {W : World} {v : Value} {t : Raw} : DNode k D B W v t → ∃ (p : Option Addr) (n c r : Nat), v = .agg #[.slice p n c, .int .u8 r] := fun ⟨r, f, kids, p, c, _, _, ev, _⟩ => ⟨p, _, c, r, ev⟩
theorem DNode.d4 {k : Int} {D : (Nat → Prop) → World → Value → Raw → Prop} {B : Nat → Prop} {W : World} {v : Value} {t : Raw} : DNode k D B W v t → dimR t < 4 := fun ⟨r, f, kids, p, c, e, hr, _⟩ => by subst e; show ((r : Nat) : Int).toNat < 4; omega
theorem DNode.anyf {k : Int} {D : (Nat → Prop) → World → Value → Raw → Prop} {B : Nat → Prop} {W : World} {v : Value} {r n : Nat} {f f' : Nat → Nat} {kids : List Raw} : DNode k D B W v (.mk k r n f kids) → DNode k D B W v (.mk k r 0 f' kids) := fun ⟨r, f, kids, p, c, e, hr, ev, h⟩ => by
  simp only [Raw.mk.injEq] at e
  obtain ⟨_, e1, _, _, e2⟩ := e
  have e1 := Int.ofNat.inj e1
  subst e1 e2
  exact ⟨_, _, _, p, c, rfl, hr, ev, h⟩
theorem LineFC : FC DLine 128 := by
  intro B W v t r' ⟨r, n, f, p, ht, hr, hm, hv, hf, hb⟩ hok hr' hB
  subst ht hv
  refine (LineForce_any r r' n hr hr' (by unfold okT at hok; exact hok.1) hm p f W hf (fun a ha => hB _ (hb a ha))).mono ?_
  rintro e w' ⟨p', rfl, hf', hat, hg⟩
  refine ⟨_, rfl, ⟨r', _, _, p', by unfold forceT; rw [Int.toNat_natCast]; rfl, hr', Nat.mul_mod_left _ _, rfl, hf', fun a ha => ?_⟩, hg⟩
  rcases hat a ha with h | h
  · exact .inl (hb a h)
  · exact .inr h
theorem LineCC : CC DLine 129 := by
  intro B W v t ⟨r, n, f, p, ht, hr, hm, hv, hf, hb⟩
  subst ht hv
  exact LineCT_any r (.slice p n n) ⟨_, _, _, rfl⟩ W

end Go.Proofs.YtlpaecafpbbbkaaGreatDoor
namespace Go.Proofs.YtlpaecafpbbbkaaGreatDoor
open Go.RowKit

mutual
/-- No number is NaN. -/
def noN : Raw → Prop
  | .mk _ _ n f kids => (∀ i, i < n → f i < 18446744073709551616 ∧ nanB (f i) = false) ∧ noNs kids
def noNs : List Raw → Prop
  | [] => True
  | t :: ts => noN t ∧ noNs ts
end
theorem fF_ok {r D n : Nat} (hr : r < 4) {f : Nat → Nat} (hf : ∀ i, i < n → f i < 18446744073709551616 ∧ nanB (f i) = false) (i : Nat) (hi : i < n / widN r * widN D) : fF r D f i < 18446744073709551616 ∧ nanB (fF r D f i) = false := by
  have hD := widN_pos D
  have hw := widN_pos r
  have hq : i / widN D < n / widN r := Nat.div_lt_of_lt_mul (by rw [Nat.mul_comm]; exact hi)
  obtain ⟨q, hqq⟩ : ∃ q, q = i / widN D := ⟨_, rfl⟩
  rw [← hqq] at hq
  have h1 : (q + 1) * widN r ≤ n := Nat.le_trans (Nat.mul_le_mul_right _ hq) (Nat.div_mul_le_self n (widN r))
  rw [Nat.add_mul, Nat.one_mul] at h1
  have h0 : (0 : Nat) < 18446744073709551616 ∧ nanB 0 = false := ⟨by decide, zero_nan⟩
  have hx : plX r f q < 18446744073709551616 ∧ nanB (plX r f q) = false := hf _ (by omega)
  have hy : plY r f q < 18446744073709551616 ∧ nanB (plY r f q) = false := hf _ (by omega)
  have hz : plZ r f q < 18446744073709551616 ∧ nanB (plZ r f q) = false := by
    unfold plZ
    split
    · refine hf _ ?_
      have : 3 ≤ widN r := by unfold widN; omega
      omega
    · exact h0
  have hm : plM r f q < 18446744073709551616 ∧ nanB (plM r f q) = false := by
    unfold plM
    split
    · exact hf _ (by omega)
    · exact h0
  unfold fF
  rw [← hqq]
  split
  · exact hx
  · split
    · exact hy
    · split
      · exact hz
      · exact hm
theorem noN_of {k d : Int} {n : Nat} {f : Nat → Nat} {kids : List Raw} (h : noN (.mk k d n f kids)) : (∀ i, i < n → f i < 18446744073709551616 ∧ nanB (f i) = false) ∧ noNs kids := by unfold noN at h; exact h
theorem kind_forceT (D : Nat) : ∀ t : Raw, kindOf (forceT D t) = kindOf t ∧ dimR (forceT D t) = D
  | .mk k d n f kids => by unfold forceT; exact ⟨rfl, by show ((D : Nat) : Int).toNat = D; omega⟩
mutual
theorem gd_force {r D : Nat} (hr : r < 4) (hD : D < 4) (hw : widN D ≤ widN r) : ∀ t : Raw, okU r t → gdT t → gdT (forceT D t) ∧ wt (forceT D t) ≤ wt t
  | .mk k d n f kids, hu, hg => by
    unfold okU at hu
    obtain ⟨rfl, u1, u2, u3⟩ := hu
    unfold gdT at hg
    obtain ⟨k0, k6, d0, d4, hf, h1, h2, h3, h4, h5, hks⟩ := hg
    rw [Int.toNat_natCast] at h1 h2
    have hwr := widN_pos r
    have hwD := widN_pos D
    have hle : n / widN r * widN D ≤ n := Nat.le_trans (Nat.mul_le_mul_left _ hw) (Nat.div_mul_le_self n (widN r))
    obtain ⟨i1, i2⟩ := gd_forces hr hD hw k r kids u3 hks
    unfold forceT
    rw [Int.toNat_natCast]
    refine ⟨?_, by unfold wt; omega⟩
    unfold gdT
    rw [Int.toNat_natCast]
    refine ⟨k0, k6, by omega, by omega, fun i hi => fF_ok hr hf i hi, fun hk => ?_, fun hk => ⟨Nat.mul_mod_left _ _, by omega⟩, by rw [forceTs_len]; exact h3, fun hk => ?_, fun hk1 hk2 => ?_, i1⟩
    · rcases h1 hk with e | e
      · left; rw [e]; simp
      · right; rw [e, Nat.div_self (by omega), Nat.one_mul]
    · rw [h4 hk]; rfl
    · rw [h5 hk1 hk2]; simp
theorem gd_forces {r D : Nat} (hr : r < 4) (hD : D < 4) (hw : widN D ≤ widN r) (k : Int) : ∀ (r' : Nat) (ts : List Raw), okUs r ts → gdTs k (r' : Nat) ts → gdTs k (D : Nat) (forceTs D ts) ∧ wts (forceTs D ts) ≤ wts ts
  | _, [], _, _ => ⟨trivial, Nat.le_refl _⟩
  | r', t :: ts, hu, hg => by
    unfold okUs at hu
    unfold gdTs at hg
    obtain ⟨g1, g2, g3, g4⟩ := hg
    obtain ⟨i1, i2⟩ := gd_force hr hD hw t hu.1 g1
    obtain ⟨j1, j2⟩ := gd_forces hr hD hw k r' ts hu.2 g4
    obtain ⟨k1, k2⟩ := kind_forceT D t
    unfold forceTs
    refine ⟨?_, by unfold wts; omega⟩
    unfold gdTs
    exact ⟨i1, fun h => by rw [k1]; exact g2 h, fun _ => by rw [k2]; omega, j1⟩
end
theorem gdTs_of {D : Nat} (hD : D < 4) (k : Int) : ∀ (ks : List Raw), (∀ m ∈ ks, gdT m ∧ okU (dimR m) m ∧ dimR m < 4 ∧ widN D ≤ widN (dimR m) ∧ (0 ≤ kidOf k → kindOf m = kidOf k)) → gdTs k (D : Nat) (forceTs D ks) ∧ wts (forceTs D ks) ≤ wts ks
  | [], _ => ⟨trivial, Nat.le_refl _⟩
  | m :: ks, h => by
    obtain ⟨h1, h2, h3, h4, h5⟩ := h m List.mem_cons_self
    obtain ⟨i1, i2⟩ := gd_force h3 hD h4 m h2 h1
    obtain ⟨j1, j2⟩ := gdTs_of hD k ks fun s hs => h s (List.mem_cons_of_mem _ hs)
    obtain ⟨k1, k2⟩ := kind_forceT D m
    unfold forceTs
    refine ⟨?_, by unfold wts; omega⟩
    unfold gdTs
    exact ⟨i1, fun h => by rw [k1]; exact h5 h, fun _ => by rw [k2]; omega, j1⟩
theorem wts_filter (p : Raw → Bool) : ∀ ts : List Raw, wts (ts.filter p) ≤ wts ts
  | [] => Nat.le_refl _
  | t :: ts => by
    have h := wts_filter p ts
    by_cases hp : p t = true
    · rw [List.filter_cons_of_pos hp]; simp only [wts]; omega
    · rw [List.filter_cons_of_neg hp]; simp only [wts]; omega
mutual
theorem new_gd : ∀ t : Raw, wt t ≤ 2000 → noN t → gdT (newT t) ∧ wt (newT t) ≤ wt t
  | .mk k d n f kids, hw, hn => by
    have hw0 := hw
    unfold wt at hw
    obtain ⟨hf, hns⟩ := noN_of hn
    have hd : (d % 4).toNat < 4 := by omega
    have hd2 : (d % 4) = ((d % 4).toNat : Int) := by omega
    have hwp := widN_pos (d % 4).toNat
    have e2 := Nat.div_mul_le_self n (widN (d % 4).toNat)
    have e1 := Nat.mul_le_mul_right (widN (d % 4).toNat) (Nat.min_le_left (n / widN (d % 4).toNat) 1)
    have hk06 : 0 ≤ kindN k ∧ kindN k ≤ 6 := by unfold kindN; split <;> omega
    unfold newT
    split
    · refine ⟨?_, by unfold wt wts; omega⟩
      unfold gdT
      refine ⟨by omega, by omega, by omega, by omega, fun i hi => hf i (by omega), fun _ => ?_, fun h => absurd h (by decide), by simp, fun _ => rfl, fun h => absurd rfl h, trivial⟩
      by_cases h0 : n / widN (d % 4).toNat = 0
      · left; rw [h0]; simp
      · right; rw [Nat.min_eq_right (Nat.pos_of_ne_zero h0), Nat.one_mul]
    · split
      · refine ⟨?_, by unfold wt wts; omega⟩
        unfold gdT
        exact ⟨by omega, by omega, by omega, by omega, fun i hi => hf i (by omega), fun h => absurd h (by decide), fun _ => ⟨Nat.mul_mod_left _ _, by omega⟩, by simp, fun _ => rfl, fun _ h => absurd rfl h, trivial⟩
      · rename_i hk1 hk2
        have hks := news_gd kids (by omega) hns
        have hku := news_okU kids (by omega)
        have hwf := wts_filter (keepT (kindN k)) (newTs kids)
        have hlen : ((newTs kids).filter (keepT (kindN k))).length ≤ 2000 := by
          have h1 := wts_len ((newTs kids).filter (keepT (kindN k)))
          have := hks.2
          omega
        unfold nodeT
        split
        · refine ⟨?_, by unfold wt wts; omega⟩
          unfold gdT
          exact ⟨hk06.1, hk06.2, by omega, by omega, fun i hi => absurd hi (by omega), fun _ => .inl rfl, fun _ => ⟨Nat.zero_mod _, by omega⟩, by simp, fun _ => rfl, fun _ _ => rfl, trivial⟩
        · have hD := dimsOf_lt ((newTs kids).filter (keepT (kindN k)))
          obtain ⟨i1, i2⟩ := gdTs_of hD (kindN k) ((newTs kids).filter (keepT (kindN k))) (fun m hm => by
            obtain ⟨hm1, hm2⟩ := List.mem_filter.1 hm
            obtain ⟨u1, u2⟩ := hku m hm1
            refine ⟨hks.1 m hm1, u1, u2, widN_dims _ m hm u2, fun h0 => ?_⟩
            unfold keepT at hm2
            simp only [Bool.or_eq_true, decide_eq_true_eq] at hm2
            rcases hm2 with h | h
            · omega
            · exact h.symm)
          unfold forceT
          refine ⟨?_, by have := hks.2; unfold wt; simp; omega⟩
          unfold gdT
          refine ⟨hk06.1, hk06.2, by omega, by omega, fun i hi => absurd hi (by simp), fun h => absurd h hk1, fun h => absurd h hk2, by rw [forceTs_len]; omega, fun h => by rcases h with h | h; exact absurd h hk1; exact absurd h hk2, fun _ _ => by simp, i1⟩
theorem news_gd : ∀ ts : List Raw, wts ts ≤ 2000 → noNs ts → (∀ m ∈ newTs ts, gdT m) ∧ wts (newTs ts) ≤ wts ts
  | [], _, _ => ⟨fun m hm => by unfold newTs at hm; simp at hm, Nat.le_refl _⟩
  | t :: ts, hw, hn => by
    unfold wts at hw
    unfold noNs at hn
    obtain ⟨i1, i2⟩ := new_gd t (by omega) hn.1
    obtain ⟨j1, j2⟩ := news_gd ts (by omega) hn.2
    unfold newTs
    refine ⟨fun m hm => ?_, by unfold wts; omega⟩
    rcases List.mem_cons.1 hm with rfl | hm
    · exact i1
    · exact j1 m hm
end
mutual
/-- How many bytes there are at most. -/
theorem wrT_len : ∀ t : Raw, gdT t → (wrT t).length ≤ 50 * wt t
  | .mk k d n f kids, hg => by
    unfold gdT at hg
    obtain ⟨k0, k6, d0, d4, hf, h1, h2, h3, h4, h5, hks⟩ := hg
    have hw := widN_le d.toNat (by omega)
    have hk := wrTs_len (decide (k = 3)) k d kids hks
    have e8 := numsW_len n f
    have e9 := numsW_len (widN d.toNat) (fun _ => emptyN)
    unfold wrT wt
    by_cases hk1 : k = 1
    · rw [if_pos hk1]
      by_cases hn : n = 0
      · rw [if_pos hn]
        simp only [List.length_append, leB_len, e9, List.length_cons, List.length_nil]
        omega
      · rw [if_neg hn]
        simp only [List.length_append, leB_len, e8, List.length_cons, List.length_nil]
        omega
    · rw [if_neg hk1]
      by_cases hk2 : k = 2
      · rw [if_pos hk2]
        unfold bLine
        simp only [List.length_append, leB_len, e8, List.length_cons, List.length_nil]
        omega
      · rw [if_neg hk2]
        simp only [List.length_append, leB_len, List.length_cons, List.length_nil]
        omega
theorem wrTs_len : ∀ (b : Bool) (k d : Int) (ts : List Raw), gdTs k d ts → (wrTs b ts).length ≤ 50 * wts ts
  | _, _, _, [], _ => Nat.le_refl _
  | b, k, d, t :: ts, hg => by
    unfold gdTs at hg
    have h1 := wrT_len t hg.1
    have h2 := wrTs_len b k d ts hg.2.2.2
    have h3 : (bLine t).length ≤ 50 * wt t := by
      obtain ⟨k, d, n, f, kids⟩ := t
      have e8 := numsW_len n f
      unfold bLine wt
      rw [List.length_append, leB_len, e8]
      omega
    unfold wrTs wts
    rw [List.length_append]
    split <;> omega
end
end Go.Proofs.YtlpaecafpbbbkaaGreatDoor
