/- Geometries as trees of plain data, and how they lie in memory. -/
import Derived.Test.YthcjnadceambgaaGreatDoorJ
import Derived.Test.YthcjnadceambgaaGreatDoorR
namespace Go.Proofs.YthcjnadceambgaaGreatDoor
open Go.Joins Go.ChangeShapes Go.WideShapes Go.RowKit Go.Deep Go.ChangeAt

/-- A geometry: its kind, its type of coordinates, its numbers (n of them, as bits), its parts. -/
inductive Raw where
  | mk (k d : Int) (n : Nat) (f : Nat → Nat) (kids : List Raw)

mutual
/-- How many geometries and numbers. -/
def wt : Raw → Nat
  | .mk _ _ n _ kids => 1 + n + wts kids
def wts : List Raw → Nat
  | [] => 0
  | t :: ts => wt t + wts ts
end
theorem wts_append : ∀ (l m : List Raw), wts (l ++ m) = wts l + wts m
  | [], m => by simp [wts]
  | t :: l, m => by simp only [List.cons_append, wts, wts_append l m]; omega
theorem wts_take_succ (l : List Raw) (j : Nat) (t : Raw) (h : l[j]? = some t) : wts (l.take (j + 1)) = wts (l.take j) + wt t := by
  obtain ⟨hj, rfl⟩ := List.getElem?_eq_some_iff.1 h
  rw [List.take_succ_eq_append_getElem hj, wts_append]
  simp [wts]
theorem wt_pos (t : Raw) : 1 ≤ wt t := by cases t; unfold wt; omega
theorem wts_len : ∀ (l : List Raw), l.length ≤ wts l
  | [] => by simp [wts]
  | t :: l => by
    have := wts_len l
    have := wt_pos t
    simp only [List.length_cons, wts]; omega
theorem wts_mem : ∀ (l : List Raw) (i : Nat) (t : Raw), l[i]? = some t → wt t ≤ wts l
  | [], _, _, h => by simp at h
  | s :: l, 0, t, h => by simp at h; subst h; simp only [wts]; omega
  | s :: l, i + 1, t, h => by
    have := wts_mem l i t (by simpa using h)
    simp only [wts]; omega

/-- A geometry t in memory, to the depth h, all of it in blocks of which B is true. -/
def KD (B : Nat → Prop) : Nat → World → Value → Raw → Prop
  | 0, _, _, _ => False
  | h + 1, W, v, .mk k d n f kids => ∃ p cap q c2, v = .agg #[.int .i64 k, .int .i64 d, .slice p n cap, .slice q kids.length c2] ∧ FVal W p n f ∧ n ≤ cap ∧ cap ≤ maxLen ∧ (p = none → cap = 0) ∧ kids.length ≤ c2 ∧ c2 ≤ maxLen ∧ (q = none → c2 = 0) ∧
      (∀ a, q = some a → ∀ i t, kids[i]? = some t → ∃ c0 c1 c2 c3, KD B h W (.agg #[c0, c1, c2, c3]) t ∧ W.cell? (a.add (i * 4)) = some c0 ∧ W.cell? ⟨(a.add (i * 4)).block, (a.add (i * 4)).off + 1, none⟩ = some c1 ∧ W.cell? ⟨(a.add (i * 4)).block, (a.add (i * 4)).off + 2, none⟩ = some c2 ∧ W.cell? ⟨(a.add (i * 4)).block, (a.add (i * 4)).off + 3, none⟩ = some c3) ∧
      (∀ a, p = some a → B a.block) ∧ ∀ a, q = some a → B a.block
/-- What stands in blocks of which B is true stands there in W', too. -/
def Kept (B : Nat → Prop) (W W' : World) : Prop := ∀ a x, B a.block → W.cell? a = some x → W'.cell? a = some x
theorem Kept.grown {B : Nat → Prop} {W W' : World} (g : W.grownBy W' none) : Kept B W W' := fun _ _ _ h => g.cell h (by simp)
theorem Kept.set {B : Nat → Prop} {W : World} {q : Addr} (hq : ¬ B q.block) (x : Value) : Kept B W (W.setCell q x) := fun a y ha h => by
  rw [World.cell?_setCell_other (h := fun e => by subst e; exact hq ha)]
  exact h
theorem Kept.grownRow {B : Nat → Prop} {W W' : World} {r : Option Nat} (g : W.grownBy W' r) (hr : ∀ b, r = some b → ¬ B b) : Kept B W W' := fun a x ha h => g.cell h (fun e => hr _ e.symm ha)
theorem Kept.trans {B : Nat → Prop} {W W1 W2 : World} (h : Kept B W W1) (h' : Kept B W1 W2) : Kept B W W2 := fun a x ha k => h' a x ha (h a x ha k)
theorem add_block (a : Addr) (i : Nat) : (a.add i).block = a.block := by unfold Addr.add; split <;> rfl
theorem FVal.keep {B : Nat → Prop} {W W' : World} (hg : Kept B W W') {p : Option Addr} {n : Nat} {f : Nat → Nat} (h : FVal W p n f) (hp : ∀ a, p = some a → B a.block) : FVal W' p n f :=
  ⟨h.some_, fun a ha i hi => hg _ _ (by rw [add_block]; exact hp a ha) (h.at_ a ha i hi), h.lt⟩
theorem KD.keep {B : Nat → Prop} {W W' : World} (hg : Kept B W W') : ∀ {h : Nat} {v : Value} {t : Raw}, KD B h W v t → KD B h W' v t
  | 0, _, _, h => h.elim
  | _ + 1, _, .mk _ _ _ _ _, ⟨p, cap, q, c2, e, f, h1, h2, h3, h4, h5, h6, h7, h8, h9⟩ => ⟨p, cap, q, c2, e, f.keep hg h8, h1, h2, h3, h4, h5, h6, fun a ha i t hi => by
      obtain ⟨c0, c1, c2, c3, k0, k1, k2, k3, k4⟩ := h7 a ha i t hi
      have hb : B (a.add (i * 4)).block := by rw [add_block]; exact h9 a ha
      exact ⟨c0, c1, c2, c3, KD.keep hg k0, hg _ _ hb k1, hg _ _ hb k2, hg _ _ hb k3, hg _ _ hb k4⟩, h8, h9⟩
theorem KD.mono {B : Nat → Prop} {W W' : World} (hg : W.grownBy W' none) {h : Nat} {v : Value} {t : Raw} (k : KD B h W v t) : KD B h W' v t := k.keep (.grown hg)
theorem KD.weak {B B' : Nat → Prop} (hl : ∀ b, B b → B' b) : ∀ {h : Nat} {W : World} {v : Value} {t : Raw}, KD B h W v t → KD B' h W v t
  | 0, _, _, _, h => h.elim
  | _ + 1, _, _, .mk _ _ _ _ _, ⟨p, cap, q, c2, e, f, h1, h2, h3, h4, h5, h6, h7, h8, h9⟩ => ⟨p, cap, q, c2, e, f, h1, h2, h3, h4, h5, h6, fun a ha i t hi => by
      obtain ⟨c0, c1, c2, c3, k0, k1, k2, k3, k4⟩ := h7 a ha i t hi
      exact ⟨c0, c1, c2, c3, KD.weak hl k0, k1, k2, k3, k4⟩, fun a ha => hl _ (h8 a ha), fun a ha => hl _ (h9 a ha)⟩
theorem KD.up {B : Nat → Prop} : ∀ {h : Nat} {W : World} {v : Value} {t : Raw}, KD B h W v t → KD B (h + 1) W v t
  | 0, _, _, _, h => h.elim
  | _ + 1, _, _, .mk _ _ _ _ _, ⟨p, cap, q, c2, e, f, h1, h2, h3, h4, h5, h6, h7, h8⟩ => ⟨p, cap, q, c2, e, f, h1, h2, h3, h4, h5, h6, fun a ha i t hi => by
      obtain ⟨c0, c1, c2, c3, k0, k1, k2, k3, k4⟩ := h7 a ha i t hi
      exact ⟨c0, c1, c2, c3, KD.up k0, k1, k2, k3, k4⟩, h8⟩
theorem KD.le {B : Nat → Prop} {h h' : Nat} (hh : h ≤ h') {W : World} {v : Value} {t : Raw} (k : KD B h W v t) : KD B h' W v t := by
  induction hh with
  | refl => exact k
  | step _ ih => exact ih.up
theorem FVal.frow {W : World} {p : Option Addr} {n cap : Nat} {f : Nat → Nat} (h : FVal W p n f) (h1 : n ≤ cap) (h2 : cap ≤ maxLen) : FRow W p n cap :=
  ⟨h1, h2, h.some_, fun a ha i hi => ⟨f i, h.at_ a ha i hi, h.lt i⟩⟩
theorem KD.kg {B : Nat → Prop} : ∀ {h : Nat} {W : World} {v : Value} {t : Raw}, KD B h W v t → KG h W v
  | 0, _, _, _, h => h.elim
  | _ + 1, _, _, .mk k d n f kids, ⟨p, cap, q, c2, e, hf, h1, h2, h3, h4, h5, h6, h7, _⟩ => ⟨k, d, p, n, cap, q, kids.length, c2, e, hf.frow h1 h2, h4, h5, fun hp => by
      cases q with
      | none => have := h6 rfl; omega
      | some a => exact ⟨a, rfl⟩, fun a ha i hi => by
      obtain ⟨c0, c1, c2, c3, k0, k1, k2, k3, k4⟩ := h7 a ha i kids[i] (List.getElem?_eq_getElem hi)
      exact ⟨c0, c1, c2, c3, KD.kg k0, k1, k2, k3, k4⟩⟩
theorem KD.form {B : Nat → Prop} {W : World} : ∀ {h : Nat} {v : Value} {t : Raw}, KD B h W v t → ∃ k d n f kids p cap q c2, t = .mk k d n f kids ∧ v = .agg #[.int .i64 k, .int .i64 d, .slice p n cap, .slice q kids.length c2]
  | 0, _, _, h => by cases h
  | _ + 1, _, .mk k d n f kids, ⟨p, cap, q, c2, e, _⟩ => ⟨k, d, n, f, kids, p, cap, q, c2, rfl, e⟩
theorem KD.form4 {B : Nat → Prop} {W : World} {h : Nat} {c0 c1 c2 c3 : Value} {t : Raw} (hk : KD B h W (.agg #[c0, c1, c2, c3]) t) : ∃ k d n f kids p cap q c, t = .mk k d n f kids ∧ c0 = .int .i64 k ∧ c1 = .int .i64 d ∧ c2 = .slice p n cap ∧ c3 = .slice q kids.length c := by
  obtain ⟨k, d, n, f, kids, p, cap, q, c, rfl, e⟩ := hk.form
  simp only [Value.agg.injEq, Array.mk.injEq, List.cons.injEq, and_true] at e
  exact ⟨k, d, n, f, kids, p, cap, q, c, rfl, e⟩

theorem list_of {α : Type} {P : Nat → α → Prop} : ∀ (n : Nat), (∀ i, i < n → ∃ t, P i t) → ∃ l : List α, l.length = n ∧ ∀ i t, l[i]? = some t → P i t
  | 0, _ => ⟨[], rfl, fun i t h => by simp at h⟩
  | n + 1, h => by
    obtain ⟨l, hl, hp⟩ := list_of n fun i hi => h i (by omega)
    obtain ⟨t, ht⟩ := h n (by omega)
    refine ⟨l ++ [t], by simp [hl], fun i s hs => ?_⟩
    by_cases hi : i < n
    · rw [List.getElem?_append_left (by omega)] at hs
      exact hp i s hs
    · rw [List.getElem?_append_right (by omega)] at hs
      obtain ⟨h0, h1⟩ := List.getElem?_eq_some_iff.1 hs
      have : i = n := by simp at h0; omega
      subst this
      simp [hl] at h1
      subst h1
      exact ht

section
variable {H : Type} {enc : TypeId × Value → H} {W : World} {base : Nat} {spare : Nat → Bool} {held : Bool}
set_option maxRecDepth 100000 in
theorem KD_of_trod : ∀ (fuel : Nat) (cs : List Value) (x : DataW H × List MemPlace), DataW.trod enc Tryz.prog W base spare held fuel 25 cs = some x →
    ∃ c0 c1 c2 c3 t, cs = [c0, c1, c2, c3] ∧ KD (fun _ => True) fuel W (.agg #[c0, c1, c2, c3]) t := by
  intro fuel
  induction fuel using Nat.strongRecOn with
  | ind fuel ih =>
    intro cs x h
    obtain ⟨xs, n, rfl, rfl, hl, hlen, hf⟩ := DataW.trod_struct Tryz.underlying25 h
    have hC : Tryz.prog.cellsOf 25 = 4 := by kernel_rfl
    rw [hC] at hl
    obtain ⟨c0, c1, c2, c3, rfl⟩ := list4 hl
    obtain ⟨y0, y1, y2, y3, rfl⟩ := list4 hlen
    have g0 : DataW.trod enc Tryz.prog W base spare held n 3 (([c0, c1, c2, c3].drop 0).take (Tryz.prog.cellsOf 3)) = some y0 := hf 0 _ rfl
    have g1 : DataW.trod enc Tryz.prog W base spare held n 3 (([c0, c1, c2, c3].drop 1).take (Tryz.prog.cellsOf 3)) = some y1 := hf 1 _ rfl
    have g2 : DataW.trod enc Tryz.prog W base spare held n 22 (([c0, c1, c2, c3].drop 2).take (Tryz.prog.cellsOf 22)) = some y2 := hf 2 _ rfl
    have g3 : DataW.trod enc Tryz.prog W base spare held n 23 (([c0, c1, c2, c3].drop 3).take (Tryz.prog.cellsOf 23)) = some y3 := hf 3 _ rfl
    have s3 : Tryz.prog.cellsOf 3 = 1 := by kernel_rfl
    have sf : Tryz.prog.cellsOf 22 = 1 := by kernel_rfl
    have sg : Tryz.prog.cellsOf 23 = 1 := by kernel_rfl
    simp only [s3, sf, sg, List.drop_zero, List.drop_succ_cons, List.take_succ_cons, List.take_zero] at g0 g1 g2 g3
    obtain ⟨k, e0, _, _⟩ := DataW.trod_int Tryz.underlying3 g0
    obtain ⟨d, e1, _, _⟩ := DataW.trod_int Tryz.underlying3 g1
    obtain ⟨p, nn, cap, e2, hr, hpn⟩ := FRow_of_trod g2
    obtain ⟨f, hfv⟩ := hr.vals
    simp only [List.cons.injEq, and_true] at e0 e1
    rcases DataW.trod_slice Tryz.underlying23 g3 with ⟨e, _⟩ | ⟨a, len, cap3, elems, rest, m, em, e, _, hb, hlc, hcm, hel, hat, _⟩
    · simp only [List.cons.injEq, and_true] at e
      exact ⟨c0, c1, c2, c3, .mk k d nn f [], rfl, p, cap, none, 0, by rw [e0, e1, e2, e]; rfl, hfv, hr.le, hr.most, hpn, Nat.le_refl _, by decide, fun _ => rfl, (fun a ha => by cases ha), fun _ _ => trivial, fun _ _ => trivial⟩
    · simp only [List.cons.injEq, and_true] at e
      obtain ⟨kids, hkl, hkp⟩ := list_of (P := fun i t => ∃ d0 d1 d2 d3, KD (fun _ => True) n W (.agg #[d0, d1, d2, d3]) t ∧ W.cell? (a.add (i * 4)) = some d0 ∧ W.cell? ⟨(a.add (i * 4)).block, (a.add (i * 4)).off + 1, none⟩ = some d1 ∧ W.cell? ⟨(a.add (i * 4)).block, (a.add (i * 4)).off + 2, none⟩ = some d2 ∧ W.cell? ⟨(a.add (i * 4)).block, (a.add (i * 4)).off + 3, none⟩ = some d3) len (fun i hi => by
        have h1 := hat i hi
        rw [hC] at h1
        have hx : ∃ y, elems[i]? = some y := ⟨_, List.getElem?_eq_getElem (by omega)⟩
        obtain ⟨y, hy⟩ := hx
        rw [hy] at h1
        obtain ⟨cs', hc, ht⟩ := Option.bind_eq_some_iff.1 h1
        obtain ⟨d0, d1, d2, d3, t, rfl, hk⟩ := ih m (by omega) cs' y ht
        have hcell := World.cells?_some hc
        obtain ⟨_, hlen', hcell⟩ := hcell
        refine ⟨t, d0, d1, d2, d3, hk.le (by omega), ?_, ?_, ?_, ?_⟩
        · have := hcell 0 (by omega)
          simpa [Addr.add] using this
        · have := hcell 1 (by omega)
          rw [add_add _ 1 (by omega)] at this
          simpa using this
        · have := hcell 2 (by omega)
          rw [add_add _ 2 (by omega)] at this
          simpa using this
        · have := hcell 3 (by omega)
          rw [add_add _ 3 (by omega)] at this
          simpa using this)
      refine ⟨c0, c1, c2, c3, .mk k d nn f kids, rfl, p, cap, some a, cap3, by rw [e0, e1, e2, e, hkl], hfv, hr.le, hr.most, hpn, by omega, hcm, (fun h => by cases h), fun a' ha i t hi => ?_, fun _ _ => trivial, fun _ _ => trivial⟩
      injection ha with ha
      subst ha
      exact hkp i t hi
end
end Go.Proofs.YthcjnadceambgaaGreatDoor
