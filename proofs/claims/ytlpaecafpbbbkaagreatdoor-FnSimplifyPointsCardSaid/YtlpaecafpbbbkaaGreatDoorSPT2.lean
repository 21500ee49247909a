/- Shapes of whole coordinates as trees of plain data, and how they lie in memory. A line of the package: made of a geometry; the places of its row. A place of a row of numbers, of each type of coordinates (printed by genget.py). Plain facts on machine numbers, which the walks of the decimal writer lean on. The shortest decimal of a number: what it comes to does not depend on memory. The digits of a number, written into a row of 32 bytes. The layout of a decimal without an exponent: bytes that depend on the sign, the digits and the places alone. The decimal of a number, shortest, without an exponent: appended bytes that depend on the number alone. ftoa64 at 'f', shortest: the bytes that it appends. A place in GeoJSON: the package's function and the reference write the same bytes. The package's GeoJSON of a line. One string behind the other. Slices of any elements that a call makes by appending: what an append leaves, and what stays as it was. The reference's list in brackets. The package's text of a place and of a sequence. The package's text of a line string. -/
import Derived.Deep.RegionWith
import Derived.Deep.RegionHeld3
import Derived.WalkKit
import Derived.WalkSpells
import Derived.WalkLawsBesides
import Derived.OpenShut
import Derived.Test.YtlpaecafpbbbkaaGreatDoorRows
import Derived.Handy
import Derived.Deep.QuietTactic
import Derived.BigQuiet
import Derived.Lib.ItoaMem
import Derived.Deep.DeepCutAuto
import Derived.Lib.ItoaLen
import Derived.Test.YtlpaecafpbbbkaaGreatDoorProg
import Derived.Test.YtlpaecafpbbbkaaGreatDoorSPT1
namespace Go.Proofs.YtlpaecafpbbbkaaGreatDoor
open Go.Joins Go.ChangeShapes Go.WideShapes Go.RowKit Go.Deep Go.ChangeAt

/-- A shape: its kind, its places, its parts. -/
inductive Shp where
  | mk (k : Int) (pts : List (Int × Int)) (kids : List Shp)

/-- A row of places of whole coordinates. -/
structure PtRow (W : World) (p : Option Addr) (ps : List (Int × Int)) (cap : Nat) : Prop where
  le : ps.length ≤ cap
  most : cap ≤ maxLen
  none_ : p = none → cap = 0
  at_ : ∀ a, p = some a → ∀ i t, ps[i]? = some t → W.cell? (a.add (i * 2)) = some (.int .i64 t.1) ∧ W.cell? ⟨(a.add (i * 2)).block, (a.add (i * 2)).off + 1, none⟩ = some (.int .i64 t.2)
theorem PtRow.mono {W W' : World} {p : Option Addr} {ps : List (Int × Int)} {cap : Nat} (h : PtRow W p ps cap) (g : W.grownBy W' none) : PtRow W' p ps cap :=
  ⟨h.le, h.most, h.none_, fun a ha i t hi => by
    obtain ⟨h0, h1⟩ := h.at_ a ha i t hi
    exact ⟨g.cell h0 (by simp), g.cell h1 (by simp)⟩⟩
theorem PtRow.some_ {W : World} {p : Option Addr} {ps : List (Int × Int)} {cap : Nat} (h : PtRow W p ps cap) (hn : 0 < ps.length) : ∃ a, p = some a := by
  cases p with
  | none => have := h.none_ rfl; have := h.le; omega
  | some a => exact ⟨a, rfl⟩

/-- A shape t in memory, to the depth h. -/
def KS : Nat → World → Value → Shp → Prop
  | 0, _, _, _ => False
  | h + 1, W, v, .mk k pts kids => ∃ p cap q c2, v = .agg #[.int .i64 k, .slice p pts.length cap, .slice q kids.length c2] ∧ PtRow W p pts cap ∧ kids.length ≤ c2 ∧ c2 ≤ maxLen ∧ (q = none → c2 = 0) ∧
      ∀ a, q = some a → ∀ i t, kids[i]? = some t → ∃ c0 c1 c2, KS h W (.agg #[c0, c1, c2]) t ∧ W.cell? (a.add (i * 3)) = some c0 ∧ W.cell? ⟨(a.add (i * 3)).block, (a.add (i * 3)).off + 1, none⟩ = some c1 ∧ W.cell? ⟨(a.add (i * 3)).block, (a.add (i * 3)).off + 2, none⟩ = some c2
theorem KS.mono {W W' : World} (hg : W.grownBy W' none) : ∀ {h : Nat} {v : Value} {t : Shp}, KS h W v t → KS h W' v t
  | 0, _, _, h => h.elim
  | _ + 1, _, .mk _ _ _, ⟨p, cap, q, c2, e, f, h1, h2, h3, h4⟩ => ⟨p, cap, q, c2, e, f.mono hg, h1, h2, h3, fun a ha i t hi => by
      obtain ⟨c0, c1, c2, k0, k1, k2, k3⟩ := h4 a ha i t hi
      exact ⟨c0, c1, c2, KS.mono hg k0, hg.cell k1 (by simp), hg.cell k2 (by simp), hg.cell k3 (by simp)⟩⟩
theorem KS.up : ∀ {h : Nat} {W : World} {v : Value} {t : Shp}, KS h W v t → KS (h + 1) W v t
  | 0, _, _, _, h => h.elim
  | _ + 1, _, _, .mk _ _ _, ⟨p, cap, q, c2, e, f, h1, h2, h3, h4⟩ => ⟨p, cap, q, c2, e, f, h1, h2, h3, fun a ha i t hi => by
      obtain ⟨c0, c1, c2, k0, k1, k2, k3⟩ := h4 a ha i t hi
      exact ⟨c0, c1, c2, KS.up k0, k1, k2, k3⟩⟩
theorem KS.le {h h' : Nat} (hh : h ≤ h') {W : World} {v : Value} {t : Shp} (k : KS h W v t) : KS h' W v t := by
  induction hh with
  | refl => exact k
  | step _ ih => exact ih.up
theorem KS.form {W : World} : ∀ {h : Nat} {v : Value} {t : Shp}, KS h W v t → ∃ k pts kids p cap q c2, t = .mk k pts kids ∧ v = .agg #[.int .i64 k, .slice p pts.length cap, .slice q kids.length c2]
  | 0, _, _, h => by cases h
  | _ + 1, _, .mk k pts kids, ⟨p, cap, q, c2, e, _⟩ => ⟨k, pts, kids, p, cap, q, c2, rfl, e⟩
theorem KS.form3 {W : World} {h : Nat} {c0 c1 c2 : Value} {t : Shp} (hk : KS h W (.agg #[c0, c1, c2]) t) : ∃ k pts kids p cap q c, t = .mk k pts kids ∧ c0 = .int .i64 k ∧ c1 = .slice p pts.length cap ∧ c2 = .slice q kids.length c := by
  obtain ⟨k, pts, kids, p, cap, q, c, rfl, e⟩ := hk.form
  simp only [Value.agg.injEq, Array.mk.injEq, List.cons.injEq, and_true] at e
  exact ⟨k, pts, kids, p, cap, q, c, rfl, e⟩
theorem list3 {α : Type} {cs : List α} (h : cs.length = 3) : ∃ c0 c1 c2, cs = [c0, c1, c2] := by
  match cs, h with
  | [c0, c1, c2], _ => exact ⟨c0, c1, c2, rfl⟩
theorem list2 {α : Type} {cs : List α} (h : cs.length = 2) : ∃ c0 c1, cs = [c0, c1] := by
  match cs, h with
  | [c0, c1], _ => exact ⟨c0, c1, rfl⟩

section
variable {H : Type} {enc : TypeId × Value → H} {W : World} {base : Nat} {spare : Nat → Bool} {held : Bool}
set_option maxRecDepth 100000 in
theorem Pt_of_trod {fuel : Nat} {cs : List Value} {x : DataW H × List MemPlace} (h : DataW.trod enc Tryz.prog W base spare held fuel 80 cs = some x) : ∃ u : Int × Int, cs = [.int .i64 u.1, .int .i64 u.2] := by
  obtain ⟨xs, n, rfl, rfl, hl, hlen, hf⟩ := DataW.trod_struct Tryz.underlying80 h
  have hC : Tryz.prog.cellsOf 80 = 2 := by kernel_rfl
  rw [hC] at hl
  obtain ⟨c0, c1, rfl⟩ := list2 hl
  obtain ⟨y0, y1, rfl⟩ := list2 hlen
  have g0 : DataW.trod enc Tryz.prog W base spare held n 3 (([c0, c1].drop 0).take (Tryz.prog.cellsOf 3)) = some y0 := hf 0 _ rfl
  have g1 : DataW.trod enc Tryz.prog W base spare held n 3 (([c0, c1].drop 1).take (Tryz.prog.cellsOf 3)) = some y1 := hf 1 _ rfl
  have s3 : Tryz.prog.cellsOf 3 = 1 := by kernel_rfl
  simp only [s3, List.drop_zero, List.drop_succ_cons, List.take_succ_cons, List.take_zero] at g0 g1
  obtain ⟨k, e0, _, _⟩ := DataW.trod_int Tryz.underlying3 g0
  obtain ⟨d, e1, _, _⟩ := DataW.trod_int Tryz.underlying3 g1
  simp only [List.cons.injEq, and_true] at e0 e1
  exact ⟨(k, d), by rw [e0, e1]⟩
theorem PtRow_of_trod {fuel : Nat} {c : Value} {x : DataW H × List MemPlace} (h : DataW.trod enc Tryz.prog W base spare held fuel 22 [c] = some x) : ∃ p ps cap, c = .slice p ps.length cap ∧ PtRow W p ps cap := by
  rcases DataW.trod_slice Tryz.underlying22 h with ⟨e, _⟩ | ⟨a, len, cap, elems, rest, n, _, e, _, hb, hlc, hcm, hel, hat, _⟩
  · simp only [List.cons.injEq, and_true] at e
    exact ⟨none, [], 0, e, ⟨Nat.le_refl _, by decide, fun _ => rfl, fun a ha => by cases ha⟩⟩
  · simp only [List.cons.injEq, and_true] at e
    obtain ⟨ps, hpl, hpp⟩ := list_of (P := fun i (t : Int × Int) => W.cell? (a.add (i * 2)) = some (.int .i64 t.1) ∧ W.cell? ⟨(a.add (i * 2)).block, (a.add (i * 2)).off + 1, none⟩ = some (.int .i64 t.2)) len (fun i hi => by
      have h1 := hat i hi
      rw [show Tryz.prog.cellsOf 80 = 2 by kernel_rfl] at h1
      have hx : ∃ y, elems[i]? = some y := ⟨_, List.getElem?_eq_getElem (by omega)⟩
      obtain ⟨y, hy⟩ := hx
      rw [hy] at h1
      obtain ⟨cs, hc, ht⟩ := Option.bind_eq_some_iff.1 h1
      obtain ⟨u, rfl⟩ := Pt_of_trod ht
      obtain ⟨_, hlen', hcell⟩ := World.cells?_some hc
      refine ⟨u, ?_, ?_⟩
      · have := hcell 0 (by omega)
        simpa [Addr.add] using this
      · have := hcell 1 (by omega)
        rw [add_add _ 1 (by omega)] at this
        simpa using this)
    refine ⟨some a, ps, cap, by rw [hpl]; exact e, ⟨by omega, hcm, fun h => (by cases h), fun a' ha i t hi => ?_⟩⟩
    injection ha with ha
    subst ha
    exact hpp i t hi
set_option maxRecDepth 100000 in
theorem KS_of_trod : ∀ (fuel : Nat) (cs : List Value) (x : DataW H × List MemPlace), DataW.trod enc Tryz.prog W base spare held fuel 25 cs = some x →
    ∃ c0 c1 c2 t, cs = [c0, c1, c2] ∧ KS fuel W (.agg #[c0, c1, c2]) t := by
  intro fuel
  induction fuel using Nat.strongRecOn with
  | ind fuel ih =>
    intro cs x h
    obtain ⟨xs, n, rfl, rfl, hl, hlen, hf⟩ := DataW.trod_struct Tryz.underlying25 h
    have hC : Tryz.prog.cellsOf 25 = 3 := by kernel_rfl
    rw [hC] at hl
    obtain ⟨c0, c1, c2, rfl⟩ := list3 hl
    obtain ⟨y0, y1, y2, rfl⟩ := list3 hlen
    have g0 : DataW.trod enc Tryz.prog W base spare held n 3 (([c0, c1, c2].drop 0).take (Tryz.prog.cellsOf 3)) = some y0 := hf 0 _ rfl
    have g1 : DataW.trod enc Tryz.prog W base spare held n 22 (([c0, c1, c2].drop 1).take (Tryz.prog.cellsOf 22)) = some y1 := hf 1 _ rfl
    have g2 : DataW.trod enc Tryz.prog W base spare held n 23 (([c0, c1, c2].drop 2).take (Tryz.prog.cellsOf 23)) = some y2 := hf 2 _ rfl
    have s3 : Tryz.prog.cellsOf 3 = 1 := by kernel_rfl
    have sf : Tryz.prog.cellsOf 22 = 1 := by kernel_rfl
    have sg : Tryz.prog.cellsOf 23 = 1 := by kernel_rfl
    simp only [s3, sf, sg, List.drop_zero, List.drop_succ_cons, List.take_succ_cons, List.take_zero] at g0 g1 g2
    obtain ⟨k, e0, _, _⟩ := DataW.trod_int Tryz.underlying3 g0
    obtain ⟨p, ps, cap, e1, hr⟩ := PtRow_of_trod g1
    simp only [List.cons.injEq, and_true] at e0
    rcases DataW.trod_slice Tryz.underlying23 g2 with ⟨e, _⟩ | ⟨a, len, cap3, elems, rest, m, em, e, _, hb, hlc, hcm, hel, hat, _⟩
    · simp only [List.cons.injEq, and_true] at e
      exact ⟨c0, c1, c2, .mk k ps [], rfl, p, cap, none, 0, by rw [e0, e1, e]; rfl, hr, Nat.le_refl _, by decide, fun _ => rfl, (fun a ha => by cases ha)⟩
    · simp only [List.cons.injEq, and_true] at e
      obtain ⟨kids, hkl, hkp⟩ := list_of (P := fun i t => ∃ d0 d1 d2, KS n W (.agg #[d0, d1, d2]) t ∧ W.cell? (a.add (i * 3)) = some d0 ∧ W.cell? ⟨(a.add (i * 3)).block, (a.add (i * 3)).off + 1, none⟩ = some d1 ∧ W.cell? ⟨(a.add (i * 3)).block, (a.add (i * 3)).off + 2, none⟩ = some d2) len (fun i hi => by
        have h1 := hat i hi
        rw [hC] at h1
        have hx : ∃ y, elems[i]? = some y := ⟨_, List.getElem?_eq_getElem (by omega)⟩
        obtain ⟨y, hy⟩ := hx
        rw [hy] at h1
        obtain ⟨cs', hc, ht⟩ := Option.bind_eq_some_iff.1 h1
        obtain ⟨d0, d1, d2, t, rfl, hk⟩ := ih m (by omega) cs' y ht
        obtain ⟨_, hlen', hcell⟩ := World.cells?_some hc
        refine ⟨t, d0, d1, d2, hk.le (by omega), ?_, ?_, ?_⟩
        · have := hcell 0 (by omega)
          simpa [Addr.add] using this
        · have := hcell 1 (by omega)
          rw [add_add _ 1 (by omega)] at this
          simpa using this
        · have := hcell 2 (by omega)
          rw [add_add _ 2 (by omega)] at this
          simpa using this)
      refine ⟨c0, c1, c2, .mk k ps kids, rfl, p, cap, some a, cap3, by rw [e0, e1, e, hkl], hr, by omega, hcm, (fun h => by cases h), fun a' ha i t hi => ?_⟩
      injection ha with ha
      subst ha
      exact hkp i t hi
end
end Go.Proofs.YtlpaecafpbbbkaaGreatDoor
namespace Go.Proofs.YtlpaecafpbbbkaaGreatDoor
open Go.RowKit

set_option maxRecDepth 100000 in
set_option maxHeartbeats 400000 in
theorem NewLineString_any (x y : Value) (hx : ∃ k n, x = .int k n) (hy : ∃ p n c, y = .slice p n c) (w : World) :
    Calls Tryz.prog 107 #[.agg #[x, y]] w fun e w' => e = .returned (.agg #[x, y]) ∧ w.grownBy w' none := by
  obtain ⟨k, n, rfl⟩ := hx
  obtain ⟨p, n, c, rfl⟩ := hy
  go_enter Tryz.func107, Tryz.ntmps107
  go_wp2_with fail
  go_returns
  exact ⟨rfl, gt_alloc_r (World.grownBy_alloc _ _ _) _⟩

/-- A value that holds a row of numbers of a type, n of them, as in f. -/
def SeqIs (W : World) (v : Value) (r n : Nat) (f : Nat → Nat) : Prop := ∃ a, v = .agg #[.int .u8 r, .slice (some a) n n] ∧ FVal W (some a) n f ∧ a.block < W.heap.size
theorem SeqIs.mono {W W' : World} {v : Value} {r n : Nat} {f : Nat → Nat} (h : SeqIs W v r n f) (hg : W.grownBy W' none) : SeqIs W' v r n f := by
  obtain ⟨a, e, hf, hb⟩ := h; exact ⟨a, e, hf.mono hg, Nat.lt_of_lt_of_le hb hg.size⟩

set_option maxRecDepth 100000 in
set_option maxHeartbeats 1000000 in
theorem line_any (d : Int) (r : Nat) (hr : d % 4 = r) (p q : Option Addr) (n cap m c2 : Nat) (f : Nat → Nat) (hn : n ≤ 2000) (W : World) (hf : FVal W p n f) :
    Calls Tryz.prog 50 #[.agg #[.int .i64 2, .int .i64 d, .slice p n cap, .slice q m c2]] W fun e w' => ∃ v, e = .returned v ∧ SeqIs w' v r (n - n % widN r) f ∧ W.grownBy w' none := by
  have HS := Lib.hid (fun w (g : W.grownBy w none) => sequence_any d r hr p n cap f hn w (hf.mono g))
  generalize n - n % widN r = N at HS ⊢
  clear hr hf
  have HG := Lib.hid (gt_alloc_r (World.grownBy_alloc W (.cells #[.int .i64 2, .int .i64 d, .slice p n cap, .slice q m c2] 33) none) (.cells #[.int .u8 0, .slice none 0 0] 93))
  have HC : Hid (∀ w, ((W.alloc (.cells #[.int .i64 2, .int .i64 d, .slice p n cap, .slice q m c2] 33)).alloc (.cells #[.int .u8 0, .slice none 0 0] 93)).grownBy w none → w.cell? ⟨W.heap.size + 1, 0, none⟩ = some (.int .u8 0) ∧ w.cell? ⟨W.heap.size + 1, 1, none⟩ = some (.slice none 0 0) ∧ w.frozen? ⟨W.heap.size + 1, 0, none⟩ = false ∧ w.frozen? ⟨W.heap.size + 1, 1, none⟩ = false) := fun w g => by
    have hb := g.block (W.heap.size + 1) (by simp) (by simp)
    refine ⟨g.cell (by simp) (by simp), g.cell (by simp) (by simp), ?_, ?_⟩ <;> (rw [World.frozen?_of_block hb]; simp)
  go_enter Tryz.func50, Tryz.ntmps50
  go_wp2_with (first
    | (go_at_call 101; refine (HS.out _ HG.out).mono ?_; rintro e w' ⟨a, rfl, hv, ha, hbl, hg1⟩)
    | (go_at_call 107; refine (NewLineString_any _ _ ⟨_, _, rfl⟩ ⟨_, _, _, rfl⟩ _).mono ?_; rintro e w'' ⟨rfl, hg2⟩; obtain ⟨x0, x1, x2, x3⟩ := HC.out _ (gt_trans hg1 hg2 (.inl rfl))))
  have ha' : W.heap.size + 2 ≤ a.block := by simpa using ha
  have hgr := gt_set_r (gt_set_r (gt_trans (gt_trans HG.out hg1 (.inl rfl)) hg2 (.inl rfl)) ⟨W.heap.size + 1, 0, none⟩ (.int .u8 r) (Nat.le_succ _)) ⟨W.heap.size + 1, 1, none⟩ (.slice (some a) N N) (Nat.le_succ _)
  have hv2 := ((hv.mono hg2).set (q := ⟨W.heap.size + 1, 0, none⟩) (by show a.block ≠ W.heap.size + 1; omega) (.int .u8 r)).set (q := ⟨W.heap.size + 1, 1, none⟩) (by show a.block ≠ W.heap.size + 1; omega) (.slice (some a) N N)
  have z0 := World.cell?_setCell_same (w := w'') (v := .int .u8 r) (h := x0)
  have z1 : (w''.setCell ⟨W.heap.size + 1, 0, none⟩ (.int .u8 r)).cell? ⟨W.heap.size + 1, 1, none⟩ = some (.slice none 0 0) := (World.cell?_setCell_other (w := w'') (a := ⟨W.heap.size + 1, 0, none⟩) (b := ⟨W.heap.size + 1, 1, none⟩) (v := .int .u8 r) (h := by simp)).trans x1
  have z2 := World.cell?_setCell_same (v := .slice (some a) N N) (h := z1)
  have hbl2 : a.block < ((w''.setCell ⟨W.heap.size + 1, 0, none⟩ (.int .u8 r)).setCell ⟨W.heap.size + 1, 1, none⟩ (.slice (some a) N N)).heap.size := by
    have h2 := hg2.size
    simp [World.setCell]
    omega
  clear hv ha hg1 hg2
  refine bodyPost_ret (by simp [results, Tryz.results50, go_sem, z0, z2]; try rfl) rfl ?_
  exact ⟨_, rfl, ⟨a, rfl, hv2, hbl2⟩, hgr⟩

set_option maxRecDepth 100000 in
set_option maxHeartbeats 400000 in
theorem Length_any (r N : Nat) (hr : r < 4) (a : Option Addr) (c : Nat) (hN : N ≤ 2000) (W : World) : Calls Tryz.prog 102 #[.agg #[.int .u8 r, .slice a N c]] W fun e w' => e = .returned (.int .i64 (N / widN r : Nat)) ∧ W.grownBy w' none := by
  obtain ⟨k, hk, hk2, hk4⟩ : ∃ k : Nat, k = widN r ∧ 2 ≤ k ∧ k ≤ 4 := ⟨widN r, rfl, by unfold widN; omega, by unfold widN; omega⟩
  have HD := Lib.hid (fun w => Dimension_any r hr w)
  rw [← hk] at HD ⊢
  clear hk
  obtain ⟨L, hL⟩ : ∃ L : Nat, L = N / k := ⟨_, rfl⟩
  have hk0 : ¬ k = 0 := by omega
  have hwr : IntKind.i64.wrap ((N : Int) / (k : Int)) = (L : Int) := by
    have e : (N : Int) / (k : Int) = (L : Int) := by rw [hL]; push_cast; rfl
    have hle : L ≤ N := by rw [hL]; exact Nat.div_le_self _ _
    rw [e, IntKind.wrap_i64]; omega
  rw [← hL]
  clear hL
  go_enter Tryz.func102, Tryz.ntmps102
  go_wp2_with fail
  go_quiet ((go_at_call 168; exact Calls.quiet_of_same ((HD.out _).mono fun e w' h => h)))
  go_wp2_with fail
  go_ret
  exact ⟨rfl, gt_drewN_r (World.grownBy_alloc _ _ _) _⟩

end Go.Proofs.YtlpaecafpbbbkaaGreatDoor
namespace Go.Proofs.YtlpaecafpbbbkaaGreatDoor
open Go.RowKit

set_option maxRecDepth 100000 in
set_option maxHeartbeats 2000000 in
theorem Get_0 (n i : Nat) (a : Addr) (f : Nat → Nat) (hn : n ≤ 2000) (hi : i * 2 + 1 < n) (W : World) (hf : FVal W (some a) n f) :
    Calls Tryz.prog 106 #[.agg #[.int .u8 0, .slice (some a) n n], .int .i64 i] W fun e w' => e = .returned (.agg #[.float .f64 (f (i * 2)), .float .f64 (f (i * 2 + 1)), .float .f64 0, .float .f64 0, .int .u8 0]) ∧ W.grownBy w' none := by
  have HD := Lib.hid (fun w => Dimension_lit 0 2 (.inl ⟨rfl, rfl⟩) w)
  obtain ⟨j1, e1⟩ : ∃ j1, j1 = i * 2 + 1 := ⟨_, rfl⟩
  rw [← e1] at hi ⊢
  obtain ⟨j0, e0⟩ : ∃ j0, j0 = i * 2 := ⟨_, rfl⟩
  rw [← e0] at e1 ⊢
  have q0 := hf.at_ a rfl j0 (by omega)
  have q1 := hf.at_ a rfl j1 (by omega)
  have hw0 : IntKind.i64.wrap ((i : Int) * 2) = (j0 : Int) := by rw [IntKind.wrap_i64]; omega
  have hw1 : IntKind.i64.wrap ((j0 : Int) + 1) = (j1 : Int) := by rw [IntKind.wrap_i64]; omega
  have b00 : (0 : Int) ≤ (j0 : Int) := by omega
  have b01 : (j0 : Int) < (n : Int) := by omega
  have b10 : (0 : Int) ≤ (j1 : Int) := by omega
  have b11 : (j1 : Int) < (n : Int) := by omega
  clear e0 e1
  have hsf := run_store_flt Tryz.prog
  have HS : Hid (∀ w', ((W.alloc (.cells #[.int .u8 0, .slice (some a) n n] 91)).alloc (.cells #[.float .f64 0, .float .f64 0, .float .f64 0, .float .f64 0, .int .u8 0] 85)).grownBy w' none → w'.cell? ⟨W.heap.size, 0, none⟩ = some (.int .u8 0) ∧ w'.cell? ⟨W.heap.size, 1, none⟩ = some (.slice (some a) n n) ∧ w'.cell? (a.add j0) = some (.float .f64 (f j0)) ∧ w'.cell? (a.add j1) = some (.float .f64 (f j1))) := fun w' g => by
    have g0 := gt_trans (gt_alloc_r (World.grownBy_alloc W _ none) _) g (.inl rfl)
    exact ⟨g.cell (by simp) (by simp), g.cell (by simp) (by simp), g0.cell q0 (by simp), g0.cell q1 (by simp)⟩
  go_enter Tryz.func106, Tryz.ntmps106
  go_wp2_with (go_at_call 168; refine (HD.out _).mono ?_; rintro e w' ⟨rfl, rfl⟩)
  go_region_held3 (fun w' => w'.cell? ⟨W.heap.size, 0, none⟩ = some (.int .u8 0) ∧ w'.cell? ⟨W.heap.size, 1, none⟩ = some (.slice (some a) n n) ∧ w'.cell? (a.add j0) = some (.float .f64 (f j0)) ∧ w'.cell? (a.add j1) = some (.float .f64 (f j1))) (first | exact HS.out _ (gt_below (by go_grown) none))
    (first | (fail))
  rename_i hHeld
  obtain ⟨h0, h1, p0, p1⟩ := hHeld
  clear q0 q1
  go_wp2_with fail
  go_returns
  exact ⟨rfl, gt_below (by go_grown) none⟩

set_option maxRecDepth 100000 in
set_option maxHeartbeats 2000000 in
theorem Get_1 (n i : Nat) (a : Addr) (f : Nat → Nat) (hn : n ≤ 2000) (hi : i * 3 + 2 < n) (W : World) (hf : FVal W (some a) n f) :
    Calls Tryz.prog 106 #[.agg #[.int .u8 1, .slice (some a) n n], .int .i64 i] W fun e w' => e = .returned (.agg #[.float .f64 (f (i * 3)), .float .f64 (f (i * 3 + 1)), .float .f64 (f (i * 3 + 2)), .float .f64 0, .int .u8 1]) ∧ W.grownBy w' none := by
  have HD := Lib.hid (fun w => Dimension_lit 1 3 (.inr (.inl ⟨rfl, rfl⟩)) w)
  obtain ⟨j2, e2⟩ : ∃ j2, j2 = i * 3 + 2 := ⟨_, rfl⟩
  rw [← e2] at hi ⊢
  obtain ⟨j1, e1⟩ : ∃ j1, j1 = i * 3 + 1 := ⟨_, rfl⟩
  rw [← e1]
  obtain ⟨j0, e0⟩ : ∃ j0, j0 = i * 3 := ⟨_, rfl⟩
  rw [← e0] at e1 e2 ⊢
  have q0 := hf.at_ a rfl j0 (by omega)
  have q1 := hf.at_ a rfl j1 (by omega)
  have q2 := hf.at_ a rfl j2 (by omega)
  have hw0 : IntKind.i64.wrap ((i : Int) * 3) = (j0 : Int) := by rw [IntKind.wrap_i64]; omega
  have hw1 : IntKind.i64.wrap ((j0 : Int) + 1) = (j1 : Int) := by rw [IntKind.wrap_i64]; omega
  have hw2 : IntKind.i64.wrap ((j0 : Int) + 2) = (j2 : Int) := by rw [IntKind.wrap_i64]; omega
  have b00 : (0 : Int) ≤ (j0 : Int) := by omega
  have b01 : (j0 : Int) < (n : Int) := by omega
  have b10 : (0 : Int) ≤ (j1 : Int) := by omega
  have b11 : (j1 : Int) < (n : Int) := by omega
  have b20 : (0 : Int) ≤ (j2 : Int) := by omega
  have b21 : (j2 : Int) < (n : Int) := by omega
  clear e0 e1 e2
  have hsf := run_store_flt Tryz.prog
  have HS : Hid (∀ w', ((W.alloc (.cells #[.int .u8 1, .slice (some a) n n] 91)).alloc (.cells #[.float .f64 0, .float .f64 0, .float .f64 0, .float .f64 0, .int .u8 0] 85)).grownBy w' none → w'.cell? ⟨W.heap.size, 0, none⟩ = some (.int .u8 1) ∧ w'.cell? ⟨W.heap.size, 1, none⟩ = some (.slice (some a) n n) ∧ w'.cell? (a.add j0) = some (.float .f64 (f j0)) ∧ w'.cell? (a.add j1) = some (.float .f64 (f j1)) ∧ w'.cell? (a.add j2) = some (.float .f64 (f j2))) := fun w' g => by
    have g0 := gt_trans (gt_alloc_r (World.grownBy_alloc W _ none) _) g (.inl rfl)
    exact ⟨g.cell (by simp) (by simp), g.cell (by simp) (by simp), g0.cell q0 (by simp), g0.cell q1 (by simp), g0.cell q2 (by simp)⟩
  go_enter Tryz.func106, Tryz.ntmps106
  go_wp2_with (go_at_call 168; refine (HD.out _).mono ?_; rintro e w' ⟨rfl, rfl⟩)
  go_region_held3 (fun w' => w'.cell? ⟨W.heap.size, 0, none⟩ = some (.int .u8 1) ∧ w'.cell? ⟨W.heap.size, 1, none⟩ = some (.slice (some a) n n) ∧ w'.cell? (a.add j0) = some (.float .f64 (f j0)) ∧ w'.cell? (a.add j1) = some (.float .f64 (f j1)) ∧ w'.cell? (a.add j2) = some (.float .f64 (f j2))) (first | exact HS.out _ (gt_below (by go_grown) none))
    (first | (fail))
  rename_i hHeld
  obtain ⟨h0, h1, p0, p1, p2⟩ := hHeld
  clear q0 q1 q2
  go_wp2_with fail
  go_returns
  exact ⟨rfl, gt_below (by go_grown) none⟩

set_option maxRecDepth 100000 in
set_option maxHeartbeats 2000000 in
theorem Get_2 (n i : Nat) (a : Addr) (f : Nat → Nat) (hn : n ≤ 2000) (hi : i * 3 + 2 < n) (W : World) (hf : FVal W (some a) n f) :
    Calls Tryz.prog 106 #[.agg #[.int .u8 2, .slice (some a) n n], .int .i64 i] W fun e w' => e = .returned (.agg #[.float .f64 (f (i * 3)), .float .f64 (f (i * 3 + 1)), .float .f64 0, .float .f64 (f (i * 3 + 2)), .int .u8 2]) ∧ W.grownBy w' none := by
  have HD := Lib.hid (fun w => Dimension_lit 2 3 (.inr (.inr (.inl ⟨rfl, rfl⟩))) w)
  obtain ⟨j2, e2⟩ : ∃ j2, j2 = i * 3 + 2 := ⟨_, rfl⟩
  rw [← e2] at hi ⊢
  obtain ⟨j1, e1⟩ : ∃ j1, j1 = i * 3 + 1 := ⟨_, rfl⟩
  rw [← e1]
  obtain ⟨j0, e0⟩ : ∃ j0, j0 = i * 3 := ⟨_, rfl⟩
  rw [← e0] at e1 e2 ⊢
  have q0 := hf.at_ a rfl j0 (by omega)
  have q1 := hf.at_ a rfl j1 (by omega)
  have q2 := hf.at_ a rfl j2 (by omega)
  have hw0 : IntKind.i64.wrap ((i : Int) * 3) = (j0 : Int) := by rw [IntKind.wrap_i64]; omega
  have hw1 : IntKind.i64.wrap ((j0 : Int) + 1) = (j1 : Int) := by rw [IntKind.wrap_i64]; omega
  have hw2 : IntKind.i64.wrap ((j0 : Int) + 2) = (j2 : Int) := by rw [IntKind.wrap_i64]; omega
  have b00 : (0 : Int) ≤ (j0 : Int) := by omega
  have b01 : (j0 : Int) < (n : Int) := by omega
  have b10 : (0 : Int) ≤ (j1 : Int) := by omega
  have b11 : (j1 : Int) < (n : Int) := by omega
  have b20 : (0 : Int) ≤ (j2 : Int) := by omega
  have b21 : (j2 : Int) < (n : Int) := by omega
  clear e0 e1 e2
  have hsf := run_store_flt Tryz.prog
  have HS : Hid (∀ w', ((W.alloc (.cells #[.int .u8 2, .slice (some a) n n] 91)).alloc (.cells #[.float .f64 0, .float .f64 0, .float .f64 0, .float .f64 0, .int .u8 0] 85)).grownBy w' none → w'.cell? ⟨W.heap.size, 0, none⟩ = some (.int .u8 2) ∧ w'.cell? ⟨W.heap.size, 1, none⟩ = some (.slice (some a) n n) ∧ w'.cell? (a.add j0) = some (.float .f64 (f j0)) ∧ w'.cell? (a.add j1) = some (.float .f64 (f j1)) ∧ w'.cell? (a.add j2) = some (.float .f64 (f j2))) := fun w' g => by
    have g0 := gt_trans (gt_alloc_r (World.grownBy_alloc W _ none) _) g (.inl rfl)
    exact ⟨g.cell (by simp) (by simp), g.cell (by simp) (by simp), g0.cell q0 (by simp), g0.cell q1 (by simp), g0.cell q2 (by simp)⟩
  go_enter Tryz.func106, Tryz.ntmps106
  go_wp2_with (go_at_call 168; refine (HD.out _).mono ?_; rintro e w' ⟨rfl, rfl⟩)
  go_region_held3 (fun w' => w'.cell? ⟨W.heap.size, 0, none⟩ = some (.int .u8 2) ∧ w'.cell? ⟨W.heap.size, 1, none⟩ = some (.slice (some a) n n) ∧ w'.cell? (a.add j0) = some (.float .f64 (f j0)) ∧ w'.cell? (a.add j1) = some (.float .f64 (f j1)) ∧ w'.cell? (a.add j2) = some (.float .f64 (f j2))) (first | exact HS.out _ (gt_below (by go_grown) none))
    (first | (fail))
  rename_i hHeld
  obtain ⟨h0, h1, p0, p1, p2⟩ := hHeld
  clear q0 q1 q2
  go_wp2_with fail
  go_returns
  exact ⟨rfl, gt_below (by go_grown) none⟩

set_option maxRecDepth 100000 in
set_option maxHeartbeats 2000000 in
theorem Get_3 (n i : Nat) (a : Addr) (f : Nat → Nat) (hn : n ≤ 2000) (hi : i * 4 + 3 < n) (W : World) (hf : FVal W (some a) n f) :
    Calls Tryz.prog 106 #[.agg #[.int .u8 3, .slice (some a) n n], .int .i64 i] W fun e w' => e = .returned (.agg #[.float .f64 (f (i * 4)), .float .f64 (f (i * 4 + 1)), .float .f64 (f (i * 4 + 2)), .float .f64 (f (i * 4 + 3)), .int .u8 3]) ∧ W.grownBy w' none := by
  have HD := Lib.hid (fun w => Dimension_lit 3 4 (.inr (.inr (.inr ⟨rfl, rfl⟩))) w)
  obtain ⟨j3, e3⟩ : ∃ j3, j3 = i * 4 + 3 := ⟨_, rfl⟩
  rw [← e3] at hi ⊢
  obtain ⟨j2, e2⟩ : ∃ j2, j2 = i * 4 + 2 := ⟨_, rfl⟩
  rw [← e2]
  obtain ⟨j1, e1⟩ : ∃ j1, j1 = i * 4 + 1 := ⟨_, rfl⟩
  rw [← e1]
  obtain ⟨j0, e0⟩ : ∃ j0, j0 = i * 4 := ⟨_, rfl⟩
  rw [← e0] at e1 e2 e3 ⊢
  have q0 := hf.at_ a rfl j0 (by omega)
  have q1 := hf.at_ a rfl j1 (by omega)
  have q2 := hf.at_ a rfl j2 (by omega)
  have q3 := hf.at_ a rfl j3 (by omega)
  have hw0 : IntKind.i64.wrap ((i : Int) * 4) = (j0 : Int) := by rw [IntKind.wrap_i64]; omega
  have hw1 : IntKind.i64.wrap ((j0 : Int) + 1) = (j1 : Int) := by rw [IntKind.wrap_i64]; omega
  have hw2 : IntKind.i64.wrap ((j0 : Int) + 2) = (j2 : Int) := by rw [IntKind.wrap_i64]; omega
  have hw3 : IntKind.i64.wrap ((j0 : Int) + 3) = (j3 : Int) := by rw [IntKind.wrap_i64]; omega
  have b00 : (0 : Int) ≤ (j0 : Int) := by omega
  have b01 : (j0 : Int) < (n : Int) := by omega
  have b10 : (0 : Int) ≤ (j1 : Int) := by omega
  have b11 : (j1 : Int) < (n : Int) := by omega
  have b20 : (0 : Int) ≤ (j2 : Int) := by omega
  have b21 : (j2 : Int) < (n : Int) := by omega
  have b30 : (0 : Int) ≤ (j3 : Int) := by omega
  have b31 : (j3 : Int) < (n : Int) := by omega
  clear e0 e1 e2 e3
  have hsf := run_store_flt Tryz.prog
  have HS : Hid (∀ w', ((W.alloc (.cells #[.int .u8 3, .slice (some a) n n] 91)).alloc (.cells #[.float .f64 0, .float .f64 0, .float .f64 0, .float .f64 0, .int .u8 0] 85)).grownBy w' none → w'.cell? ⟨W.heap.size, 0, none⟩ = some (.int .u8 3) ∧ w'.cell? ⟨W.heap.size, 1, none⟩ = some (.slice (some a) n n) ∧ w'.cell? (a.add j0) = some (.float .f64 (f j0)) ∧ w'.cell? (a.add j1) = some (.float .f64 (f j1)) ∧ w'.cell? (a.add j2) = some (.float .f64 (f j2)) ∧ w'.cell? (a.add j3) = some (.float .f64 (f j3))) := fun w' g => by
    have g0 := gt_trans (gt_alloc_r (World.grownBy_alloc W _ none) _) g (.inl rfl)
    exact ⟨g.cell (by simp) (by simp), g.cell (by simp) (by simp), g0.cell q0 (by simp), g0.cell q1 (by simp), g0.cell q2 (by simp), g0.cell q3 (by simp)⟩
  go_enter Tryz.func106, Tryz.ntmps106
  go_wp2_with (go_at_call 168; refine (HD.out _).mono ?_; rintro e w' ⟨rfl, rfl⟩)
  go_region_held3 (fun w' => w'.cell? ⟨W.heap.size, 0, none⟩ = some (.int .u8 3) ∧ w'.cell? ⟨W.heap.size, 1, none⟩ = some (.slice (some a) n n) ∧ w'.cell? (a.add j0) = some (.float .f64 (f j0)) ∧ w'.cell? (a.add j1) = some (.float .f64 (f j1)) ∧ w'.cell? (a.add j2) = some (.float .f64 (f j2)) ∧ w'.cell? (a.add j3) = some (.float .f64 (f j3))) (first | exact HS.out _ (gt_below (by go_grown) none))
    (first | (fail))
  rename_i hHeld
  obtain ⟨h0, h1, p0, p1, p2, p3⟩ := hHeld
  clear q0 q1 q2 q3
  have pa3 : ∀ O : Obj, ((((W.alloc (.cells #[.int .u8 3, .slice (some a) n n] 91)).alloc (.cells #[.float .f64 0, .float .f64 0, .float .f64 0, .float .f64 0, .int .u8 0] 85)).alloc O).drew).cell? (a.add j3) = some (.float .f64 (f j3)) := fun O => (HS.out _ (gt_below (by go_grown) none)).2.2.2.2.2
  go_wp2_with fail
  go_returns
  exact ⟨rfl, gt_below (by go_grown) none⟩


end Go.Proofs.YtlpaecafpbbbkaaGreatDoor
namespace Go.Proofs.YtlpaecafpbbbkaaGreatDoor
open Go.RowKit

theorem i64_and63 (n : Int) : bits .and .i64 n 63 = n % 64 := by
  have h127 : (BitVec.ofInt 64 63).toNat = 2 ^ 6 - 1 := by decide
  have key : (BitVec.ofInt 64 n &&& BitVec.ofInt 64 63).toNat = (n % ((2 ^ 64 : Nat) : Int)).toNat % 2 ^ 6 := by
    rw [BitVec.toNat_and, BitVec.toNat_ofInt, h127, Nat.and_two_pow_sub_one_eq_mod]
  show IntKind.i64.wrap ((BitVec.ofInt 64 n &&& BitVec.ofInt 64 63).toNat : Nat) = n % 64
  rw [key, IntKind.wrap_i64]
  omega

theorem i64_and1 (n : Int) : bits .and .i64 n 1 = n % 2 := by
  have h127 : (BitVec.ofInt 64 1).toNat = 2 ^ 1 - 1 := by decide
  have key : (BitVec.ofInt 64 n &&& BitVec.ofInt 64 1).toNat = (n % ((2 ^ 64 : Nat) : Int)).toNat % 2 ^ 1 := by
    rw [BitVec.toNat_and, BitVec.toNat_ofInt, h127, Nat.and_two_pow_sub_one_eq_mod]
  show IntKind.i64.wrap ((BitVec.ofInt 64 n &&& BitVec.ofInt 64 1).toNat : Nat) = n % 2
  rw [key, IntKind.wrap_i64]
  omega

theorem i64_and2047 (n : Int) : bits .and .i64 n 2047 = n % 2048 := by
  have h127 : (BitVec.ofInt 64 2047).toNat = 2 ^ 11 - 1 := by decide
  have key : (BitVec.ofInt 64 n &&& BitVec.ofInt 64 2047).toNat = (n % ((2 ^ 64 : Nat) : Int)).toNat % 2 ^ 11 := by
    rw [BitVec.toNat_and, BitVec.toNat_ofInt, h127, Nat.and_two_pow_sub_one_eq_mod]
  show IntKind.i64.wrap ((BitVec.ofInt 64 n &&& BitVec.ofInt 64 2047).toNat : Nat) = n % 2048
  rw [key, IntKind.wrap_i64]
  omega
theorem u64_and52 (b : Nat) (hb : b < 18446744073709551616) : bits .and .u64 (b : Int) 4503599627370495 = ((b % 4503599627370496 : Nat) : Int) := by
  have h := u64_and_nat b 4503599627370495 hb (by omega)
  have e : b &&& 4503599627370495 = b % 4503599627370496 := Nat.and_two_pow_sub_one_eq_mod b 52
  rw [e] at h
  exact h
theorem u64_or52 (m : Nat) (hm : m < 4503599627370496) : bits .or .u64 (m : Int) 4503599627370496 = ((m + 4503599627370496 : Nat) : Int) := by
  have h := u64_or_nat m 4503599627370496 (by omega) (by omega)
  have e : m ||| 4503599627370496 = m + 4503599627370496 := by
    have := Nat.two_pow_add_eq_or_of_lt (i := 52) hm 1
    rw [Nat.or_comm]
    simpa [Nat.add_comm] using this.symm
  rw [e] at h
  exact h

/-- A number of the kind uint64. -/
def U64 (n : Int) : Prop := 0 ≤ n ∧ n < 18446744073709551616
theorem U64.of_wf {n : Int} (h : (Lit.int .u64 n).wf = true) : U64 n := by
  simp [Lit.wf, IntKind.min, IntKind.max, IntKind.signed, IntKind.bits] at h
  unfold U64
  omega
theorem u64_wrap (n : Int) : U64 (IntKind.u64.wrap n) := .of_wf (wf_wrap _ _)
theorem u64_bits (op : BinOp) (x y : Int) : U64 (bits op .u64 x y) := .of_wf (wf_bits _ _ _ _)
theorem u64_zero : U64 0 := ⟨by decide, by decide⟩
theorem u64_div {n : Int} (h : U64 n) (k : Nat) : U64 (n / (k : Int)) := by
  obtain ⟨h0, h1⟩ := h
  obtain ⟨m, rfl⟩ := Int.eq_ofNat_of_zero_le h0
  have h2 : m / k ≤ m := Nat.div_le_self m k
  have e : ((m : Int) / (k : Int)) = ((m / k : Nat) : Int) := by simp
  rw [e]
  exact ⟨Int.natCast_nonneg _, Int.lt_of_le_of_lt (Int.ofNat_le.2 h2) h1⟩
theorem u64_ite {c : Prop} [Decidable c] {a b : Int} (ha : U64 a) (hb : U64 b) : U64 (if c then a else b) := by split <;> assumption

def b2i (b : Bool) : Int := bif b then 1 else 0
theorem b2i_range (b : Bool) : 0 ≤ b2i b ∧ b2i b ≤ 1 := by cases b <;> decide

/-- A function under seal: nothing unfolds it by itself. -/
noncomputable def seal_ {α : Sort _} (a : α) : α := Classical.choose (⟨a, rfl⟩ : ∃ b, b = a)
theorem seal_eq {α : Sort _} (a : α) : seal_ a = a := Classical.choose_spec (⟨a, rfl⟩ : ∃ b, b = a)

/-- The scaled number of one multiplication by a power of ten's upper and lower word, shifted by m. -/
noncomputable def uscV : Int → Int → Int → Nat → Int := seal_ fun x hi lo m =>
  if (IntKind.u64.wrap (x * hi / 18446744073709551616 / 2 ^ m * 2 ^ m) != x * hi / 18446744073709551616) = true then
    bits BinOp.or IntKind.u64 (x * hi / 18446744073709551616 / 2 ^ m) 1
  else bits BinOp.or IntKind.u64 (IntKind.u64.wrap (x * hi / 18446744073709551616 - b2i (decide (x * hi % 18446744073709551616 < x * lo / 18446744073709551616))) / 2 ^ m)
    (b2i (decide (1 < IntKind.u64.wrap (x * hi % 18446744073709551616 - x * lo / 18446744073709551616))))
theorem uscV_eq (x hi lo : Int) (m : Nat) : uscV x hi lo m = 
  if (IntKind.u64.wrap (x * hi / 18446744073709551616 / 2 ^ m * 2 ^ m) != x * hi / 18446744073709551616) = true then
    bits BinOp.or IntKind.u64 (x * hi / 18446744073709551616 / 2 ^ m) 1
  else bits BinOp.or IntKind.u64 (IntKind.u64.wrap (x * hi / 18446744073709551616 - b2i (decide (x * hi % 18446744073709551616 < x * lo / 18446744073709551616))) / 2 ^ m)
    (b2i (decide (1 < IntKind.u64.wrap (x * hi % 18446744073709551616 - x * lo / 18446744073709551616)))) := by
  unfold uscV
  rw [seal_eq]
theorem uscV_u64 (x hi lo : Int) (m : Nat) : U64 (uscV x hi lo m) := by
  rw [uscV_eq]
  exact u64_ite (u64_bits _ _ _) (u64_bits _ _ _)

/-- Cells of a new block of three, draws let by. -/
theorem new3_0 (w : World) (x y z : Value) (t : Nat) : (w.alloc (.cells #[x, y, z] t)).cell? ⟨w.heap.size, 0, none⟩ = some x := by simp
theorem new3_1 (w : World) (x y z : Value) (t : Nat) : (w.alloc (.cells #[x, y, z] t)).cell? ⟨w.heap.size, 1, none⟩ = some y := by simp
theorem new3_2 (w : World) (x y z : Value) (t : Nat) : (w.alloc (.cells #[x, y, z] t)).cell? ⟨w.heap.size, 2, none⟩ = some z := by simp
theorem new3_0d (w : World) (x y z : Value) (t n : Nat) : ((w.alloc (.cells #[x, y, z] t)).drewN n).cell? ⟨w.heap.size, 0, none⟩ = some x := new3_0 ..
theorem new3_1d (w : World) (x y z : Value) (t n : Nat) : ((w.alloc (.cells #[x, y, z] t)).drewN n).cell? ⟨w.heap.size, 1, none⟩ = some y := new3_1 ..
theorem new3_2d (w : World) (x y z : Value) (t n : Nat) : ((w.alloc (.cells #[x, y, z] t)).drewN n).cell? ⟨w.heap.size, 2, none⟩ = some z := new3_2 ..

noncomputable def nudgeV : Int → Int → Int := seal_ fun u d => IntKind.u64.wrap (u + IntKind.u64.wrap d)
noncomputable def ceilV : Int → Int := seal_ fun u => IntKind.u64.wrap (u + 3) / 4
noncomputable def floorV : Int → Int := seal_ fun u => u / 4
noncomputable def roundV : Int → Int := seal_ fun u => IntKind.u64.wrap (IntKind.u64.wrap (u + 1) + bits BinOp.and IntKind.u64 (u / 4) 1) / 4
theorem nudgeV_eq (u d : Int) : nudgeV u d = IntKind.u64.wrap (u + IntKind.u64.wrap d) := by unfold nudgeV; rw [seal_eq]
theorem ceilV_eq (u : Int) : ceilV u = IntKind.u64.wrap (u + 3) / 4 := by unfold ceilV; rw [seal_eq]
theorem floorV_eq (u : Int) : floorV u = u / 4 := by unfold floorV; rw [seal_eq]
theorem roundV_eq (u : Int) : roundV u = IntKind.u64.wrap (IntKind.u64.wrap (u + 1) + bits BinOp.and IntKind.u64 (u / 4) 1) / 4 := by unfold roundV; rw [seal_eq]
theorem nudgeV_u64 (u d : Int) : U64 (nudgeV u d) := by rw [nudgeV_eq]; exact u64_wrap _
theorem ceilV_u64 (u : Int) : U64 (ceilV u) := by rw [ceilV_eq]; exact u64_div (u64_wrap _) 4
theorem floorV_u64 {u : Int} (h : U64 u) : U64 (floorV u) := by rw [floorV_eq]; exact u64_div h 4
theorem roundV_u64 (u : Int) : U64 (roundV u) := by rw [roundV_eq]; exact u64_div (u64_wrap _) 4

/-- The digits and the power of the shortest decimal, behind the choice of the two ends. -/
noncomputable def shortV (mn mx od nod m hi lo : Int) (s : Nat) (p : Int) : Int × Int :=
  if ceilV (nudgeV (uscV mn hi lo s) od) ≤ floorV (nudgeV (uscV mx hi lo s) nod) / 10 * 10 then (floorV (nudgeV (uscV mx hi lo s) nod) / 10, -(p - 1))
  else if ceilV (nudgeV (uscV mn hi lo s) od) < floorV (nudgeV (uscV mx hi lo s) nod) then (roundV (uscV m hi lo s), -p)
  else (ceilV (nudgeV (uscV mn hi lo s) od), -p)
theorem shortV_u64 (mn mx od nod m hi lo : Int) (s : Nat) (p : Int) : U64 (shortV mn mx od nod m hi lo s p).1 := by
  unfold shortV
  split
  · exact u64_div (floorV_u64 (nudgeV_u64 _ _)) 10
  · split
    · exact roundV_u64 _
    · exact ceilV_u64 _
theorem shortV_pow (mn mx od nod m hi lo : Int) (s : Nat) (p : Int) (h0 : -390 ≤ p) (h1 : p ≤ 390) : -400 ≤ (shortV mn mx od nod m hi lo s p).2 ∧ (shortV mn mx od nod m hi lo s p).2 ≤ 400 := by
  unfold shortV
  split
  · simp only; omega
  · split <;> (simp only; omega)
theorem shortV_1 {mn mx od nod m hi lo : Int} {s : Nat} {p : Int} {r : Int × Int} (H : Hid (shortV mn mx od nod m hi lo s p = r))
    (h : ceilV (nudgeV (uscV mn hi lo s) od) ≤ floorV (nudgeV (uscV mx hi lo s) nod) / 10 * 10) :
    r = (floorV (nudgeV (uscV mx hi lo s) nod) / 10, -(p - 1)) := H.out.symm.trans (if_pos h)
theorem shortV_2 {mn mx od nod m hi lo : Int} {s : Nat} {p : Int} {r : Int × Int} (H : Hid (shortV mn mx od nod m hi lo s p = r))
    (h : floorV (nudgeV (uscV mx hi lo s) nod) / 10 * 10 < ceilV (nudgeV (uscV mn hi lo s) od))
    (h' : ceilV (nudgeV (uscV mn hi lo s) od) < floorV (nudgeV (uscV mx hi lo s) nod)) : r = (roundV (uscV m hi lo s), -p) := by
  rw [← H.out, shortV, if_neg (Int.not_le.2 h), if_pos h']
theorem shortV_3 {mn mx od nod m hi lo : Int} {s : Nat} {p : Int} {r : Int × Int} (H : Hid (shortV mn mx od nod m hi lo s p = r))
    (h : floorV (nudgeV (uscV mx hi lo s) nod) / 10 * 10 < ceilV (nudgeV (uscV mn hi lo s) od))
    (h' : floorV (nudgeV (uscV mx hi lo s) nod) ≤ ceilV (nudgeV (uscV mn hi lo s) od)) : r = (ceilV (nudgeV (uscV mn hi lo s) od), -p) := by
  rw [← H.out, shortV, if_neg (Int.not_le.2 h), if_neg (Int.not_lt.2 h')]

theorem shl_range (n : Nat) : 0 ≤ (2 : Int) ^ n := Int.le_of_lt (Int.pow_pos (by decide))

end Go.Proofs.YtlpaecafpbbbkaaGreatDoor
namespace Go.Proofs.YtlpaecafpbbbkaaGreatDoor
open Go.RowKit

/-- The ending of shortFloat: a pair of digits and a power; nothing that was there has changed. -/
def ShortEnd (r : Int × Int) (w : World) (en : Ending) (w' : World) : Prop := en = .returned (.tuple #[.int .u64 r.1, .int .i64 r.2]) ∧ Below w.heap.size w w'
theorem shortEnd_mk {r : Int × Int} {d p d' p' : Int} {w w' : World} (hr : r = (d, p)) (hd : d = d') (hp : p = p') (hw : Below w.heap.size w w') : ShortEnd r w (.returned (.tuple #[.int .u64 d', .int .i64 p'])) w' := by
  subst hr hd hp
  exact ⟨rfl, hw⟩
theorem short_world (w : World) (o : Obj) (n : Nat) : Below w.heap.size w ((w.alloc o).drewN n) :=
  ⟨((Below.refl _ w).alloc (Nat.le_refl _) o).os, ((Below.refl _ w).alloc (Nat.le_refl _) o).tape, ((Below.refl _ w).alloc (Nat.le_refl _) o).output, ((Below.refl _ w).alloc (Nat.le_refl _) o).size, ((Below.refl _ w).alloc (Nat.le_refl _) o).block⟩

end Go.Proofs.YtlpaecafpbbbkaaGreatDoor
namespace Go.Proofs.YtlpaecafpbbbkaaGreatDoor
open Go.RowKit Go.Sort Go.Lib

/-- Block b holds the nd decimal digits of u from its beginning on. -/
def Digs (W : World) (b u nd : Nat) : Prop := ∀ t, t < nd → W.cell? ⟨b, t, none⟩ = some (.int .u8 ((dg u (nd - 1 - t)).toNat : Int))
/-- How many of the first k are left when the zeros at their end are cut off. -/
def trimZ (f : Nat → UInt8) : Nat → Nat
  | 0 => 0
  | k + 1 => if f k = 48 then trimZ f k else k + 1
theorem trimZ_le (f : Nat → UInt8) : ∀ k, trimZ f k ≤ k
  | 0 => Nat.le_refl _
  | k + 1 => by
    unfold trimZ
    split
    · exact Nat.le_succ_of_le (trimZ_le f k)
    · exact Nat.le_refl _

theorem digs_put (w : World) (b n v' u : Nat) (d dk : Array UInt8) (hH : Holds (fun (b : UInt8) => Value.int .u8 (b.toNat : Int)) w b 0 d) (h : FmtInv d.size u 0 v' dk) :
    Digs ((putRow (fun (b : UInt8) => Value.int .u8 (b.toNat : Int)) w b 0 dk).drewN n) b u d.size ∧ w.grownBy ((putRow (fun (b : UInt8) => Value.int .u8 (b.toNat : Int)) w b 0 dk).drewN n) (some b) := by
  have hH' := holds_putRow _ w b 0 d dk hH h.size
  refine ⟨fun t ht => ?_, ?_⟩
  · have hc := (hH' t (by rw [h.size]; exact ht)).1
    rw [Nat.zero_add] at hc
    rw [← h.done t (Nat.zero_le _) ht]
    exact hc
  · refine gt_drewN_r ?_ n
    refine ⟨rfl, rfl, rfl, ?_, fun k hk hne => ?_⟩
    · simp [putRow, mapBlock]
    · have : b ≠ k := fun e => hne (by rw [e])
      simp [putRow, mapBlock, Array.getElem?_modify, this]

/-- The nd digits of u, the first one first. -/
def digF (u nd : Nat) : Nat → UInt8 := fun t => dg u (nd - 1 - t)

end Go.Proofs.YtlpaecafpbbbkaaGreatDoor
namespace Go.Proofs.YtlpaecafpbbbkaaGreatDoor
open Go.RowKit

abbrev eB : Nat := 5
theorem infoB : (Tryz.prog.info? 5).map (fun i => (i.zero, i.size, i.bytes)) = some (some (.int .u8 0), 1, 1) := by kernel_rfl

def fSign (neg : Bool) : List UInt8 := if neg then [45] else []
theorem fSign_len (neg : Bool) : (fSign neg).length ≤ 1 := by cases neg <;> decide
/-- The whole part: digits, then zeros. -/
def fInt (f : Nat → UInt8) (dp : Int) (nd : Nat) : List UInt8 :=
  if 0 < dp then (List.range (min nd dp.toNat)).map f ++ List.replicate (dp.toNat - min nd dp.toNat) 48 else [48]
theorem fInt_len (f : Nat → UInt8) (dp : Int) (nd : Nat) (h : dp ≤ 500) : (fInt f dp nd).length ≤ 500 := by
  unfold fInt
  split
  · simp; omega
  · simp
/-- The part behind the point: zeros, digits, zeros. -/
def fFrac (f : Nat → UInt8) (dp prec : Int) (nd : Nat) : List UInt8 :=
  if 0 < prec then [46] ++ List.replicate (min prec (max 0 (-dp))).toNat 48
      ++ (List.range (min (prec - min prec (max 0 (-dp))) (max 0 ((nd : Int) - (dp + min prec (max 0 (-dp)))))).toNat).map (fun i : Nat => f ((dp + min prec (max 0 (-dp))) + (i : Int)).toNat)
      ++ List.replicate (max 0 (prec - min prec (max 0 (-dp)) - min (prec - min prec (max 0 (-dp))) (max 0 ((nd : Int) - (dp + min prec (max 0 (-dp))))))).toNat 48
  else []

end Go.Proofs.YtlpaecafpbbbkaaGreatDoor
namespace Go.Proofs.YtlpaecafpbbbkaaGreatDoor
open Go.RowKit

def nDig (u : Nat) : Nat := if u = 0 then 0 else Lib.nDigits u
theorem nDig_lt (u : Nat) : u < 10 ^ nDig u := by
  unfold nDig
  split
  · rename_i h; subst h; decide
  · exact Lib.lt_pow_nDigits u
theorem nDig_le (u : Nat) (h : u < 18446744073709551616) : nDig u ≤ 20 := by
  unfold nDig
  split
  · omega
  · exact Lib.nDigits_le20 u h

end Go.Proofs.YtlpaecafpbbbkaaGreatDoor
namespace Go.Proofs.YtlpaecafpbbbkaaGreatDoor
open Go.RowKit

theorem buf_cells (w : World) (t : Nat) : ∀ j, j < 32 → (w.alloc (.cells (Array.replicate 32 (.int .u8 0)) t)).cell? ⟨w.heap.size, j, none⟩ = some (.int .u8 0) ∧ (w.alloc (.cells (Array.replicate 32 (.int .u8 0)) t)).frozen? ⟨w.heap.size, j, none⟩ = false := by
  intro j hj
  refine ⟨?_, by simp⟩
  rw [World.cell?_alloc_new]
  rw [Array.getElem?_replicate, if_pos hj]
theorem buf_kept {w w' : World} {b j : Nat} (h : Below w.heap.size w w') (hb : b < w.heap.size) {x : Value} (hc : w.cell? ⟨b, j, none⟩ = some x ∧ w.frozen? ⟨b, j, none⟩ = false) :
    w'.cell? ⟨b, j, none⟩ = some x ∧ w'.frozen? ⟨b, j, none⟩ = false := ⟨(h.cell (p := ⟨b, j, none⟩) hb).trans hc.1, (h.frozen (p := ⟨b, j, none⟩) hb).trans hc.2⟩

theorem bitLen_pos (n : Nat) (h : 1 ≤ n) (h1 : n < 2 ^ 64) : 1 ≤ Lib.bitLen n := by
  rw [Lib.bitLen_half n (by omega) h1]
  omega

theorem fFrac_len (f : Nat → UInt8) (dp prec : Int) (nd : Nat) (h : prec ≤ 1000) : (fFrac f dp prec nd).length ≤ 3001 := by
  unfold fFrac
  split
  · simp only [List.length_append, List.length_cons, List.length_nil, List.length_replicate, List.length_map, List.length_range]
    omega
  · simp

theorem dec_len (ng : Bool) (u : Nat) (p : Int) (hu : u < 18446744073709551616) (hp0 : -400 ≤ p) (hp1 : p ≤ 400) : ((fSign ng ++ fInt (digF u (nDig u)) ((nDig u : Int) + p) (trimZ (digF u (nDig u)) (nDig u)) ++ fFrac (digF u (nDig u)) ((nDig u : Int) + p) (max ((trimZ (digF u (nDig u)) (nDig u) : Int) - ((nDig u : Int) + p)) 0) (trimZ (digF u (nDig u)) (nDig u))) : List UInt8).length ≤ 4000 := by
  have h1 := fSign_len ng
  have h2 := nDig_le u hu
  have h3 := trimZ_le (digF u (nDig u)) (nDig u)
  have h4 := fInt_len (digF u (nDig u)) ((nDig u : Int) + p) (trimZ (digF u (nDig u)) (nDig u)) (by omega)
  have h5 := fFrac_len (digF u (nDig u)) ((nDig u : Int) + p) (max ((trimZ (digF u (nDig u)) (nDig u) : Int) - ((nDig u : Int) + p)) 0) (trimZ (digF u (nDig u)) (nDig u)) (by omega)
  simp only [List.length_append]
  omega

end Go.Proofs.YtlpaecafpbbbkaaGreatDoor
namespace Go.Proofs.YtlpaecafpbbbkaaGreatDoor
open Go.RowKit

theorem i64_and3 (n : Int) : bits .and .i64 n 3 = n % 4 := by
  have h127 : (BitVec.ofInt 64 3).toNat = 2 ^ 2 - 1 := by decide
  have key : (BitVec.ofInt 64 n &&& BitVec.ofInt 64 3).toNat = (n % ((2 ^ 64 : Nat) : Int)).toNat % 2 ^ 2 := by
    rw [BitVec.toNat_and, BitVec.toNat_ofInt, h127, Nat.and_two_pow_sub_one_eq_mod]
  show IntKind.i64.wrap ((BitVec.ofInt 64 n &&& BitVec.ofInt 64 3).toNat : Nat) = n % 4
  rw [key, IntKind.wrap_i64]
  omega

set_option maxHeartbeats 400000 in
theorem dimOf_any (d : Int) (h0 : 0 ≤ d) (h1 : d ≤ 3) (w : World) :
    Calls Tryz.prog 104 #[.int .i64 d] w fun e w' => e = .returned (.int .u8 d) ∧ w' = w := by
  have he : bits .and .i64 d 3 = d := by rw [i64_and3]; omega
  go_enter Tryz.func104, Tryz.ntmps104
  go_wp2
  go_ret
  exact ⟨rfl, rfl⟩

theorem u8_and1 (d : Int) (h0 : 0 ≤ d) (h1 : d ≤ 3) : bits .and .u8 d 1 = d % 2 := bits_mask .u8 8 (by decide) wraps_u8 1 (by decide) d h0 (by omega)

set_option maxHeartbeats 400000 in
theorem Is3D_any (d : Int) (h0 : 0 ≤ d) (h1 : d ≤ 3) (w : World) :
    Calls Tryz.prog 142 #[.int .u8 d] w fun e w' => e = .returned (.bool (decide (d % 2 = 1))) ∧ w' = w := by
  have he := u8_and1 d h0 h1
  have h2 : (d % 2 != 0) = decide (d % 2 = 1) := by
    rw [Bool.eq_iff_iff]
    simp
    omega
  go_enter Tryz.func142, Tryz.ntmps142
  go_wp2
  go_ret
  exact ⟨rfl, rfl⟩

end Go.Proofs.YtlpaecafpbbbkaaGreatDoor
namespace Go.Proofs.YtlpaecafpbbbkaaGreatDoor
open Go.RowKit

def plX (r : Nat) (f : Nat → Nat) (i : Nat) : Nat := f (i * widN r)
def plY (r : Nat) (f : Nat → Nat) (i : Nat) : Nat := f (i * widN r + 1)
def plZ (r : Nat) (f : Nat → Nat) (i : Nat) : Nat := if r % 2 = 1 then f (i * widN r + 2) else 0
def plM (r : Nat) (f : Nat → Nat) (i : Nat) : Nat := if r / 2 = 1 then f (i * widN r + widN r - 1) else 0

theorem Get_any (r n i : Nat) (a : Addr) (f : Nat → Nat) (hr : r < 4) (hn : n ≤ 2000) (hi : i * widN r + widN r ≤ n) (W : World) (hf : FVal W (some a) n f) :
    Calls Tryz.prog 106 #[.agg #[.int .u8 r, .slice (some a) n n], .int .i64 i] W fun e w' => e = .returned (.agg #[.float .f64 (plX r f i), .float .f64 (plY r f i), .float .f64 (plZ r f i), .float .f64 (plM r f i), .int .u8 r]) ∧ W.grownBy w' none := by
  rcases (by omega : r = 0 ∨ r = 1 ∨ r = 2 ∨ r = 3) with rfl | rfl | rfl | rfl
  · exact Get_0 n i a f hn (by simp [widN] at hi; omega) W hf
  · exact Get_1 n i a f hn (by simp [widN] at hi; omega) W hf
  · exact Get_2 n i a f hn (by simp [widN] at hi; omega) W hf
  · exact Get_3 n i a f hn (by simp [widN] at hi; omega) W hf

theorem FVal.kept {W W' : World} {p : Option Addr} {n : Nat} {f : Nat → Nat} {r : Option Nat} (h : FVal W p n f) (hg : W.grownBy W' r) (hr : ∀ a, p = some a → r ≠ some a.block) : FVal W' p n f :=
  ⟨h.some_, fun a ha i hi => hg.cell (h.at_ a ha i hi) (fun e => by
    have hb : (a.add i).block = a.block := by unfold Addr.add; split <;> rfl
    rw [hb] at e
    exact hr a ha e.symm), h.lt⟩

end Go.Proofs.YtlpaecafpbbbkaaGreatDoor
namespace Go.Proofs.YtlpaecafpbbbkaaGreatDoor
open Go.RowKit
/-- One string behind the other, all three under names. -/
theorem cat_run (P : Program) (a b : List UInt8) (sa sb c : ByteArray) (ha : sa = ⟨a.toArray⟩) (hb : sb = ⟨b.toArray⟩) (hc : c = ⟨(a ++ b).toArray⟩) (hl : a.length + b.length ≤ 100000000) :
    ∀ W : World, (Op.stringOp .add sa sb).run P W = .ok (.string c) W := by
  intro W
  subst ha hb hc
  have e : ∀ l : List UInt8, (ByteArray.mk l.toArray).size = l.length := fun l => by simp [ByteArray.size]
  have ee : (ByteArray.mk a.toArray ++ ByteArray.mk b.toArray) = ⟨(a ++ b).toArray⟩ := by
    apply ByteArray.ext
    simp
  rw [run_string_add_sum (P := P) W _ _ (by rw [e, e]; omega), ee]

end Go.Proofs.YtlpaecafpbbbkaaGreatDoor
namespace Go.Proofs.YtlpaecafpbbbkaaGreatDoor
open Go.RowKit

/-- From world w0, where v0 was owned, the call has come to world w, where v is owned: n elements, the cells xs. -/
structure AppV (e size base : Nat) (w0 : World) (v0 : Value) (w : World) (v : Value) (n : Nat) (xs : List Value) : Prop where
  own : w.ownsRow base e size v n xs
  grown : w0.grownBy w v0.ownBlock
  at_ : v.ownBlock = v0.ownBlock ∨ ∃ b, v.ownBlock = some b ∧ w0.heap.size ≤ b
section
variable {e size base : Nat} {w0 w w1 w2 : World} {v0 v v1 v2 : Value} {n n1 n2 : Nat} {xs xs1 xs2 : List Value}
theorem AppV.start (h : w.ownsRow base e size v n xs) : AppV e size base w v w v n xs := ⟨h, gt_refl _ _, .inl rfl⟩
theorem AppV.nil (w : World) (e size base : Nat) : AppV e size base w (.slice none 0 0) w (.slice none 0 0) 0 [] := .start (World.ownsRow_nil w base e size)
theorem AppV.trans (h : AppV e size base w0 v0 w1 v1 n1 xs1) (k : AppV e size base w1 v1 w2 v2 n2 xs2) : AppV e size base w0 v0 w2 v2 n2 xs2 := by
  refine ⟨k.own, gt_trans h.grown k.grown ?_, ?_⟩
  · rcases h.at_ with h | ⟨b, h, hb⟩
    · exact .inl h
    · exact .inr (.inr ⟨b, h, hb⟩)
  · rcases k.at_ with k' | ⟨b, k', hb⟩
    · rcases h.at_ with h | ⟨b, h, hb⟩
      · exact .inl (k'.trans h)
      · exact .inr ⟨b, k'.trans h, hb⟩
    · exact .inr ⟨b, k', Nat.le_trans h.grown.size hb⟩
theorem AppV.beside (h : AppV e size base w0 v0 w v n xs) (k : w.grownBy w1 none) : AppV e size base w0 v0 w1 v n xs :=
  ⟨h.own.kept k (by cases v.ownBlock <;> simp), gt_trans h.grown k (.inr (.inl rfl)), h.at_⟩
theorem AppV.based (h : AppV e size base w0 v0 w v n xs) (hb : base ≤ w0.heap.size) : base ≤ w.heap.size := Nat.le_trans hb h.grown.size
theorem AppV.cell (h : AppV e size base w0 v0 w v n xs) {a : Addr} (hlt : a.block < w0.heap.size) (hne : v0.ownBlock ≠ some a.block) : w.cell? a = w0.cell? a :=
  World.cell?_of_block (h.grown.block _ hlt (fun he => hne he.symm))
theorem AppV.slice (h : AppV e size base w0 v0 w v n xs) : ∃ p c, v = .slice p n c := by
  rcases h.own.2 with h | ⟨g, cap, cur, hv, _⟩
  · exact ⟨none, 0, by rw [h.1, h.2]⟩
  · exact ⟨_, _, hv⟩
theorem AppV.grown0 (h : AppV e size base w0 (.slice none 0 0) w v n xs) : w0.grownBy w none := h.grown
end

section
variable {e size base : Nat} {w0 W : World} {v0 v : Value} {n : Nat} {xs : List Value}
variable {P : Program} {ops : Array Oper} {rest : List Oper} {o : Oper} {a : Act} {Q : Exit → Act → World → Prop}
/-- append(v, x ..), the m new elements laid anew, their cells cs. -/
theorem app_cells (hgd : o.guard = none) (s x : Operand) (t : TypeId) (ho : o.op = .call { callee := .builtin .append, args := #[s, x], argTypes := #[t, t] })
    (ht : P.underlying t = some (.slice e)) (z : Value) (bytes : Nat) (hinfo : (P.info? e).map (fun i => (i.zero, i.size, i.bytes)) = some (some z, size, bytes)) (hzs : z.cells.size = size) (hsz : 0 < size)
    (H : AppV e size base w0 v0 W v n xs) (hs : a.eval s = v) {k m c : Nat} (hx : a.eval x = .slice (some ⟨k, 0, none⟩) m c) (hk : k = W.heap.size) (cs : Array Value) (hcl : cs.size = m * size) (h1 : ∀ u ∈ cs.toList, u.oneCell' = true)
    (hbase : base ≤ w0.heap.size) (hl : (n + m) * bytes ≤ 140737488355328) (hl2 : n + m ≤ 140737488355328)
    (h : ∀ v1 w1, AppV e size base w0 v0 w1 v1 (n + m) (xs ++ cs.toList) → wpList P ops Q rest (a.put o.dst v1) w1) :
    wpList P ops Q (o :: rest) a (W.alloc (.cells cs e)) := by
  subst hk
  obtain ⟨i0, hi, hzz⟩ := Option.map_eq_some_iff.1 hinfo
  simp only [Prod.mk.injEq] at hzz
  obtain ⟨hz0, hz1, hz2⟩ := hzz
  refine wpList_append_own_at (W.alloc (.cells cs e)) hgd s x t ho base e i0 z size bytes ht hi hz0 hz1 hz2 hzs hsz v n xs hs (H.own.alloc _) ⟨W.heap.size, 0, none⟩ m c cs.toList hx (by simpa using hcl)
    (fun j u hj => ?_) h1 (by simp only [maxLen]; omega) hl (by have := H.based hbase; simp; omega) ?_
  · by_cases h0 : j = 0
    · subst h0; simp [Addr.add]; simpa using hj
    · simp [Addr.add, h0]; simpa using hj
  · intro v1 w1 hown hg _ hat
    have hb := H.beside (World.grownBy_alloc W (.cells cs e) none)
    refine h v1 w1 (hb.trans ⟨hown, hg, ?_⟩)
    rcases hat with hat | hat
    · exact .inl hat
    · exact .inr ⟨_, hat, Nat.le_refl _⟩
end
end Go.Proofs.YtlpaecafpbbbkaaGreatDoor
namespace Go.Proofs.YtlpaecafpbbbkaaGreatDoor
open Go.RowKit

/-- Texts with commas between them, k of them. -/
def cTo (s : Nat → List UInt8) : Nat → List UInt8
  | 0 => []
  | k + 1 => cTo s k ++ (if 0 < k then [44] else []) ++ s k
theorem cTo_mono (s : Nat → List UInt8) (k : Nat) : (cTo s k).length ≤ (cTo s (k + 1)).length := by
  show _ ≤ (cTo s k ++ (if 0 < k then [44] else []) ++ s k).length
  simp only [List.length_append]; omega
theorem cTo_le (s : Nat → List UInt8) : ∀ (n k : Nat), k ≤ n → (cTo s k).length ≤ (cTo s n).length
  | 0, k, h => by obtain rfl : k = 0 := by omega
                  exact Nat.le_refl _
  | n + 1, k, h => by
    by_cases hk : k = n + 1
    · subst hk; exact Nat.le_refl _
    · exact Nat.le_trans (cTo_le s n k (by omega)) (cTo_mono s n)
/-- A row of texts in memory. -/
structure SRow (W : World) (p : Option Addr) (n : Nat) (s : Nat → List UInt8) : Prop where
  some_ : 0 < n → ∃ a, p = some a
  at_ : ∀ a, p = some a → ∀ i, i < n → W.cell? (a.add i) = some (.string ⟨(s i).toArray⟩)

end Go.Proofs.YtlpaecafpbbbkaaGreatDoor
namespace Go.Proofs.YtlpaecafpbbbkaaGreatDoor
open Go.RowKit

set_option maxHeartbeats 400000 in
theorem Is3D_lit (d : Int) (b : Bool) (h : (d = 0 ∧ b = false) ∨ (d = 1 ∧ b = true) ∨ (d = 2 ∧ b = false) ∨ (d = 3 ∧ b = true)) (w : World) :
    Calls Tryz.prog 142 #[.int .u8 d] w fun e w' => e = .returned (.bool b) ∧ w' = w := by
  refine (Is3D_any d (by omega) (by omega) w).mono fun e w' ⟨he, hw⟩ => ⟨?_, hw⟩
  rw [he]
  rcases h with ⟨rfl, rfl⟩ | ⟨rfl, rfl⟩ | ⟨rfl, rfl⟩ | ⟨rfl, rfl⟩ <;> rfl
set_option maxHeartbeats 400000 in
theorem IsMeasured_lit (d : Int) (b : Bool) (h : (d = 0 ∧ b = false) ∨ (d = 1 ∧ b = false) ∨ (d = 2 ∧ b = true) ∨ (d = 3 ∧ b = true)) (w : World) :
    Calls Tryz.prog 143 #[.int .u8 d] w fun e w' => e = .returned (.bool b) ∧ w' = w := by
  rcases h with ⟨rfl, rfl⟩ | ⟨rfl, rfl⟩ | ⟨rfl, rfl⟩ | ⟨rfl, rfl⟩
  all_goals
    have b0 : bits .and .u8 0 2 = 0 := by kernel_rfl
    have b1 : bits .and .u8 1 2 = 0 := by kernel_rfl
    have b2 : bits .and .u8 2 2 = 2 := by kernel_rfl
    have b3 : bits .and .u8 3 2 = 2 := by kernel_rfl
    go_enter Tryz.func143, Tryz.ntmps143
    go_wp2
    go_ret
    exact ⟨rfl, rfl⟩

def par (b : Bool) (c : UInt8) : List UInt8 := if b then [c] else []
theorem par_len (b : Bool) (c : UInt8) : (par b c).length ≤ 1 := by cases b <;> simp [par]

theorem fval_plM {W : World} {p : Option Addr} {n : Nat} {f : Nat → Nat} (h : FVal W p n f) (r i : Nat) : plM r f i < 18446744073709551616 := by unfold plM; split; exact h.lt _; omega
theorem fval_plZ {W : World} {p : Option Addr} {n : Nat} {f : Nat → Nat} (h : FVal W p n f) (r i : Nat) : plZ r f i < 18446744073709551616 := by unfold plZ; split; exact h.lt _; omega

end Go.Proofs.YtlpaecafpbbbkaaGreatDoor
namespace Go.Proofs.YtlpaecafpbbbkaaGreatDoor
open Go.RowKit

def tag : Nat → List UInt8
  | 0 => []
  | 1 => [32, 90, 32]
  | 2 => [32, 77, 32]
  | _ => [32, 90, 77, 32]
def EMPTY : List UInt8 := [69, 77, 80, 84, 89]
def wE (c : UInt8) : List UInt8 := if c = 40 ∨ c = 44 ∨ c = 32 then EMPTY else 32 :: EMPTY

end Go.Proofs.YtlpaecafpbbbkaaGreatDoor
