/- An append of new elements, as one step of a region that draws its order. Geometries of plain data under construction: their block, their numbers and their parts, which grow. A shape as a geometry of plain data: GeomOf. The questions of size, with what they tell of the tree. -/
import Derived.Deep.RegionLaw
import Derived.Laws.FloatBits
import Derived.Deep.RegionHeld3
import Derived.Test.YtlpaecafpbbbkaaGreatDoorSPT3
namespace Go.Proofs.YtlpaecafpbbbkaaGreatDoor
open Go.RowKit

section
variable {e size base : Nat} {w0 W : World} {v0 v : Value} {n : Nat} {xs : List Value}
variable {P : Program} {ops : Array Oper} {o : Oper} {a : Act} {K : Act → World → Prop} {Q : Exit → Act → World → Prop} {E : Prop}
/-- append(v, x ..), the m new elements laid anew, their cells cs, inside a region that draws. -/
theorem app_cells_step (hgd : o.guard = none) (s x : Operand) (t : TypeId) (ho : o.op = .call { callee := .builtin .append, args := #[s, x], argTypes := #[t, t] })
    (ht : P.underlying t = some (.slice e)) (z : Value) (bytes : Nat) (hinfo : (P.info? e).map (fun i => (i.zero, i.size, i.bytes)) = some (some z, size, bytes)) (hzs : z.cells.size = size) (hsz : 0 < size)
    (H : AppV e size base w0 v0 W v n xs) (hs : a.eval s = v) {k m c : Nat} (hx : a.eval x = .slice (some ⟨k, 0, none⟩) m c) (hk : k = W.heap.size) (cs : Array Value) (hcl : cs.size = m * size) (h1 : ∀ u ∈ cs.toList, u.oneCell' = true)
    (hbase : base ≤ w0.heap.size) (hl : (n + m) * bytes ≤ 140737488355328) (hl2 : n + m ≤ 140737488355328)
    (h : ∀ v1 w1, AppV e size base w0 v0 w1 v1 (n + m) (xs ++ cs.toList) → K (a.put o.dst v1) w1) :
    if Region.wanted o (yielded ops a.tmps) = true then Oper.wp P o a (W.alloc (.cells cs e)) K Q else E := by
  have hw : Region.wanted o (yielded ops a.tmps) = true := by simp [Region.wanted, hgd]
  rw [if_pos hw]
  subst hk
  obtain ⟨i0, hi, hzz⟩ := Option.map_eq_some_iff.1 hinfo
  simp only [Prod.mk.injEq] at hzz
  obtain ⟨hz0, hz1, hz2⟩ := hzz
  obtain ⟨v', w', hr, r1, r2, _, r4⟩ := run_append_own_at (P := P) (W.alloc (.cells cs e)) base t o.type e i0 z size bytes ht hi hz0 hz1 hz2 hzs hsz v n xs (H.own.alloc _) ⟨W.heap.size, 0, none⟩ m c cs.toList (by simpa using hcl)
    (fun j u hj => by
      by_cases h0 : j = 0
      · subst h0; simp [Addr.add]; simpa using hj
      · simp [Addr.add, h0]; simpa using hj) h1 (by simp only [maxLen]; omega) hl (by have := H.based hbase; simp; omega)
  unfold Oper.wp execOp
  simp only [ho, resolve, invoke, builtin, Sem.run_bind, Sem.run_pure, Result.andThen_ok, List.map_toArray, List.map_cons, List.map_nil, hs, hx, hr]
  have hb := H.beside (World.grownBy_alloc W (.cells cs e) none)
  refine h v' w' (hb.trans ⟨r1, r2, ?_⟩)
  rcases r4 with hat | hat
  · exact .inl hat
  · exact .inr ⟨_, hat, Nat.le_refl _⟩
/-- The same, one new element or more; what comes of it is written out. -/
theorem app_cells2_step (hgd : o.guard = none) (s x : Operand) (t : TypeId) (ho : o.op = .call { callee := .builtin .append, args := #[s, x], argTypes := #[t, t] })
    (ht : P.underlying t = some (.slice e)) (z : Value) (bytes : Nat) (hinfo : (P.info? e).map (fun i => (i.zero, i.size, i.bytes)) = some (some z, size, bytes)) (hzs : z.cells.size = size) (hsz : 0 < size)
    (hs : a.eval s = v) {k m c : Nat} (hx : a.eval x = .slice (some ⟨k, 0, none⟩) m c) (hk : k = W.heap.size) (cs : Array Value) (hown : (W.alloc (.cells cs e)).ownsRow base e size v n xs) (hcl : cs.size = m * size) (h1 : ∀ u ∈ cs.toList, u.oneCell' = true)
    (hm : 0 < m) (hbase : base ≤ (W.alloc (.cells cs e)).heap.size) (hl : (n + m) * bytes ≤ 140737488355328) (hl2 : n + m ≤ 140737488355328)
    (h : ∀ g cap w', w'.ownsRow base e size (.slice (some ⟨g, 0, none⟩) (n + m) cap) (n + m) (xs ++ cs.toList) → (W.alloc (.cells cs e)).grownBy w' v.ownBlock → (v.ownBlock = some g ∨ g = (W.alloc (.cells cs e)).heap.size) → K (a.put o.dst (.slice (some ⟨g, 0, none⟩) (n + m) cap)) w') :
    if Region.wanted o (yielded ops a.tmps) = true then Oper.wp P o a (W.alloc (.cells cs e)) K Q else E := by
  have hw : Region.wanted o (yielded ops a.tmps) = true := by simp [Region.wanted, hgd]
  rw [if_pos hw]
  subst hk
  obtain ⟨i0, hi, hzz⟩ := Option.map_eq_some_iff.1 hinfo
  simp only [Prod.mk.injEq] at hzz
  obtain ⟨hz0, hz1, hz2⟩ := hzz
  obtain ⟨v', w', hr, r1, r2, _, r4⟩ := run_append_own_at (P := P) (W.alloc (.cells cs e)) base t o.type e i0 z size bytes ht hi hz0 hz1 hz2 hzs hsz v n xs hown ⟨W.heap.size, 0, none⟩ m c cs.toList (by simpa using hcl)
    (fun j u hj => by
      by_cases h0 : j = 0
      · subst h0; simp [Addr.add]; simpa using hj
      · simp [Addr.add, h0]; simpa using hj) h1 (by simp only [maxLen]; omega) hl hbase
  unfold Oper.wp execOp
  simp only [ho, resolve, invoke, builtin, Sem.run_bind, Sem.run_pure, Result.andThen_ok, List.map_toArray, List.map_cons, List.map_nil, hs, hx, hr]
  rcases r1.2 with ⟨_, h0⟩ | ⟨g, cap, cur, rfl, hrest⟩
  · omega
  · have hob : (Value.slice (some ⟨g, 0, none⟩) (n + m) cap).ownBlock = some g := rfl
    rw [hob] at r4
    refine h g cap w' r1 r2 ?_
    rcases r4 with hat | hat
    · exact .inl hat.symm
    · injection hat with hat; exact .inr hat
theorem AppV.set (h : AppV e size base w0 v0 W v n xs) {q : Addr} (hq : w0.heap.size ≤ q.block) (hv : v.ownBlock ≠ some q.block) (y : Value) : AppV e size base w0 v0 (W.setCell q y) v n xs := by
  refine ⟨h.own.kept (grown_set W q y) ?_, gt_set_r h.grown _ _ hq, h.at_⟩
  cases hx : v.ownBlock with
  | none => exact .inl rfl
  | some b => exact .inr fun e => hv (by rw [hx, e])
end
end Go.Proofs.YtlpaecafpbbbkaaGreatDoor
namespace Go.Proofs.YtlpaecafpbbbkaaGreatDoor
open Go.RowKit

/-- What holds of the world while a geometry is filled in block ob: W the call's world at its start, W1 the world in which the filling began, base its size: what lay below base stands, but ob. -/
structure Und (W W1 : World) (base ob : Nat) (wr : World) : Prop where
  g : W.grownBy wr none
  lo : W.heap.size ≤ ob
  lt : ob < base
  big : base ≤ wr.heap.size
  keep : ∀ a x, a.block < base → a.block ≠ ob → W1.cell? a = some x → wr.cell? a = some x
  kf : ∀ b j, b < base → b ≠ ob → wr.frozen? ⟨b, j, none⟩ = W1.frozen? ⟨b, j, none⟩
  of_ : ∀ j, wr.frozen? ⟨ob, j, none⟩ = false
section
variable {W W1 wr w w1 w2 : World} {base ob : Nat}
theorem Und.start (g : W.grownBy W1 none) (lo : W.heap.size ≤ ob) (lt : ob < W1.heap.size) (hf : ∀ j, W1.frozen? ⟨ob, j, none⟩ = false) : Und W W1 W1.heap.size ob W1 :=
  ⟨g, lo, lt, Nat.le_refl _, fun _ _ _ _ h => h, fun _ _ _ _ => rfl, hf⟩
theorem Und.grow (i : Und W W1 base ob wr) {r : Option Nat} (g : wr.grownBy w r) (hr : ∀ b, r = some b → base ≤ b) : Und W W1 base ob w := by
  have hb := i.big
  have hlo := i.lo
  have hlt := i.lt
  have hne : ∀ b, b < base → some b ≠ r := fun b h e => by have := hr b e.symm; omega
  refine ⟨gt_trans i.g g ?_, i.lo, i.lt, Nat.le_trans i.big g.size, fun a x h1 h2 h3 => g.cell (i.keep a x h1 h2 h3) (hne _ h1), fun b j h1 h2 => ?_, fun j => ?_⟩
  · cases hx : r with
    | none => exact .inl rfl
    | some b => exact .inr (.inr ⟨b, rfl, by have := hr b hx; omega⟩)
  · rw [World.frozen?_of_block (g.block b (by omega) (hne b h1))]; exact i.kf b j h1 h2
  · rw [World.frozen?_of_block (g.block ob (by omega) (hne ob hlt))]; exact i.of_ j
theorem Und.kept (i : Und W W1 base ob wr) (g : wr.grownBy w none) : Und W W1 base ob w := i.grow g (fun b e => by cases e)
theorem Und.set (i : Und W W1 base ob wr) (j : Nat) (y : Value) : Und W W1 base ob (wr.setCell ⟨ob, j, none⟩ y) := by
  have hsz : (wr.setCell ⟨ob, j, none⟩ y).heap.size = wr.heap.size := by simp [World.setCell]
  refine ⟨gt_set_r i.g _ _ i.lo, i.lo, i.lt, by rw [hsz]; exact i.big, fun a x h1 h2 h3 => ?_, fun b l h1 h2 => ?_, fun l => ?_⟩
  · rw [World.cell?_setCell_other (h := fun e => by subst e; exact h2 rfl)]; exact i.keep a x h1 h2 h3
  · rw [World.frozen?_setCell]; exact i.kf b l h1 h2
  · rw [World.frozen?_setCell]; exact i.of_ l
/-- The numbers grow; no parts yet. -/
structure NumB (W W1 : World) (base ob : Nat) (wr : World) (k d : Int) (x : Value) (n : Nat) (xs : List Value) : Prop where
  u : Und W W1 base ob wr
  o0 : wr.cell? ⟨ob, 0, none⟩ = some (.int .i64 k)
  o1 : wr.cell? ⟨ob, 1, none⟩ = some (.int .i64 d)
  o2 : wr.cell? ⟨ob, 2, none⟩ = some x
  o3 : wr.cell? ⟨ob, 3, none⟩ = some (.slice none 0 0)
  own : wr.ownsRow base 26 1 x n xs
variable {k d : Int} {x : Value} {n : Nat} {xs : List Value}
theorem NumB.kept (i : NumB W W1 base ob wr k d x n xs) (g : wr.grownBy w none) : NumB W W1 base ob w k d x n xs :=
  ⟨i.u.kept g, g.cell i.o0 (by simp), g.cell i.o1 (by simp), g.cell i.o2 (by simp), g.cell i.o3 (by simp), i.own.kept g (by cases x.ownBlock <;> simp)⟩
theorem NumB.app (i : NumB W W1 base ob wr k d x n xs) (g1 : wr.grownBy w1 none) (g2 : w1.grownBy w2 x.ownBlock) {x' : Value} {n' : Nat} {ys : List Value} (hown : w2.ownsRow base 26 1 x' n' ys) : NumB W W1 base ob (w2.setCell ⟨ob, 2, none⟩ x') k d x' n' ys := by
  have j := i.kept g1
  have hlt := j.own.lt
  have hb := j.u.lt
  have hr : ∀ b, x.ownBlock = some b → base ≤ b := fun b e => (hlt b e).1
  have hne : some ob ≠ x.ownBlock := fun e => by have := hr ob e.symm; omega
  have u2 := j.u.grow g2 hr
  have z2 := World.cell?_setCell_same (v := x') (h := g2.cell j.o2 hne)
  refine ⟨u2.set 2 x', ?_, ?_, z2, ?_, hown.kept (grown_set w2 ⟨ob, 2, none⟩ x') ?_⟩
  · rw [World.cell?_setCell_other (h := by simp)]; exact g2.cell j.o0 hne
  · rw [World.cell?_setCell_other (h := by simp)]; exact g2.cell j.o1 hne
  · rw [World.cell?_setCell_other (h := by simp)]; exact g2.cell j.o3 hne
  · cases hx : x'.ownBlock with
    | none => exact .inl rfl
    | some b => exact .inr fun e => by injection e with e; have := (hown.lt b hx).1; have e2 : b = ob := e; omega
/-- Floats as cells. -/
def flC (f : Nat → Nat) (n : Nat) : List Value := (List.range n).map fun i => .float .f64 (f i)
theorem flC_len (f : Nat → Nat) (n : Nat) : (flC f n).length = n := by simp [flC]
theorem flC_at (f : Nat → Nat) (n i : Nat) (h : i < n) : (flC f n)[i]? = some (.float .f64 (f i)) := by simp [flC, h]
/-- The numbers stand; the parts grow. -/
structure KidB (W W1 : World) (base ob : Nat) (wr : World) (h : Nat) (k d : Int) (p : Option Addr) (n c : Nat) (f : Nat → Nat) (y : Value) (ts : List Raw) (cs : List Value) : Prop where
  u : Und W W1 base ob wr
  o0 : wr.cell? ⟨ob, 0, none⟩ = some (.int .i64 k)
  o1 : wr.cell? ⟨ob, 1, none⟩ = some (.int .i64 d)
  o2 : wr.cell? ⟨ob, 2, none⟩ = some (.slice p n c)
  o3 : wr.cell? ⟨ob, 3, none⟩ = some y
  nums : FVal wr p n f
  n1 : n ≤ c
  n2 : c ≤ maxLen
  n3 : p = none → c = 0
  nb : ∀ a, p = some a → base ≤ a.block ∧ a.block < wr.heap.size ∧ y.ownBlock ≠ some a.block
  kr : KRow base h wr y ts cs
theorem KidB.of_num {f : Nat → Nat} (i : NumB W W1 base ob wr k d x n (flC f n)) (h : Nat) (hf : ∀ i, f i < 18446744073709551616) : ∃ p c, x = .slice p n c ∧ KidB W W1 base ob wr h k d p n c f (.slice none 0 0) [] [] := by
  obtain ⟨q, c, hx, hl1, hl2, hl3, hob⟩ := own_form i.own
  subst hx
  obtain ⟨s1, s2⟩ := own_at i.own
  refine ⟨q, c, rfl, i.u, i.o0, i.o1, i.o2, i.o3, ⟨s1, fun a ha j hj => s2 a ha j _ (flC_at f n j hj), hf⟩, hl1, hl2, hl3, fun a ha => ?_, KRow.nil _ _ _⟩
  have := i.own.lt a.block (hob a ha)
  exact ⟨this.1, this.2, by simp [Value.ownBlock]⟩
variable {p : Option Addr} {c h : Nat} {f : Nat → Nat} {y : Value} {ts : List Raw} {cs : List Value}
theorem KidB.kept (i : KidB W W1 base ob wr h k d p n c f y ts cs) (g : wr.grownBy w none) : KidB W W1 base ob w h k d p n c f y ts cs :=
  ⟨i.u.kept g, g.cell i.o0 (by simp), g.cell i.o1 (by simp), g.cell i.o2 (by simp), g.cell i.o3 (by simp), i.nums.mono g, i.n1, i.n2, i.n3, fun a ha => ⟨(i.nb a ha).1, Nat.lt_of_lt_of_le (i.nb a ha).2.1 g.size, (i.nb a ha).2.2⟩, i.kr.kept g⟩
theorem KidB.snoc {w1 w2 w3 w4 : World} (i : KidB W W1 base ob wr h k d p n c f y ts cs) (g1 : wr.grownBy w1 none) (g2 : w1.grownBy w2 none) (g3 : w2.grownBy w3 none) {c0 c1 c2 c3 : Value} {t : Raw} (hk : KD (Fr w1 w2) h w2 (.agg #[c0, c1, c2, c3]) t) {gg cap : Nat}
    (hown : w4.ownsRow base 33 4 (.slice (some ⟨gg, 0, none⟩) (ts.length + 1) cap) (ts.length + 1) (cs ++ [c0, c1, c2, c3])) (g4 : w3.grownBy w4 y.ownBlock) (hg : y.ownBlock = some gg ∨ gg = w3.heap.size) :
    KidB W W1 base ob (w4.setCell ⟨ob, 3, none⟩ (.slice (some ⟨gg, 0, none⟩) (ts.length + 1) cap)) h k d p n c f (.slice (some ⟨gg, 0, none⟩) (ts.length + 1) cap) (ts ++ [t]) (cs ++ [c0, c1, c2, c3]) := by
  have hsn := i.kr.snoc i.u.big g1 g2 g3 hk hown g4 hg
  have j := ((i.kept g1).kept g2).kept g3
  have hlt := i.kr.1.lt
  have hb := i.u.big
  have hlo := i.u.lt
  have s1 := g1.size
  have s2 := g2.size
  have s3 := g3.size
  have s4 := g4.size
  have hr : ∀ b, y.ownBlock = some b → base ≤ b := fun b e => (hlt b e).1
  have hne : some ob ≠ y.ownBlock := fun e => by have := hr ob e.symm; omega
  have hsz : (w4.setCell ⟨ob, 3, none⟩ (.slice (some ⟨gg, 0, none⟩) (ts.length + 1) cap)).heap.size = w4.heap.size := by simp [World.setCell]
  have z3 := World.cell?_setCell_same (v := .slice (some ⟨gg, 0, none⟩) (ts.length + 1) cap) (h := g4.cell j.o3 hne)
  refine ⟨(j.u.grow g4 hr).set 3 _, ?_, ?_, ?_, z3, ?_, i.n1, i.n2, i.n3, ?_, hsn.set (by show ob < base; omega) _⟩
  · rw [World.cell?_setCell_other (h := by simp)]; exact g4.cell j.o0 hne
  · rw [World.cell?_setCell_other (h := by simp)]; exact g4.cell j.o1 hne
  · rw [World.cell?_setCell_other (h := by simp)]; exact g4.cell j.o2 hne
  · have h1 := j.nums.keep (B := fun b => base ≤ b ∧ b < w3.heap.size ∧ y.ownBlock ≠ some b) (.grownRow g4 (fun b hb' hB => hB.2.2 hb')) j.nb
    exact h1.keep (B := fun b => base ≤ b ∧ b < w3.heap.size ∧ y.ownBlock ≠ some b) (.set (fun hB => by have h2 : base ≤ ob := hB.1; omega) _) j.nb
  · intro a ha
    obtain ⟨b1, b2, b3⟩ := j.nb a ha
    refine ⟨b1, by rw [hsz]; omega, fun e => ?_⟩
    have e' : gg = a.block := by injection e
    rcases hg with hg | hg
    · exact b3 (by rw [hg, e'])
    · omega
theorem KidB.kd (i : KidB W W1 base ob wr h k d p n c f y ts cs) : KD (fun b => base ≤ b ∧ b < wr.heap.size) (h + 1) wr (.agg #[.int .i64 k, .int .i64 d, .slice p n c, y]) (.mk k d n f ts) :=
  i.kr.kd i.nums i.n1 i.n2 i.n3 (fun a ha => ⟨(i.nb a ha).1, (i.nb a ha).2.1⟩) (fun _ h1 h2 => ⟨h1, h2⟩)
/-- The whole geometry, laid into the result's block. -/
theorem KidB.end_ (i : KidB W W1 base ob wr h k d p n c f y ts cs) (rb : Nat) (hr : W.heap.size ≤ rb) (hr2 : rb < base) :
    KD (Fr W ((((wr.setCell ⟨rb, 0, none⟩ (.int .i64 k)).setCell ⟨rb, 1, none⟩ (.int .i64 d)).setCell ⟨rb, 2, none⟩ (.slice p n c)).setCell ⟨rb, 3, none⟩ y)) (h + 1) ((((wr.setCell ⟨rb, 0, none⟩ (.int .i64 k)).setCell ⟨rb, 1, none⟩ (.int .i64 d)).setCell ⟨rb, 2, none⟩ (.slice p n c)).setCell ⟨rb, 3, none⟩ y) (.agg #[.int .i64 k, .int .i64 d, .slice p n c, y]) (.mk k d n f ts) ∧
    W.grownBy ((((wr.setCell ⟨rb, 0, none⟩ (.int .i64 k)).setCell ⟨rb, 1, none⟩ (.int .i64 d)).setCell ⟨rb, 2, none⟩ (.slice p n c)).setCell ⟨rb, 3, none⟩ y) none := by
  have hlo := i.u.lo
  have hlt := i.u.lt
  have ks : ∀ (w : World) (j : Nat) (y : Value), Kept (fun b => base ≤ b ∧ b < wr.heap.size) w (w.setCell ⟨rb, j, none⟩ y) := fun w j y => .set (fun hB => by have h2 : base ≤ rb := hB.1; omega) y
  have gs : ∀ (w : World) (j : Nat) (y : Value), W.grownBy w none → W.grownBy (w.setCell ⟨rb, j, none⟩ y) none := fun w j y g => gt_set_r g _ _ hr
  refine ⟨((((i.kd.keep (ks _ _ _)).keep (ks _ _ _)).keep (ks _ _ _)).keep (ks _ _ _)).weak fun b hb => ⟨by have := hb.1; omega, by simp [World.setCell]; exact hb.2⟩, gs _ _ _ (gs _ _ _ (gs _ _ _ (gs _ _ _ i.u.g)))⟩
end
end Go.Proofs.YtlpaecafpbbbkaaGreatDoor
namespace Go.Proofs.YtlpaecafpbbbkaaGreatDoor
open Go.Joins Go.ChangeShapes Go.WideShapes Go.RowKit Go.Deep Go.ChangeAt

/-- A whole number as a float's bits. -/
def fI (i : Int) : Nat := floatOfInt FloatKind.f64 i
theorem fI_lt (i : Int) : fI i < 18446744073709551616 := by
  have h := Ieee.Format.write_lt FloatKind.f64.format (.number (i < 0) i.natAbs 0)
  have e : 2 ^ FloatKind.f64.format.width = 18446744073709551616 := by decide
  rw [e] at h
  exact h
def ptF (pts : List (Int × Int)) (i : Nat) : Nat := if i % 2 = 0 then fI (pts.getD (i / 2) (0, 0)).1 else fI (pts.getD (i / 2) (0, 0)).2
theorem ptF_lt (pts : List (Int × Int)) (i : Nat) : ptF pts i < 18446744073709551616 := by unfold ptF; split <;> exact fI_lt _
mutual
def rawS : Shp → Raw
  | .mk k pts kids => .mk k 0 (2 * pts.length) (ptF pts) (rawSs kids)
def rawSs : List Shp → List Raw
  | [] => []
  | t :: ts => rawS t :: rawSs ts
end
mutual
/-- No row is longer than 2000. -/
def okS : Shp → Prop
  | .mk _ pts kids => pts.length ≤ 2000 ∧ kids.length ≤ 2000 ∧ okSs kids
def okSs : List Shp → Prop
  | [] => True
  | t :: ts => okS t ∧ okSs ts
end
theorem okSs_mem : ∀ {ts : List Shp} {i : Nat} {t : Shp}, okSs ts → ts[i]? = some t → okS t
  | [], _, _, _, h => by simp at h
  | s :: ts, 0, t, h, hi => by simp at hi; subst hi; unfold okSs at h; exact h.1
  | s :: ts, i + 1, t, h, hi => by unfold okSs at h; exact okSs_mem h.2 (by simpa using hi)
theorem rawSs_append : ∀ (a b : List Shp), rawSs (a ++ b) = rawSs a ++ rawSs b
  | [], b => by simp [rawSs]
  | t :: a, b => by simp only [List.cons_append, rawSs, rawSs_append a b]
theorem rawSs_len : ∀ (a : List Shp), (rawSs a).length = a.length
  | [] => by simp [rawSs]
  | t :: a => by simp only [rawSs, List.length_cons, rawSs_len a]
theorem rawSs_take (kids : List Shp) (j : Nat) (t : Shp) (h : kids[j]? = some t) : rawSs (kids.take (j + 1)) = rawSs (kids.take j) ++ [rawS t] := by
  obtain ⟨hlt, rfl⟩ := List.getElem?_eq_some_iff.1 h
  rw [List.take_succ_eq_append_getElem hlt, rawSs_append]
  simp [rawSs]
theorem flC_two (pts : List (Int × Int)) (j : Nat) (u : Int × Int) (h : pts[j]? = some u) : flC (ptF pts) (2 * (j + 1)) = flC (ptF pts) (2 * j) ++ [.float .f64 (fI u.1), .float .f64 (fI u.2)] := by
  have e : 2 * (j + 1) = 2 * j + 1 + 1 := by omega
  have e0 : ptF pts (2 * j) = fI u.1 := by
    unfold ptF
    rw [if_pos (by omega), show 2 * j / 2 = j by omega, List.getD_eq_getElem?_getD, h]; rfl
  have e1 : ptF pts (2 * j + 1) = fI u.2 := by
    unfold ptF
    rw [if_neg (by omega), show (2 * j + 1) / 2 = j by omega, List.getD_eq_getElem?_getD, h]; rfl
  rw [e]
  unfold flC
  rw [List.range_succ, List.range_succ]
  simp [e0, e1]
theorem infoFl : (Tryz.prog.info? 26).map (fun i => (i.zero, i.size, i.bytes)) = some (some (.float .f64 0), 1, 8) := by kernel_rfl
/-- The world in which GeomOf begins to fill its geometry. -/
def WS (W : World) (s0 s1 s2 : Value) (k : Int) : World := ((W.alloc (.cells #[s0, s1, s2] 25)).alloc (.cells #[.int .i64 0, .int .i64 0, .slice none 0 0, .slice none 0 0] 33)).alloc (.cells #[.int .i64 k, .int .i64 0, .slice none 0 0, .slice none 0 0] 33)
theorem WS_size (W : World) (s0 s1 s2 : Value) (k : Int) : (WS W s0 s1 s2 k).heap.size = W.heap.size + 3 := by simp [WS]
theorem WS_num (W : World) (s0 s1 s2 : Value) (k : Int) : NumB W (WS W s0 s1 s2 k) (W.heap.size + 3) (W.heap.size + 1 + 1) (WS W s0 s1 s2 k) k 0 (.slice none 0 0) 0 [] := by
  have hs := WS_size W s0 s1 s2 k
  have g : W.grownBy (WS W s0 s1 s2 k) none := gt_alloc_r (gt_alloc_r (World.grownBy_alloc W _ none) _) _
  have co : ∀ j v, #[Value.int .i64 k, .int .i64 0, .slice none 0 0, .slice none 0 0][j]? = some v → (WS W s0 s1 s2 k).cell? ⟨W.heap.size + 1 + 1, j, none⟩ = some v := fun j v hv => (cell_new_at' ((W.alloc (.cells #[s0, s1, s2] 25)).alloc (.cells #[.int .i64 0, .int .i64 0, .slice none 0 0, .slice none 0 0] 33)) _ _ (W.heap.size + 1 + 1) j (by simp)).trans hv
  refine ⟨⟨g, by omega, by omega, by omega, fun _ _ _ _ h => h, fun _ _ _ _ => rfl, fun j => ?_⟩, co 0 _ rfl, co 1 _ rfl, co 2 _ rfl, co 3 _ rfl, World.ownsRow_nil _ _ _ _⟩
  exact frozen_new_at' _ _ _ _ j (by simp)
theorem WS_old (W wr : World) (s0 s1 s2 : Value) (k : Int) (u : Und W (WS W s0 s1 s2 k) (W.heap.size + 3) (W.heap.size + 1 + 1) wr) :
    (wr.cell? ⟨W.heap.size, 0, none⟩ = some s0 ∧ wr.cell? ⟨W.heap.size, 1, none⟩ = some s1 ∧ wr.cell? ⟨W.heap.size, 2, none⟩ = some s2) ∧
    (wr.cell? ⟨W.heap.size + 1, 0, none⟩ = some (.int .i64 0) ∧ wr.cell? ⟨W.heap.size + 1, 1, none⟩ = some (.int .i64 0) ∧ wr.cell? ⟨W.heap.size + 1, 2, none⟩ = some (.slice none 0 0) ∧ wr.cell? ⟨W.heap.size + 1, 3, none⟩ = some (.slice none 0 0)) ∧ ∀ j, wr.frozen? ⟨W.heap.size + 1, j, none⟩ = false := by
  have ca : ∀ j v, #[s0, s1, s2][j]? = some v → wr.cell? ⟨W.heap.size, j, none⟩ = some v := fun j v hv => u.keep ⟨W.heap.size, j, none⟩ v (by show W.heap.size < _; omega) (by show W.heap.size ≠ _; omega)
    ((gt_alloc_r (World.grownBy_alloc (W.alloc (.cells #[s0, s1, s2] 25)) _ none) _).cell ((cell_new_at' W #[s0, s1, s2] 25 W.heap.size j rfl).trans hv) (by simp))
  have gr : ((W.alloc (.cells #[s0, s1, s2] 25)).alloc (.cells #[.int .i64 0, .int .i64 0, .slice none 0 0, .slice none 0 0] 33)).grownBy (WS W s0 s1 s2 k) none := World.grownBy_alloc _ _ _
  have cr : ∀ j v, #[Value.int .i64 0, .int .i64 0, .slice none 0 0, .slice none 0 0][j]? = some v → wr.cell? ⟨W.heap.size + 1, j, none⟩ = some v := fun j v hv => u.keep ⟨W.heap.size + 1, j, none⟩ v (by show W.heap.size + 1 < _; omega) (by show W.heap.size + 1 ≠ _; omega)
    (gr.cell ((cell_new_at' (W.alloc (.cells #[s0, s1, s2] 25)) _ _ (W.heap.size + 1) j (by simp)).trans hv) (by simp))
  refine ⟨⟨ca 0 _ rfl, ca 1 _ rfl, ca 2 _ rfl⟩, ⟨cr 0 _ rfl, cr 1 _ rfl, cr 2 _ rfl, cr 3 _ rfl⟩, fun j => ?_⟩
  rw [u.kf (W.heap.size + 1) j (by omega) (by omega), World.frozen?_of_block (gr.block (W.heap.size + 1) (by simp) (by simp))]
  exact frozen_new_at' _ _ _ _ j (by simp)

def IHS (h : Nat) : Prop := ∀ (W : World) (v : Value) (t : Shp), KS h W v t → okS t → Calls Tryz.prog 33 #[v] W fun e w' => ∃ v', e = .returned v' ∧ KD (Fr W w') h w' v' (rawS t) ∧ W.grownBy w' none
set_option maxRecDepth 100000 in
set_option maxHeartbeats 4000000 in
theorem geomOf_succ (h : Nat) (ih : IHS h) : IHS (h + 1) := by
  intro W v t hk hok
  obtain ⟨k, pts, kids⟩ := t
  obtain ⟨p, cap, q, c2, rfl, hpr, hkl, hkm, hkn, hkids⟩ := hk
  unfold okS at hok
  obtain ⟨hp2, hm2, hoks⟩ := hok
  have HPt : Hid (∀ w, W.grownBy w none → ∀ j, j < pts.length → ∃ a u, p = some a ∧ pts[j]? = some u ∧ w.cell? (a.add (j * 2)) = some (.int .i64 u.1) ∧ w.cell? ⟨(a.add (j * 2)).block, (a.add (j * 2)).off + 1, none⟩ = some (.int .i64 u.2)) := fun w g j hj => by
    obtain ⟨a, ha⟩ := hpr.some_ (by omega)
    have hi : pts[j]? = some (pts[j]'hj) := List.getElem?_eq_getElem hj
    obtain ⟨q0, q1⟩ := (hpr.mono g).at_ a ha j _ hi
    exact ⟨a, _, ha, hi, q0, q1⟩
  have HKd : Hid (∀ w, W.grownBy w none → ∀ j, j < kids.length → ∃ a t c0 c1 c2, q = some a ∧ kids[j]? = some t ∧ KS h w (.agg #[c0, c1, c2]) t ∧ w.cell? (a.add (j * 3)) = some c0 ∧ w.cell? ⟨(a.add (j * 3)).block, (a.add (j * 3)).off + 1, none⟩ = some c1 ∧ w.cell? ⟨(a.add (j * 3)).block, (a.add (j * 3)).off + 2, none⟩ = some c2) := fun w g j hj => by
    obtain ⟨a, ha⟩ : ∃ a, q = some a := by
      cases q with
      | none => have := hkn rfl; omega
      | some a => exact ⟨a, rfl⟩
    have hi : kids[j]? = some (kids[j]'hj) := List.getElem?_eq_getElem hj
    obtain ⟨c0, c1, c2, k0, q0, q1, q2⟩ := hkids a ha j _ hi
    exact ⟨a, _, c0, c1, c2, ha, hi, k0.mono g, g.cell q0 (by simp), g.cell q1 (by simp), g.cell q2 (by simp)⟩
  have HIH : Hid (∀ w v j t, kids[j]? = some t → KS h w v t → Calls Tryz.prog 33 #[v] w fun e w' => ∃ v', e = .returned v' ∧ KD (Fr w w') h w' v' (rawS t) ∧ w.grownBy w' none) := fun w v j t hj hk => ih w v t hk (okSs_mem hoks hj)
  have HFl := Lib.hid (fun j u (hj : pts[j]? = some u) => flC_two pts j u hj)
  have HRt := Lib.hid (fun j t (hj : kids[j]? = some t) => rawSs_take kids j t hj)
  have HRl : Hid (∀ j, j ≤ kids.length → (rawSs (kids.take j)).length = j) := fun j hj => by rw [rawSs_len, List.length_take]; omega
  have HR0 : Hid (rawSs (kids.take 0) = []) := by show rawSs (kids.take 0) = []; rw [List.take_zero]; simp [rawSs]
  have HRe : Hid (rawSs (kids.take kids.length) = rawSs kids) := by show rawSs (kids.take kids.length) = _; rw [List.take_length]
  have HLt := Lib.hid (ptF_lt pts)
  have HO := Lib.hid (fun wr u => WS_old W wr (.int .i64 k) (.slice p pts.length cap) (.slice q kids.length c2) k u)
  have HN0 := Lib.hid (WS_num W (.int .i64 k) (.slice p pts.length cap) (.slice q kids.length c2) k)
  obtain ⟨WW, hWW⟩ : ∃ WW, WW = WS W (.int .i64 k) (.slice p pts.length cap) (.slice q kids.length c2) k := ⟨_, rfl⟩
  have HWW : Hid (WW = ((W.alloc (.cells #[.int .i64 k, .slice p pts.length cap, .slice q kids.length c2] 25)).alloc (.cells #[.int .i64 0, .int .i64 0, .slice none 0 0, .slice none 0 0] 33)).alloc (.cells #[.int .i64 k, .int .i64 0, .slice none 0 0, .slice none 0 0] 33)) := by rw [hWW]; rfl
  rw [← hWW] at HN0
  simp only [← hWW] at HO
  unfold rawS
  generalize ptF pts = F at HFl HLt ⊢
  generalize rawSs kids = RK at HRe ⊢
  generalize hN : pts.length = N at HPt HO HN0 HWW hp2 ⊢
  generalize hM : kids.length = M at HKd HRl HRe HO HN0 HWW hm2 ⊢
  clear hpr hkids hkn hoks hWW hN hM ih hkl hkm
  have hsf := run_store_flt Tryz.prog
  go_enter Tryz.func33, Tryz.ntmps33
  go_wp2_with fail
  rw [← HWW.out]
  go_loopw [14] (fun i wr => ∃ (j : Nat) (x : Value), j ≤ N ∧ i = .int .i64 j ∧ NumB W WW (W.heap.size + 3) (W.heap.size + 1 + 1) wr k 0 x (2 * j) (flC F (2 * j))) (fun i _ => N - (intOf i).toNat)
  case atStart => exact ⟨0, _, by omega, rfl, HN0.out⟩
  case round =>
    obtain ⟨j, x, hj, rfl, I⟩ := hrel
    rename World => wr
    by_cases hjN : j < N
    · obtain ⟨a, ⟨ux, uy⟩, rfl, hu, q0, q1⟩ := HPt.out wr I.u.g j hjN
      have HFj := Lib.hid (HFl.out j _ hu)
      have hbig := I.u.big
      have hz : W.heap.size + 1 + 1 < wr.heap.size := by omega
      have o2 := I.o2
      obtain ⟨px, cx, rfl⟩ : ∃ px cx, x = .slice px (2 * j) cx := by
        obtain ⟨px, cx, e, _⟩ := own_form I.own
        exact ⟨px, cx, e⟩
      have HI := Lib.hid I
      have HX7 : Hid (∀ w6 w7, wr.grownBy w6 none → w6.grownBy w7 (Value.slice px (2 * j) cx).ownBlock → w7.cell? ⟨W.heap.size + 1 + 1, 2, none⟩ = some (.slice px (2 * j) cx) ∧ w7.frozen? ⟨W.heap.size + 1 + 1, 2, none⟩ = false) := fun w6 w7 g g' => by
        have hi := HI.out.kept g
        have hne : some (W.heap.size + 1 + 1) ≠ (Value.slice px (2 * j) cx).ownBlock := fun e => by have := (hi.own.lt _ e.symm).1; omega
        exact ⟨g'.cell hi.o2 hne, by rw [World.frozen?_of_block (g'.block (W.heap.size + 1 + 1) (by have := hi.u.big; omega) hne)]; exact hi.u.of_ 2⟩
      clear hu I
      go_wp2_with (at_builtin; refine app_cells2 (size := 1) (n := 2 * j) (xs := flC F (2 * j)) (base := W.heap.size + 3) rfl _ _ _ rfl Tryz.underlying30 (.float .f64 0) 8 infoFl rfl (Nat.succ_pos 0) rfl rfl (by simp) _ (HI.out.kept (gt_alloc_r (World.grownBy_alloc _ _ _) _)).own rfl (by simp [Value.oneCell']) (Nat.succ_pos 1) (by simp; omega) (by omega) (by omega) ?_; intro gg cap7 w7 hown7 hg7 hat7; obtain ⟨u2, uf⟩ := HX7.out _ _ (gt_alloc_r (World.grownBy_alloc _ _ _) _) hg7; have HFin := Lib.hid (HI.out.app (gt_alloc_r (World.grownBy_alloc _ _ _) _) hg7 hown7); clear hown7 hg7 hat7)
      exact ⟨⟨j + 1, _, by omega, by go_num, by rw [HFj.out]; exact HFin.out⟩, by simp [intOf]; omega⟩
    · obtain rfl : j = N := by omega
      obtain ⟨⟨s0, s1, s2⟩, _, _⟩ := HO.out _ I.u
      obtain ⟨pn, cn, rfl, I2⟩ := KidB.of_num I h HLt.out
      have hI2 := Lib.hid I2
      have o3 := I2.o3
      clear I I2
      go_wp2_with fail
      go_wp2_with fail
      clear s0 s1 s2 o3
      go_loopw [33] (fun i w2 => ∃ (l : Nat) (y : Value) (cs : List Value), l ≤ M ∧ i = .int .i64 l ∧ KidB W WW (W.heap.size + 3) (W.heap.size + 1 + 1) w2 h k 0 pn (2 * j) cn F y (rawSs (kids.take l)) cs) (fun i _ => M - (intOf i).toNat)
      case atStart => exact ⟨0, _, _, by omega, rfl, by rw [HR0.out]; exact hI2.out⟩
      case round =>
        clear hI2
        obtain ⟨l, y, cs, hl, rfl, I⟩ := hrel
        rename World => w2
        have hll := HRl.out l hl
        obtain ⟨py, cy, rfl, _⟩ := own_form I.kr.1
        rw [hll] at I
        by_cases hlM : l < M
        · obtain ⟨a, t, c0, c1, c2', rfl, hti, kk, q0, q1, q2⟩ := HKd.out w2 I.u.g l hlM
          obtain ⟨k1, pts1, kids1, p1, cap1, q1', cq1, _, rfl, rfl, rfl⟩ := kk.form3
          generalize pts1.length = n1 at kk q1
          generalize kids1.length = m1 at kk q2
          have hbig := I.u.big
          have hz : W.heap.size + 1 + 1 < w2.heap.size := by omega
          have HG5 := Lib.hid (World.grownBy_alloc w2 (.cells #[.int .i64 k1, .slice p1 n1 cap1, .slice q1' m1 cq1] 25) none)
          have HK5 : Hid (∀ w, w2.grownBy w none → Calls Tryz.prog 33 #[.agg #[.int .i64 k1, .slice p1 n1 cap1, .slice q1' m1 cq1]] w (fun e w' => ∃ k6 d6 p6 n6 cap6 q6 m6 cq6, e = .returned (.agg #[.int .i64 k6, .int .i64 d6, .slice p6 n6 cap6, .slice q6 m6 cq6]) ∧ KD (Fr w w') h w' (.agg #[.int .i64 k6, .int .i64 d6, .slice p6 n6 cap6, .slice q6 m6 cq6]) (rawS t) ∧ w.grownBy w' none)) := fun w g => (HIH.out w _ l t hti (kk.mono g)).mono fun e w' ⟨v', he, hk, hg⟩ => by
            obtain ⟨k6, d6, n6, f6, kids6, p6, cap6, q6, cq6, _, hv⟩ := hk.form
            exact ⟨k6, d6, p6, n6, cap6, q6, _, cq6, by rw [he, hv], by rw [← hv]; exact hk, hg⟩
          have HRj := Lib.hid (HRt.out l t hti)
          have HI := Lib.hid I
          have HOw : Hid (∀ w, w2.grownBy w none → w.ownsRow (W.heap.size + 3) 33 4 (.slice py l cy) l cs) := fun w g => by
            have hh := (HI.out.kept g).kr.1
            rw [hll] at hh
            exact hh
          have HX7 : Hid (∀ w6 w7, w2.grownBy w6 none → w6.grownBy w7 (Value.slice py l cy).ownBlock → w7.cell? ⟨W.heap.size + 1 + 1, 3, none⟩ = some (.slice py l cy) ∧ w7.frozen? ⟨W.heap.size + 1 + 1, 3, none⟩ = false) := fun w6 w7 g g' => by
            have hi := HI.out.kept g
            have hne : some (W.heap.size + 1 + 1) ≠ (Value.slice py l cy).ownBlock := fun e => by have := (hi.kr.1.lt _ e.symm).1; omega
            exact ⟨g'.cell hi.o3 hne, by rw [World.frozen?_of_block (g'.block (W.heap.size + 1 + 1) (by have := hi.u.big; omega) hne)]; exact hi.u.of_ 3⟩
          have HSn : Hid (∀ (w1 w4 w5 w7 : World) (d0 d1 d2 d3 : Value) (gg cap : Nat), w2.grownBy w1 none → w1.grownBy w4 none → w4.grownBy w5 none → KD (Fr w1 w4) h w4 (.agg #[d0, d1, d2, d3]) (rawS t) → w7.ownsRow (W.heap.size + 3) 33 4 (.slice (some ⟨gg, 0, none⟩) (l + 1) cap) (l + 1) (cs ++ [d0, d1, d2, d3]) → w5.grownBy w7 (Value.slice py l cy).ownBlock → ((Value.slice py l cy).ownBlock = some gg ∨ gg = w5.heap.size) →
              KidB W WW (W.heap.size + 3) (W.heap.size + 1 + 1) (w7.setCell ⟨W.heap.size + 1 + 1, 3, none⟩ (.slice (some ⟨gg, 0, none⟩) (l + 1) cap)) h k 0 pn (2 * j) cn F (.slice (some ⟨gg, 0, none⟩) (l + 1) cap) (rawSs (kids.take l) ++ [rawS t]) (cs ++ [d0, d1, d2, d3])) := fun w1 w4 w5 w7 d0 d1 d2 d3 gg cap g1 g2 g3 hk hown g4 hg => by
            have hh := HI.out.snoc g1 g2 g3 hk (gg := gg) (cap := cap) (by rw [hll]; exact hown) g4 hg
            rw [hll] at hh
            exact hh
          have HS : Hid (∀ w, (w2.alloc (.cells #[.int .i64 k1, .slice p1 n1 cap1, .slice q1' m1 cq1] 25)).grownBy w none → w.cell? ⟨w2.heap.size, 0, none⟩ = some (.int .i64 k1) ∧ w.cell? ⟨w2.heap.size, 1, none⟩ = some (.slice p1 n1 cap1) ∧ w.cell? ⟨w2.heap.size, 2, none⟩ = some (.slice q1' m1 cq1) ∧ w.cell? ⟨W.heap.size + 1 + 1, 3, none⟩ = some (.slice py l cy)) := fun w g =>
            ⟨g.cell (by simp) (by simp), g.cell (by simp) (by simp), g.cell (by simp) (by simp), by have := (HI.out.kept (gt_trans HG5.out g (.inl rfl))).o3; exact this⟩
          clear I kk hti
          go_wp2_with fail
          have hgd := gt_drew_r (gt_refl (w2.alloc (.cells #[.int .i64 k1, .slice p1 n1 cap1, .slice q1' m1 cq1] 25)) none)
          obtain ⟨b0, b1, b2, b3⟩ := HS.out _ (gt_refl _ _)
          go_region_law (first
              | (rw [if_pos (by simp [Region.wanted])]; go_simp; go_at_call 33; (with_reducible refine (HK5.out _ ?_).mono ?_); exact gt_trans HG5.out hgd (.inl rfl); rintro e w5 ⟨k6, d6, p6, n6, cap6, q6, m6, cq6, rfl, hk5, hg5⟩; have Hk5 := Lib.hid hk5; clear hk5; have G6 := gt_trans hgd hg5 (.inl rfl); obtain ⟨d0, d1, d2, d3⟩ := HS.out _ G6; have hz5 : W.heap.size + 1 + 1 < w5.heap.size := by have := G6.size; simp at this; omega)
              | (refine app_cells2_step (size := 4) (n := l) (xs := cs) (base := W.heap.size + 3) rfl _ _ _ rfl Tryz.underlying31 (.agg #[.int .i64 0, .int .i64 0, .slice none 0 0, .slice none 0 0]) 64 infoG rfl (Nat.succ_pos 3) rfl rfl rfl _ (HOw.out _ (gt_alloc_r (gt_trans HG5.out G6 (.inl rfl)) _)) rfl (one4 _ _ _ _ _ _ _ _) (Nat.succ_pos 0) (by have := G6.size; simp at this ⊢; omega) (by omega) (by omega) ?_; intro gg cap7 w7 hown7 hg7 hat7; obtain ⟨u3, uf⟩ := HX7.out _ _ (gt_alloc_r (gt_trans HG5.out G6 (.inl rfl)) _) hg7; have HFin := Lib.hid (HSn.out _ _ _ _ _ _ _ _ _ _ (gt_trans HG5.out hgd (.inl rfl)) hg5 (World.grownBy_alloc _ _ _) Hk5.out hown7 hg7 hat7); clear hown7 hg7 hat7))
          all_goals
            go_wp2_with fail
            exact ⟨⟨l + 1, _, _, by omega, by go_num, by rw [HRj.out]; exact HFin.out⟩, by simp [intOf]; omega⟩
        · obtain rfl : l = M := by omega
          obtain ⟨_, ⟨r0, r1, r2, r3⟩, rf⟩ := HO.out _ I.u
          have o0 := I.o0
          have o1 := I.o1
          have o2 := I.o2
          have o3 := I.o3
          have rf0 := rf 0
          have rf1 := rf 1
          have rf2 := rf 2
          have rf3 := rf 3
          have HEnd := Lib.hid (I.end_ (W.heap.size + 1) (by omega) (by omega))
          rw [HRe.out] at HEnd
          clear I
          go_wp2_with fail
          go_wp2_with fail
          refine bodyPost_ret (by simp [results, Tryz.results33, go_sem, r0, r1, r2, r3]; try rfl) rfl ?_
          exact ⟨_, rfl, HEnd.out.1, HEnd.out.2⟩
end Go.Proofs.YtlpaecafpbbbkaaGreatDoor
namespace Go.Proofs.YtlpaecafpbbbkaaGreatDoor
open Go.RowKit

theorem ret_bool {a b : Bool} (h : a = b) : Ending.returned (.bool a) = .returned (.bool b) := by rw [h]
def WPostD (W : World) (t : Raw) (left : Int) (e : Ending) (w' : World) : Prop := ∃ r : Int, e = .returned (.int .i64 r) ∧ -1 ≤ r ∧ r ≤ 2000 ∧ (0 ≤ r → (wt t : Int) + r = left) ∧ ((wt t : Int) ≤ left → 0 ≤ r) ∧ W.grownBy w' none

set_option maxRecDepth 100000 in
set_option maxHeartbeats 1000000 in
theorem gWeightD {B : Nat → Prop} : ∀ (h : Nat) (W : World) (v : Value) (t : Raw) (left : Int), KD B h W v t → left ≤ 2000 → Calls Tryz.prog 39 #[v, .int .i64 left] W (WPostD W t left) := by
  intro h
  induction h with
  | zero => intro W v t left hk; exact hk.elim
  | succ h ih =>
    intro W v t left hk hleft
    obtain ⟨k, d, n, f, kids⟩ := t
    obtain ⟨p, cap, q, c2, rfl, hf, h1, h2, h3, hm1, hm2, hm3, hm4, _⟩ := hk
    have HM := Lib.hid hm4
    have HM3 := Lib.hid hm3
    have HT := Lib.hid (fun j t (hj : kids[j]? = some t) => wts_take_succ kids j t hj)
    have HWl : Hid (kids.length ≤ wts kids) := wts_len kids
    have HTk : Hid (∀ j, wts (kids.take j) ≤ wts kids) := fun j => by
      have := wts_append (kids.take j) (kids.drop j)
      rw [List.take_append_drop] at this
      omega
    have HE : Hid (wts (kids.take kids.length) = wts kids) := by rw [List.take_length]; rfl
    have HW : Hid ((wt (.mk k d n f kids) : Int) = 1 + n + wts kids) := by unfold wt; push_cast; rfl
    obtain ⟨m, hm⟩ : ∃ m, m = kids.length := ⟨_, rfl⟩
    have HG : Hid (∀ j, j < m → ∃ t, kids[j]? = some t) := fun j hj => ⟨kids[j]'(by omega), List.getElem?_eq_getElem (by omega)⟩
    rw [← hm] at HE HWl hm1 ⊢
    clear hm4 hm3 hm
    have hmax : maxLen = 9223372036854775807 := rfl
    by_cases hb : left < 1 ∨ left < n ∨ left < m
    · go_enter Tryz.func39, Tryz.ntmps39
      go_wp2_with fail
      all_goals first
        | (exfalso; omega)
        | (go_ret; exact ⟨-1, rfl, by omega, by omega, fun h => by omega, fun h => by rw [HW.out] at h; have := HWl.out; omega, World.grownBy_alloc _ _ _⟩)
    · obtain ⟨b1, b2, b3⟩ : 1 ≤ left ∧ (n : Int) ≤ left ∧ (m : Int) ≤ left := by omega
      clear hb
      go_enter Tryz.func39, Tryz.ntmps39
      go_wp2_with fail
      have H1 := World.grownBy_alloc W (.cells #[.int .i64 k, .int .i64 d, .slice p n cap, .slice q m c2] 33) none
      have HB : Hid (∀ W', (W.alloc (.cells #[.int .i64 k, .int .i64 d, .slice p n cap, .slice q m c2] 33)).grownBy W' none → W'.cell? ⟨W.heap.size, 3, none⟩ = some (.slice q m c2)) := fun W' g => g.cell (by simp) (by simp)
      go_loopw [1, 5] (fun l i wr => ∃ (r : Int) (j : Nat), l = .int .i64 r ∧ i = .int .i64 j ∧ j ≤ m ∧ -1 ≤ r ∧ r ≤ 2000 ∧ (0 ≤ r → 1 + (n : Int) + wts (kids.take j) + r = left) ∧ (1 + (n : Int) + wts kids ≤ left → 0 ≤ r) ∧ (W.alloc (.cells #[.int .i64 k, .int .i64 d, .slice p n cap, .slice q m c2] 33)).grownBy wr none) (fun _ i _ => m - (intOf i).toNat)
      case atStart => exact ⟨_, 0, rfl, rfl, by omega, by omega, by omega, fun _ => by simp [wts]; omega, fun _ => by omega, gt_refl _ _⟩
      case round =>
        obtain ⟨r, j, rfl, rfl, hj, hr1, hr2, hsum, hpos, hg⟩ := hrel
        rename World => wr
        have hbox := HB.out wr hg
        have HS := Lib.hid hsum
        have HP := Lib.hid hpos
        clear hsum hpos
        by_cases hjm : j < m
        · by_cases hr0 : 0 ≤ r
          · obtain ⟨t, ht⟩ := HG.out j hjm
            obtain ⟨a, rfl⟩ : ∃ a, q = some a := by
              cases q with
              | none => have := HM3.out rfl; omega
              | some a => exact ⟨a, rfl⟩
            obtain ⟨c0, c1, c2, c3, k0, k1, k2, k3, k4⟩ := HM.out a rfl j t ht
            have G := gt_trans H1 hg (.inl rfl)
            have q1 := G.cell k1 (by simp)
            have q2 := G.cell k2 (by simp)
            have q3 := G.cell k3 (by simp)
            have q4 := G.cell k4 (by simp)
            have IH := Lib.hid (ih wr _ t r (k0.mono G) hr2)
            have HTj := Lib.hid (HT.out j t ht)
            clear k0 k1 k2 k3 k4 ht
            go_wp2_with (go_at_call 39; refine IH.out.mono ?_; rintro e w' ⟨r', rfl, hr1', hr2', hs', hp', hg'⟩)
            exact ⟨⟨r', j + 1, rfl, by go_num, by omega, hr1', hr2', fun h0 => by rw [HTj.out]; have e1 := hs' h0; have e2 := HS.out hr0; push_cast; omega, fun h0 => hp' (by have e2 := HS.out hr0; have e3 := HTk.out (j + 1); rw [HTj.out] at e3; omega), gt_trans hg hg' (.inr (.inl rfl))⟩, by simp [intOf]; omega⟩
          · go_wp2_with fail
            go_wp2_with fail
            go_ret
            exact ⟨r, rfl, hr1, hr2, fun h => by omega, fun h => HP.out (by rw [HW.out] at h; exact h), gt_trans H1 hg (.inl rfl)⟩
        · obtain rfl : j = m := by omega
          go_wp2_with fail
          go_wp2_with fail
          go_ret
          exact ⟨r, rfl, hr1, hr2, fun h0 => by have e := HS.out h0; rw [HE.out] at e; rw [HW.out]; omega, fun h => HP.out (by rw [HW.out] at h; exact h), gt_trans H1 hg (.inl rfl)⟩

set_option maxRecDepth 100000 in
set_option maxHeartbeats 1000000 in
theorem gSmallD1 {B : Nat → Prop} (h : Nat) (W : World) (a : Addr) (c0 c1 c2 c3 : Value) (t : Raw) (hk : KD B h W (.agg #[c0, c1, c2, c3]) t) (k0 : W.cell? a = some c0)
    (k1 : W.cell? ⟨a.block, a.off + 1, none⟩ = some c1) (k2 : W.cell? ⟨a.block, a.off + 2, none⟩ = some c2) (k3 : W.cell? ⟨a.block, a.off + 3, none⟩ = some c3) :
    Calls Tryz.prog 20 #[.slice (some a) 1 1] W (fun e w' => e = .returned (.bool (decide (wt t ≤ 2000))) ∧ W.grownBy w' none) := by
  go_enter Tryz.func20, Tryz.ntmps20
  go_wp2_with fail
  go_loopw [3, 4] (fun l i wr => ∃ (r : Int) (j : Nat), l = .int .i64 r ∧ i = .int .i64 j ∧ j ≤ 1 ∧ -1 ≤ r ∧ r ≤ 2000 ∧ W.grownBy wr none ∧ (j = 0 → r = 2000) ∧ (j = 1 → (0 ≤ r ↔ wt t ≤ 2000))) (fun _ i _ => 1 - (intOf i).toNat)
  case atStart => exact ⟨2000, 0, rfl, rfl, by omega, by omega, by omega, gt_refl _ _, fun _ => rfl, fun h => by omega⟩
  case round =>
    obtain ⟨r, j, rfl, rfl, hj, hr1, hr2, hg, hn0, hn⟩ := hrel
    rename World => wr
    by_cases hj0 : j = 0
    · subst hj0
      have q0 := hg.cell k0 (by simp)
      have q1 := hg.cell k1 (by simp)
      have q2 := hg.cell k2 (by simp)
      have q3 := hg.cell k3 (by simp)
      have IH := Lib.hid (gWeightD h wr _ t r (hk.mono hg) hr2)
      clear k0 k1 k2 k3
      obtain rfl := hn0 rfl
      clear hn0
      go_wp2_with (go_at_call 39; refine IH.out.mono ?_; rintro e w' ⟨r', rfl, hr1', hr2', hn', hp', hg'⟩)
      exact ⟨⟨r', 1, rfl, by go_num, by omega, hr1', hr2', gt_trans hg hg' (.inl rfl), fun h => by omega, fun _ => ⟨fun h0 => by have := hn' h0; omega, fun h0 => hp' (by omega)⟩⟩, by simp [intOf]⟩
    · obtain rfl : j = 1 := by omega
      have hn1 := hn rfl
      have he : decide (wt t ≤ 2000) = decide (0 ≤ r) := by rw [decide_eq_decide]; exact hn1.symm
      have HE := Lib.hid he
      clear hn hn0 hn1 he
      go_wp2_with fail
      go_wp2_with fail
      go_ret
      exact ⟨ret_bool HE.out.symm, hg⟩

theorem nan_ex (b : Nat) : ∃ r : Bool, ∀ W, Calls Tryz.prog 38 #[.float .f64 b] W fun e w' => e = .returned (.bool r) ∧ W.grownBy w' none := by
  apply Exists.intro
  · intro W
    go_enter Tryz.func38, Tryz.ntmps38
    go_wp2_with fail
    go_ret
    exact ⟨rfl, gt_refl _ _⟩
theorem abs_ex (b : Nat) : ∃ b' : Nat, ∀ W, Calls Tryz.prog 294 #[.float .f64 b] W fun e w' => e = .returned (.float .f64 b') ∧ w' = W := by
  have hfb : ∀ w : World, (callFunc 83 #[.float .f64 b]).run Tryz.prog w = .ok (.value (.int .u64 b)) w := fun w => by kernel_rfl
  have hff : ∀ (w : World) (n : Int), (callFunc 153 #[.int .u64 n]).run Tryz.prog w = .ok (.value (.float .f64 n.toNat)) w := fun w n => by kernel_rfl
  apply Exists.intro
  · intro W
    go_enter Tryz.func294, Tryz.ntmps294
    go_wp2_with fail
    go_ret
    exact ⟨rfl, rfl⟩
set_option maxHeartbeats 1000000 in
theorem inf_ex (b : Nat) : ∃ r : Bool, ∀ W, Calls Tryz.prog 250 #[.float .f64 b, .int .i64 0] W fun e w' => e = .returned (.bool r) ∧ W.grownBy w' none := by
  obtain ⟨b', hb'⟩ := abs_ex b
  have HA := Lib.hid hb'
  clear hb'
  apply Exists.intro
  · intro W
    go_enter Tryz.func250, Tryz.ntmps250
    go_wp2_with (go_at_call 294; refine (HA.out _).mono ?_; rintro e w' ⟨rfl, rfl⟩)
    go_ret
    exact ⟨rfl, gt_refl _ _⟩
end Go.Proofs.YtlpaecafpbbbkaaGreatDoor
