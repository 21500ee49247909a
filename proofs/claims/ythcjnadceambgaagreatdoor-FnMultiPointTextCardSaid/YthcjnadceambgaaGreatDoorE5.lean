/- Rows of geometries that a call appends to. -/
import Derived.Test.YthcjnadceambgaaGreatDoorE3
import Derived.Test.YthcjnadceambgaaGreatDoorV2
import Derived.Test.YthcjnadceambgaaGreatDoorW
namespace Go.Proofs.YthcjnadceambgaaGreatDoor
open Go.RowKit

/-- Blocks that are new in W'. -/
def Fr (W W' : World) (b : Nat) : Prop := W.heap.size ≤ b ∧ b < W'.heap.size
theorem grown_set (W : World) (q : Addr) (x : Value) : W.grownBy (W.setCell q x) (some q.block) :=
  ⟨rfl, rfl, rfl, by simp [World.setCell], fun i _ hne => Below.heap_setCell W q x i (fun e => hne (by rw [e]))⟩
theorem own_form {w : World} {base size n : Nat} {e : TypeId} {x : Value} {xs : List Value} (h : w.ownsRow base e size x n xs) : ∃ p c, x = .slice p n c ∧ n ≤ c ∧ c ≤ maxLen ∧ (p = none → c = 0) ∧ ∀ a, p = some a → x.ownBlock = some a.block := by
  rcases h.2 with ⟨rfl, rfl⟩ | ⟨g, cap, cur, rfl, _, _, h1, h2, _⟩
  · exact ⟨none, 0, rfl, Nat.le_refl _, by decide, fun _ => rfl, fun a ha => by cases ha⟩
  · exact ⟨_, cap, rfl, h1, h2, (fun h => by cases h), fun a ha => by injection ha with ha; subst ha; rfl⟩

/-- A row x of geometries ts, from base on. -/
def KRow (base h : Nat) (W : World) (x : Value) (ts : List Raw) (cs : List Value) : Prop :=
  W.ownsRow base 25 4 x ts.length cs ∧ ∀ i t, ts[i]? = some t → ∃ c0 c1 c2 c3, cs[i * 4]? = some c0 ∧ cs[i * 4 + 1]? = some c1 ∧ cs[i * 4 + 2]? = some c2 ∧ cs[i * 4 + 3]? = some c3 ∧
    KD (fun b => base ≤ b ∧ b < W.heap.size ∧ x.ownBlock ≠ some b) h W (.agg #[c0, c1, c2, c3]) t
theorem KRow.nil (base h : Nat) (W : World) : KRow base h W (.slice none 0 0) [] [] := ⟨World.ownsRow_nil _ _ _ _, fun i t h => by simp at h⟩
theorem KRow.kept {base h : Nat} {W W' : World} {x : Value} {ts : List Raw} {cs : List Value} (k : KRow base h W x ts cs) (g : W.grownBy W' none) : KRow base h W' x ts cs :=
  ⟨k.1.kept g (by cases x.ownBlock <;> simp), fun i t hi => by
    obtain ⟨c0, c1, c2, c3, h0, h1, h2, h3, hk⟩ := k.2 i t hi
    exact ⟨c0, c1, c2, c3, h0, h1, h2, h3, (hk.mono g).weak fun b hb => ⟨hb.1, Nat.lt_of_lt_of_le hb.2.1 g.size, hb.2.2⟩⟩⟩
theorem KRow.set {base h : Nat} {W : World} {x : Value} {ts : List Raw} {cs : List Value} (k : KRow base h W x ts cs) {q : Addr} (hq : q.block < base) (y : Value) : KRow base h (W.setCell q y) x ts cs := by
  have hlt := k.1.lt
  refine ⟨k.1.kept (grown_set W q y) ?_, fun i t hi => ?_⟩
  · cases hx : x.ownBlock with
    | none => exact .inl rfl
    | some b => exact .inr fun e => by injection e with e; have := (hlt b hx).1; omega
  · obtain ⟨c0, c1, c2, c3, h0, h1, h2, h3, hk⟩ := k.2 i t hi
    refine ⟨c0, c1, c2, c3, h0, h1, h2, h3, ?_⟩
    have : (W.setCell q y).heap.size = W.heap.size := by simp [World.setCell]
    rw [this]
    exact hk.keep (.set (fun hb => by have := hb.1; omega) y)
theorem KRow.snoc {base h : Nat} {W W1 W2 W3 W4 : World} {x : Value} {ts : List Raw} {cs : List Value} (k : KRow base h W x ts cs) (hb : base ≤ W.heap.size) (g1 : W.grownBy W1 none) (g2 : W1.grownBy W2 none) (g3 : W2.grownBy W3 none)
    {c0 c1 c2 c3 : Value} {t : Raw} (hk : KD (Fr W1 W2) h W2 (.agg #[c0, c1, c2, c3]) t) {g cap : Nat} (hown : W4.ownsRow base 25 4 (.slice (some ⟨g, 0, none⟩) (ts.length + 1) cap) (ts.length + 1) (cs ++ [c0, c1, c2, c3]))
    (g4 : W3.grownBy W4 x.ownBlock) (hg : x.ownBlock = some g ∨ g = W3.heap.size) : KRow base h W4 (.slice (some ⟨g, 0, none⟩) (ts.length + 1) cap) (ts ++ [t]) (cs ++ [c0, c1, c2, c3]) := by
  have hlt := k.1.lt
  have s1 := g1.size
  have s2 := g2.size
  have s3 := g3.size
  have s4 := g4.size
  have hcl : cs.length = ts.length * 4 := k.1.1
  refine ⟨by simpa using hown, fun i t' hi => ?_⟩
  have hob : (Value.slice (some ⟨g, 0, none⟩) (ts.length + 1) cap).ownBlock = some g := rfl
  rw [hob]
  by_cases hi' : i < ts.length
  · rw [List.getElem?_append_left hi'] at hi
    obtain ⟨d0, d1, d2, d3, h0, h1, h2, h3, hd⟩ := k.2 i t' hi
    refine ⟨d0, d1, d2, d3, by rw [List.getElem?_append_left (by omega)]; exact h0, by rw [List.getElem?_append_left (by omega)]; exact h1, by rw [List.getElem?_append_left (by omega)]; exact h2, by rw [List.getElem?_append_left (by omega)]; exact h3, ?_⟩
    have hd3 := hd.mono (gt_trans (gt_trans g1 g2 (.inl rfl)) g3 (.inl rfl))
    have hd4 := hd3.keep (.grownRow g4 (fun b hb' hB => hB.2.2 hb'))
    refine hd4.weak fun b hB => ⟨hB.1, by have := hB.2.1; omega, fun e => ?_⟩
    injection e with e
    subst e
    rcases hg with hg | hg
    · exact hB.2.2 hg
    · have := hB.2.1; omega
  · rw [List.getElem?_append_right (by omega)] at hi
    obtain ⟨hz, he⟩ := List.getElem?_eq_some_iff.1 hi
    have hil : i = ts.length := by simp at hz; omega
    subst hil
    simp at he
    subst he
    refine ⟨c0, c1, c2, c3, by rw [List.getElem?_append_right (by omega)]; simp [hcl], by rw [List.getElem?_append_right (by omega), hcl]; simp, by rw [List.getElem?_append_right (by omega), hcl]; simp, by rw [List.getElem?_append_right (by omega), hcl]; simp, ?_⟩
    have hd4 := (hk.mono g3).keep (.grownRow g4 (fun b hb' hB => by have := (hlt b hb').2; have := hB.1; omega))
    refine hd4.weak fun b hB => ⟨by have := hB.1; omega, by have := hB.2; omega, fun e => ?_⟩
    injection e with e
    subst e
    rcases hg with hg | hg
    · have := (hlt _ hg).2; have := hB.1; omega
    · have := hB.2; omega
/-- A geometry out of its numbers and its row of parts. -/
theorem KRow.kd {base h : Nat} {W : World} {B : Nat → Prop} {x : Value} {ts : List Raw} {cs : List Value} (kr : KRow base h W x ts cs) {k d : Int} {p : Option Addr} {n cap : Nat} {f : Nat → Nat} (hf : FVal W p n f) (h1 : n ≤ cap) (h2 : cap ≤ maxLen) (h3 : p = none → cap = 0)
    (hp : ∀ a, p = some a → B a.block) (hB : ∀ b, base ≤ b → b < W.heap.size → B b) : KD B (h + 1) W (.agg #[.int .i64 k, .int .i64 d, .slice p n cap, x]) (.mk k d n f ts) := by
  obtain ⟨q, c, rfl, hl1, hl2, hl3, hob⟩ := own_form kr.1
  have hlt := kr.1.lt
  refine ⟨p, cap, q, c, rfl, hf, h1, h2, h3, hl1, hl2, hl3, fun a ha i t hi => ?_, hp, fun a ha => ?_⟩
  · obtain ⟨c0, c1, c2, c3, e0, e1, e2, e3, hk⟩ := kr.2 i t hi
    obtain ⟨_, hat⟩ := own_at4 kr.1
    exact ⟨c0, c1, c2, c3, hk.weak (fun b hb => hB b hb.1 hb.2.1), hat a ha i 0 _ e0, hat a ha i 1 _ e1, hat a ha i 2 _ e2, hat a ha i 3 _ e3⟩
  · have := hlt _ (hob a ha)
    exact hB _ this.1 this.2
theorem infoG : (Tryz.prog.info? 25).map (fun i => (i.zero, i.size, i.bytes)) = some (some (.agg #[.int .i64 0, .int .i64 0, .slice none 0 0, .slice none 0 0]), 4, 64) := by kernel_rfl

/-- What a call that fills a geometry of its own (block W.heap.size + 2; the result's block is the one ahead) has come to: the numbers stand, the parts ts are collected in x. -/
structure OutInv (W wr : World) (h : Nat) (k d : Int) (p : Option Addr) (n c : Nat) (f : Nat → Nat) (x : Value) (ts : List Raw) (cs : List Value) : Prop where
  g : W.grownBy wr none
  big : W.heap.size + 3 ≤ wr.heap.size
  o0 : wr.cell? ⟨W.heap.size + 1 + 1, 0, none⟩ = some (.int .i64 k)
  o1 : wr.cell? ⟨W.heap.size + 1 + 1, 1, none⟩ = some (.int .i64 d)
  o2 : wr.cell? ⟨W.heap.size + 1 + 1, 2, none⟩ = some (.slice p n c)
  o3 : wr.cell? ⟨W.heap.size + 1 + 1, 3, none⟩ = some x
  of_ : ∀ j, wr.frozen? ⟨W.heap.size + 1 + 1, j, none⟩ = false
  r0 : wr.cell? ⟨W.heap.size + 1, 0, none⟩ = some (.int .i64 0)
  r1 : wr.cell? ⟨W.heap.size + 1, 1, none⟩ = some (.int .i64 0)
  r2 : wr.cell? ⟨W.heap.size + 1, 2, none⟩ = some (.slice none 0 0)
  r3 : wr.cell? ⟨W.heap.size + 1, 3, none⟩ = some (.slice none 0 0)
  rf : ∀ j, wr.frozen? ⟨W.heap.size + 1, j, none⟩ = false
  nums : FVal wr p n f
  n1 : n ≤ c
  n2 : c ≤ maxLen
  n3 : p = none → c = 0
  nb : ∀ a, p = some a → W.heap.size + 3 ≤ a.block ∧ a.block < wr.heap.size ∧ x.ownBlock ≠ some a.block
  kr : KRow (W.heap.size + 3) h wr x ts cs
section
variable {W wr w' : World} {h : Nat} {k d : Int} {p : Option Addr} {n c : Nat} {f : Nat → Nat} {x : Value} {ts : List Raw} {cs : List Value}
theorem OutInv.kept (i : OutInv W wr h k d p n c f x ts cs) (g : wr.grownBy w' none) : OutInv W w' h k d p n c f x ts cs := by
  have hb := i.big
  have hf : ∀ b j, b < wr.heap.size → w'.frozen? ⟨b, j, none⟩ = wr.frozen? ⟨b, j, none⟩ := fun b j hlt => World.frozen?_of_block (g.block b hlt (by simp))
  exact ⟨gt_trans i.g g (.inl rfl), Nat.le_trans i.big g.size, g.cell i.o0 (by simp), g.cell i.o1 (by simp), g.cell i.o2 (by simp), g.cell i.o3 (by simp), fun j => by rw [hf _ _ (by omega)]; exact i.of_ j,
    g.cell i.r0 (by simp), g.cell i.r1 (by simp), g.cell i.r2 (by simp), g.cell i.r3 (by simp), fun j => by rw [hf _ _ (by omega)]; exact i.rf j, i.nums.mono g, i.n1, i.n2, i.n3,
    fun a ha => ⟨(i.nb a ha).1, Nat.lt_of_lt_of_le (i.nb a ha).2.1 g.size, (i.nb a ha).2.2⟩, i.kr.kept g⟩
/-- A part more: found in w2 by a call made in w1, appended in w3 (which gave w4), stored. -/
theorem OutInv.snoc {w1 w2 w3 w4 : World} (i : OutInv W wr h k d p n c f x ts cs) (g1 : wr.grownBy w1 none) (g2 : w1.grownBy w2 none) (g3 : w2.grownBy w3 none) {c0 c1 c2 c3 : Value} {t : Raw} (hk : KD (Fr w1 w2) h w2 (.agg #[c0, c1, c2, c3]) t) {gg cap : Nat}
    (hown : w4.ownsRow (W.heap.size + 3) 25 4 (.slice (some ⟨gg, 0, none⟩) (ts.length + 1) cap) (ts.length + 1) (cs ++ [c0, c1, c2, c3])) (g4 : w3.grownBy w4 x.ownBlock) (hg : x.ownBlock = some gg ∨ gg = w3.heap.size) :
    OutInv W (w4.setCell ⟨W.heap.size + 1 + 1, 3, none⟩ (.slice (some ⟨gg, 0, none⟩) (ts.length + 1) cap)) h k d p n c f (.slice (some ⟨gg, 0, none⟩) (ts.length + 1) cap) (ts ++ [t]) (cs ++ [c0, c1, c2, c3]) := by
  have hsn := i.kr.snoc i.big g1 g2 g3 hk hown g4 hg
  have j := ((i.kept g1).kept g2).kept g3
  have hlt := i.kr.1.lt
  have hb := i.big
  have s1 := g1.size
  have s2 := g2.size
  have s3 := g3.size
  have s4 := g4.size
  have hne : ∀ b, b < W.heap.size + 3 → x.ownBlock ≠ some b := fun b hlt' e => by have := (hlt b e).1; omega
  have cell : ∀ b o v, b < W.heap.size + 3 → w3.cell? ⟨b, o, none⟩ = some v → w4.cell? ⟨b, o, none⟩ = some v := fun b o v hb' hv => g4.cell hv (fun e => hne b hb' e.symm)
  have fro : ∀ b o, b < W.heap.size + 3 → w4.frozen? ⟨b, o, none⟩ = w3.frozen? ⟨b, o, none⟩ := fun b o hb' => World.frozen?_of_block (g4.block b (by omega) (fun e => hne b hb' e.symm))
  have hsz : (w4.setCell ⟨W.heap.size + 1 + 1, 3, none⟩ (.slice (some ⟨gg, 0, none⟩) (ts.length + 1) cap)).heap.size = w4.heap.size := by simp [World.setCell]
  have hgW : W.grownBy w4 none := gt_trans j.g g4 (by
    cases hx : x.ownBlock with
    | none => exact .inl rfl
    | some b => exact .inr (.inr ⟨b, rfl, by have := (hlt b hx).1; omega⟩))
  have z3 := World.cell?_setCell_same (v := .slice (some ⟨gg, 0, none⟩) (ts.length + 1) cap) (h := cell _ _ _ (by omega) j.o3)
  refine ⟨gt_set_r hgW _ _ (by show W.heap.size ≤ W.heap.size + 1 + 1; omega), by rw [hsz]; omega, ?_, ?_, ?_, z3, fun l => ?_, ?_, ?_, ?_, ?_, fun l => ?_, ?_, i.n1, i.n2, i.n3, ?_, hsn.set (by show W.heap.size + 1 + 1 < W.heap.size + 3; omega) _⟩
  · rw [World.cell?_setCell_other (h := by simp)]; exact cell _ _ _ (by omega) j.o0
  · rw [World.cell?_setCell_other (h := by simp)]; exact cell _ _ _ (by omega) j.o1
  · rw [World.cell?_setCell_other (h := by simp)]; exact cell _ _ _ (by omega) j.o2
  · rw [World.frozen?_setCell, fro _ _ (by omega)]; exact j.of_ l
  · rw [World.cell?_setCell_other (h := by simp)]; exact cell _ _ _ (by omega) j.r0
  · rw [World.cell?_setCell_other (h := by simp)]; exact cell _ _ _ (by omega) j.r1
  · rw [World.cell?_setCell_other (h := by simp)]; exact cell _ _ _ (by omega) j.r2
  · rw [World.cell?_setCell_other (h := by simp)]; exact cell _ _ _ (by omega) j.r3
  · rw [World.frozen?_setCell, fro _ _ (by omega)]; exact j.rf l
  · have h1 := j.nums.keep (B := fun b => W.heap.size + 3 ≤ b ∧ b < w3.heap.size ∧ x.ownBlock ≠ some b) (.grownRow g4 (fun b hb' hB => hB.2.2 hb')) j.nb
    exact h1.keep (B := fun b => W.heap.size + 3 ≤ b ∧ b < w3.heap.size ∧ x.ownBlock ≠ some b) (.set (fun hB => by have h2 : W.heap.size + 3 ≤ W.heap.size + 1 + 1 := hB.1; omega) _) j.nb
  · intro a ha
    obtain ⟨b1, b2, b3⟩ := j.nb a ha
    refine ⟨b1, by rw [hsz]; omega, fun e => ?_⟩
    have e' : gg = a.block := by injection e
    rcases hg with hg | hg
    · exact b3 (by rw [hg, e'])
    · omega
end

theorem cell_new_at' (X : World) (cs : Array Value) (e b j : Nat) (hb : b = X.heap.size) : (X.alloc (.cells cs e)).cell? ⟨b, j, none⟩ = cs[j]? := by
  subst hb
  exact World.cell?_alloc_new _ cs e j
theorem frozen_new_at' (X : World) (cs : Array Value) (e b j : Nat) (hb : b = X.heap.size) : (X.alloc (.cells cs e)).frozen? ⟨b, j, none⟩ = false := by
  subst hb
  simp
/-- Three new blocks: the argument's, the result's, the geometry's own. -/
def W3 (W : World) (g0 g1 g2 g3 : Value) (k d : Int) (T : Nat) : World := ((W.alloc (.cells #[g0, g1, g2, g3] T)).alloc (.cells #[.int .i64 0, .int .i64 0, .slice none 0 0, .slice none 0 0] T)).alloc (.cells #[.int .i64 k, .int .i64 d, .slice none 0 0, .slice none 0 0] T)
theorem W3_grown (W : World) (g0 g1 g2 g3 : Value) (k d : Int) (T : Nat) : W.grownBy (W3 W g0 g1 g2 g3 k d T) none := gt_alloc_r (gt_alloc_r (World.grownBy_alloc W _ none) _) _
theorem W3_size (W : World) (g0 g1 g2 g3 : Value) (k d : Int) (T : Nat) : (W3 W g0 g1 g2 g3 k d T).heap.size = W.heap.size + 3 := by simp [W3]
structure Pre (W w2 : World) (g0 g1 g2 g3 : Value) (k d : Int) : Prop where
  g : W.grownBy w2 none
  big : W.heap.size + 3 ≤ w2.heap.size
  a0 : w2.cell? ⟨W.heap.size, 0, none⟩ = some g0
  a1 : w2.cell? ⟨W.heap.size, 1, none⟩ = some g1
  a2 : w2.cell? ⟨W.heap.size, 2, none⟩ = some g2
  a3 : w2.cell? ⟨W.heap.size, 3, none⟩ = some g3
  o0 : w2.cell? ⟨W.heap.size + 1 + 1, 0, none⟩ = some (.int .i64 k)
  o1 : w2.cell? ⟨W.heap.size + 1 + 1, 1, none⟩ = some (.int .i64 d)
  o2 : w2.cell? ⟨W.heap.size + 1 + 1, 2, none⟩ = some (.slice none 0 0)
  o3 : w2.cell? ⟨W.heap.size + 1 + 1, 3, none⟩ = some (.slice none 0 0)
  of_ : ∀ j, w2.frozen? ⟨W.heap.size + 1 + 1, j, none⟩ = false
  r0 : w2.cell? ⟨W.heap.size + 1, 0, none⟩ = some (.int .i64 0)
  r1 : w2.cell? ⟨W.heap.size + 1, 1, none⟩ = some (.int .i64 0)
  r2 : w2.cell? ⟨W.heap.size + 1, 2, none⟩ = some (.slice none 0 0)
  r3 : w2.cell? ⟨W.heap.size + 1, 3, none⟩ = some (.slice none 0 0)
  rf : ∀ j, w2.frozen? ⟨W.heap.size + 1, j, none⟩ = false
theorem Pre.of (W w2 : World) (g0 g1 g2 g3 : Value) (k d : Int) (T : Nat) (g : (W3 W g0 g1 g2 g3 k d T).grownBy w2 none) : Pre W w2 g0 g1 g2 g3 k d := by
  have hs := W3_size W g0 g1 g2 g3 k d T
  have ga := gt_trans (gt_alloc_r (World.grownBy_alloc (W.alloc (.cells #[g0, g1, g2, g3] T)) (.cells #[.int .i64 0, .int .i64 0, .slice none 0 0, .slice none 0 0] T) none) (.cells #[.int .i64 k, .int .i64 d, .slice none 0 0, .slice none 0 0] T)) g (.inl rfl)
  have gr := gt_trans (World.grownBy_alloc ((W.alloc (.cells #[g0, g1, g2, g3] T)).alloc (.cells #[.int .i64 0, .int .i64 0, .slice none 0 0, .slice none 0 0] T)) (.cells #[.int .i64 k, .int .i64 d, .slice none 0 0, .slice none 0 0] T) none) g (.inl rfl)
  have ca : ∀ j v, #[g0, g1, g2, g3][j]? = some v → w2.cell? ⟨W.heap.size, j, none⟩ = some v := fun j v hv => ga.cell ((cell_new_at' W #[g0, g1, g2, g3] T W.heap.size j rfl).trans hv) (by simp)
  have cr : ∀ j v, #[Value.int .i64 0, .int .i64 0, .slice none 0 0, .slice none 0 0][j]? = some v → w2.cell? ⟨W.heap.size + 1, j, none⟩ = some v := fun j v hv => gr.cell ((cell_new_at' (W.alloc (.cells #[g0, g1, g2, g3] T)) _ T (W.heap.size + 1) j (by simp)).trans hv) (by simp)
  have co : ∀ j v, #[Value.int .i64 k, .int .i64 d, .slice none 0 0, .slice none 0 0][j]? = some v → w2.cell? ⟨W.heap.size + 1 + 1, j, none⟩ = some v := fun j v hv => g.cell ((cell_new_at' ((W.alloc (.cells #[g0, g1, g2, g3] T)).alloc (.cells #[.int .i64 0, .int .i64 0, .slice none 0 0, .slice none 0 0] T)) _ T (W.heap.size + 1 + 1) j (by simp)).trans hv) (by simp)
  refine ⟨gt_trans (W3_grown ..) g (.inl rfl), by have := g.size; omega, ca 0 _ rfl, ca 1 _ rfl, ca 2 _ rfl, ca 3 _ rfl, co 0 _ rfl, co 1 _ rfl, co 2 _ rfl, co 3 _ rfl, fun j => ?_, cr 0 _ rfl, cr 1 _ rfl, cr 2 _ rfl, cr 3 _ rfl, fun j => ?_⟩
  · rw [World.frozen?_of_block (g.block (W.heap.size + 1 + 1) (by omega) (by simp))]
    exact frozen_new_at' _ _ _ _ j (by simp)
  · rw [World.frozen?_of_block (gr.block (W.heap.size + 1) (by simp) (by simp))]
    exact frozen_new_at' _ _ _ _ j (by simp)
theorem Pre.kept {W w w' : World} {g0 g1 g2 g3 : Value} {k d : Int} (i : Pre W w g0 g1 g2 g3 k d) (g : w.grownBy w' none) : Pre W w' g0 g1 g2 g3 k d := by
  have hb := i.big
  have hf : ∀ b j, b < w.heap.size → w'.frozen? ⟨b, j, none⟩ = w.frozen? ⟨b, j, none⟩ := fun b j hlt => World.frozen?_of_block (g.block b hlt (by simp))
  exact ⟨gt_trans i.g g (.inl rfl), Nat.le_trans i.big g.size, g.cell i.a0 (by simp), g.cell i.a1 (by simp), g.cell i.a2 (by simp), g.cell i.a3 (by simp), g.cell i.o0 (by simp), g.cell i.o1 (by simp), g.cell i.o2 (by simp), g.cell i.o3 (by simp), fun j => by rw [hf _ _ (by omega)]; exact i.of_ j,
    g.cell i.r0 (by simp), g.cell i.r1 (by simp), g.cell i.r2 (by simp), g.cell i.r3 (by simp), fun j => by rw [hf _ _ (by omega)]; exact i.rf j⟩
/-- The numbers stored, no parts yet. -/
theorem Pre.start {W w2 : World} {g0 g1 g2 g3 : Value} {k d : Int} (i : Pre W w2 g0 g1 g2 g3 k d) (h : Nat) {p : Option Addr} {n c : Nat} {f : Nat → Nat} (hf : FVal w2 p n f) (n1 : n ≤ c) (n2 : c ≤ maxLen) (n3 : p = none → c = 0) (nb : ∀ a, p = some a → W.heap.size + 3 ≤ a.block ∧ a.block < w2.heap.size) :
    OutInv W (w2.setCell ⟨W.heap.size + 1 + 1, 2, none⟩ (.slice p n c)) h k d p n c f (.slice none 0 0) [] [] := by
  have hsz : (w2.setCell ⟨W.heap.size + 1 + 1, 2, none⟩ (.slice p n c)).heap.size = w2.heap.size := by simp [World.setCell]
  have hb := i.big
  refine ⟨gt_set_r i.g _ _ (by show W.heap.size ≤ W.heap.size + 1 + 1; omega), by rw [hsz]; omega, ?_, ?_, World.cell?_setCell_same (v := .slice p n c) (h := i.o2), ?_, fun l => ?_, ?_, ?_, ?_, ?_, fun l => ?_, ?_, n1, n2, n3, fun a ha => ⟨(nb a ha).1, by rw [hsz]; exact (nb a ha).2, by simp [Value.ownBlock]⟩, KRow.nil _ _ _⟩
  · rw [World.cell?_setCell_other (h := by simp)]; exact i.o0
  · rw [World.cell?_setCell_other (h := by simp)]; exact i.o1
  · rw [World.cell?_setCell_other (h := by simp)]; exact i.o3
  · rw [World.frozen?_setCell]; exact i.of_ l
  · rw [World.cell?_setCell_other (h := by simp)]; exact i.r0
  · rw [World.cell?_setCell_other (h := by simp)]; exact i.r1
  · rw [World.cell?_setCell_other (h := by simp)]; exact i.r2
  · rw [World.cell?_setCell_other (h := by simp)]; exact i.r3
  · rw [World.frozen?_setCell]; exact i.rf l
  · exact hf.keep (B := fun b => W.heap.size + 3 ≤ b) (.set (fun hB => by have h2 : W.heap.size + 3 ≤ W.heap.size + 1 + 1 := hB; omega) _) (fun a ha => (nb a ha).1)
/-- No numbers, no parts yet. -/
theorem Pre.start0 {W w2 : World} {g0 g1 g2 g3 : Value} {k d : Int} (i : Pre W w2 g0 g1 g2 g3 k d) (h : Nat) {f : Nat → Nat} (hf : ∀ i, f i < 18446744073709551616) : OutInv W w2 h k d none 0 0 f (.slice none 0 0) [] [] :=
  ⟨i.g, i.big, i.o0, i.o1, i.o2, i.o3, i.of_, i.r0, i.r1, i.r2, i.r3, i.rf, ⟨fun h => by omega, (fun a ha => by cases ha), hf⟩, Nat.le_refl _, by decide, fun _ => rfl, (fun a ha => by cases ha), KRow.nil _ _ _⟩
/-- The whole geometry, read out of its block and laid into the result's. -/
theorem OutInv.kd {W wr : World} {h : Nat} {k d : Int} {p : Option Addr} {n c : Nat} {f : Nat → Nat} {x : Value} {ts : List Raw} {cs : List Value} (i : OutInv W wr h k d p n c f x ts cs) : KD (fun b => W.heap.size + 3 ≤ b ∧ b < wr.heap.size) (h + 1) wr (.agg #[.int .i64 k, .int .i64 d, .slice p n c, x]) (.mk k d n f ts) :=
  i.kr.kd i.nums i.n1 i.n2 i.n3 (fun a ha => ⟨(i.nb a ha).1, (i.nb a ha).2.1⟩) (fun _ h1 h2 => ⟨h1, h2⟩)
theorem OutInv.end_ {W wr : World} {h : Nat} {k d : Int} {p : Option Addr} {n c : Nat} {f : Nat → Nat} {x : Value} {ts : List Raw} {cs : List Value} (i : OutInv W wr h k d p n c f x ts cs) :
    KD (Fr W ((((wr.setCell ⟨W.heap.size + 1, 0, none⟩ (.int .i64 k)).setCell ⟨W.heap.size + 1, 1, none⟩ (.int .i64 d)).setCell ⟨W.heap.size + 1, 2, none⟩ (.slice p n c)).setCell ⟨W.heap.size + 1, 3, none⟩ x)) (h + 1) ((((wr.setCell ⟨W.heap.size + 1, 0, none⟩ (.int .i64 k)).setCell ⟨W.heap.size + 1, 1, none⟩ (.int .i64 d)).setCell ⟨W.heap.size + 1, 2, none⟩ (.slice p n c)).setCell ⟨W.heap.size + 1, 3, none⟩ x) (.agg #[.int .i64 k, .int .i64 d, .slice p n c, x]) (.mk k d n f ts) ∧
    W.grownBy ((((wr.setCell ⟨W.heap.size + 1, 0, none⟩ (.int .i64 k)).setCell ⟨W.heap.size + 1, 1, none⟩ (.int .i64 d)).setCell ⟨W.heap.size + 1, 2, none⟩ (.slice p n c)).setCell ⟨W.heap.size + 1, 3, none⟩ x) none := by
  have ks : ∀ (w : World) (j : Nat) (y : Value), Kept (fun b => W.heap.size + 3 ≤ b ∧ b < wr.heap.size) w (w.setCell ⟨W.heap.size + 1, j, none⟩ y) := fun w j y => .set (fun hB => by have h2 : W.heap.size + 3 ≤ W.heap.size + 1 := hB.1; omega) y
  have gs : ∀ (w : World) (j : Nat) (y : Value), W.grownBy w none → W.grownBy (w.setCell ⟨W.heap.size + 1, j, none⟩ y) none := fun w j y g => gt_set_r g _ _ (Nat.le_succ _)
  refine ⟨((((i.kd.keep (ks _ _ _)).keep (ks _ _ _)).keep (ks _ _ _)).keep (ks _ _ _)).weak fun b hb => ⟨by have := hb.1; omega, by simp [World.setCell]; exact hb.2⟩, gs _ _ _ (gs _ _ _ (gs _ _ _ (gs _ _ _ i.g)))⟩
theorem one4 (a b : Int) (p q : Option Addr) (n c m c2 : Nat) : ∀ u ∈ (#[.int .i64 a, .int .i64 b, .slice p n c, .slice q m c2] : Array Value).toList, u.oneCell' = true := by
  intro u hu
  simp at hu
  rcases hu with rfl | rfl | rfl | rfl <;> rfl
end Go.Proofs.YthcjnadceambgaaGreatDoor
