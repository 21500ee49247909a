/- Slices of bytes that a call appends to: what an append leaves, and what stays as it was. Geometries in memory: their shape, to a depth; what the questions of size and of finite numbers do. The questions of size and of finite numbers: each answers, and leaves all as it was. A row of numbers as the package keeps it: how it is made, how long it is, what it gives at a place. A geometry that can be read as data lies in memory as KG says. Geometries as trees of plain data, and how they lie in memory. -/
import Derived.WalkKit
import Derived.WalkSpells
import Derived.WalkLawsBesides
import Derived.Lib.AppendStr
import Derived.Maps.AppendAt
import Derived.Laws.BytesArg
import Derived.Lib.Hide
import Derived.Test.YtlpaecafpbbbkaaGreatDoorProg
import Derived.Deep.DeepCutAuto
import Derived.Deep.QuietTactic
import Derived.Handy
import Derived.Laws.CopyOwn
import Derived.Lib.SmallJoins
import Derived.OpenShut
import Derived.ProofKit
import Derived.ChangeShapes
namespace Go.Proofs.YtlpaecafpbbbkaaGreatDoor
open Go.RowKit

theorem gt_trans {a b c : World} {r r' : Option Nat} (h : a.grownBy b r) (k : b.grownBy c r') (hr : r' = r ∨ r' = none ∨ ∃ x, r' = some x ∧ a.heap.size ≤ x) : a.grownBy c r :=
  ⟨k.os.trans h.os, k.tape.trans h.tape, k.output.trans h.output, Nat.le_trans h.size k.size, fun i hi hne =>
    (k.block i (Nat.lt_of_lt_of_le hi h.size) (by
      rcases hr with rfl | rfl | ⟨x, rfl, hx⟩
      · exact hne
      · exact Option.some_ne_none _
      · intro he; injection he with he; omega)).trans (h.block i hi hne)⟩
theorem gt_refl (a : World) (r : Option Nat) : a.grownBy a r := ⟨rfl, rfl, rfl, Nat.le_refl _, fun _ _ _ => rfl⟩
theorem gt_below {a b : World} (h : Below a.heap.size a b) (r : Option Nat) : a.grownBy b r := ⟨h.os, h.tape, h.output, h.size, fun i hi _ => h.block i hi⟩
theorem gt_weak {a b : World} (h : a.grownBy b none) (r : Option Nat) : a.grownBy b r := ⟨h.os, h.tape, h.output, h.size, fun i hi _ => h.block i hi (Option.some_ne_none _)⟩
theorem below_gt {a b : World} (h : a.grownBy b none) : Below a.heap.size a b := ⟨h.os, h.tape, h.output, h.size, fun i hi => h.block i hi (Option.some_ne_none _)⟩
theorem gt_drewN (a : World) (n : Nat) (r : Option Nat) : a.grownBy (a.drewN n) r := ⟨rfl, rfl, rfl, Nat.le_refl _, fun _ _ _ => rfl⟩
theorem gt_drewN_r {a b : World} {r : Option Nat} (h : a.grownBy b r) (n : Nat) : a.grownBy (b.drewN n) r := ⟨h.os, h.tape, h.output, h.size, h.block⟩
theorem gt_drew_r {a b : World} {r : Option Nat} (h : a.grownBy b r) : a.grownBy b.drew r := ⟨h.os, h.tape, h.output, h.size, h.block⟩
theorem gt_alloc_r {a b : World} {r : Option Nat} (h : a.grownBy b r) (o : Obj) : a.grownBy (b.alloc o) r := gt_trans h (World.grownBy_alloc b o none) (.inr (.inl rfl))
theorem gt_set_r {a b : World} {r : Option Nat} (h : a.grownBy b r) (p : Addr) (x : Value) (hp : a.heap.size ≤ p.block) : a.grownBy (b.setCell p x) r :=
  ⟨h.os, h.tape, h.output, by simpa [World.setCell] using h.size, fun i hi hne => (Below.heap_setCell b p x i (by omega)).trans (h.block i hi hne)⟩

theorem run_store_flt (P : Program) (w : World) (a : Addr) (m : Mode) (k : FloatKind) (b : Nat) : (store a (.float k b) m).run P w = stored P w a (.float k b) m := run_store P w a _ m rfl

/-- Bytes as cells. -/
def Bs (l : List UInt8) : List Value := l.map fun b => .int .u8 (b.toNat : Int)
theorem Bs_length (l : List UInt8) : (Bs l).length = l.length := by simp [Bs]
theorem Bs_append (l m : List UInt8) : Bs (l ++ m) = Bs l ++ Bs m := by simp [Bs]

/-- From world w0, where v0 was owned, the call has come to world w, where v is owned and holds l; of what was there only v0's own row may have changed. -/
structure AppB (e base : Nat) (w0 : World) (v0 : Value) (w : World) (v : Value) (l : List UInt8) : Prop where
  own : w.ownsRow base e 1 v l.length (Bs l)
  grown : w0.grownBy w v0.ownBlock
  at_ : v.ownBlock = v0.ownBlock ∨ ∃ b, v.ownBlock = some b ∧ w0.heap.size ≤ b
variable {e base : Nat} {w0 w w1 w2 : World} {v0 v v1 v2 : Value} {l l1 l2 : List UInt8}
theorem AppB.start (h : w.ownsRow base e 1 v l.length (Bs l)) : AppB e base w v w v l := ⟨h, gt_refl _ _, .inl rfl⟩
theorem AppB.nil (w : World) (e base : Nat) : AppB e base w (.slice none 0 0) w (.slice none 0 0) [] := .start (World.ownsRow_nil w base e 1)
theorem AppB.trans (h : AppB e base w0 v0 w1 v1 l1) (k : AppB e base w1 v1 w2 v2 l2) : AppB e base w0 v0 w2 v2 l2 := by
  refine ⟨k.own, gt_trans h.grown k.grown ?_, ?_⟩
  · rcases h.at_ with h | ⟨b, h, hb⟩
    · exact .inl h
    · exact .inr (.inr ⟨b, h, hb⟩)
  · rcases k.at_ with k' | ⟨b, k', hb⟩
    · rcases h.at_ with h | ⟨b, h, hb⟩
      · exact .inl (k'.trans h)
      · exact .inr ⟨b, k'.trans h, hb⟩
    · exact .inr ⟨b, k', Nat.le_trans h.grown.size hb⟩
theorem AppB.beside (h : AppB e base w0 v0 w v l) (k : w.grownBy w1 none) : AppB e base w0 v0 w1 v l :=
  ⟨h.own.kept k (by cases v.ownBlock <;> simp), gt_trans h.grown k (.inr (.inl rfl)), h.at_⟩
theorem AppB.size (h : AppB e base w0 v0 w v l) : w0.heap.size ≤ w.heap.size := h.grown.size
theorem AppB.based (h : AppB e base w0 v0 w v l) (hb : base ≤ w0.heap.size) : base ≤ w.heap.size := Nat.le_trans hb h.grown.size
theorem AppB.cell (h : AppB e base w0 v0 w v l) {a : Addr} (hlt : a.block < w0.heap.size) (hne : v0.ownBlock ≠ some a.block) : w.cell? a = w0.cell? a :=
  World.cell?_of_block (h.grown.block _ hlt (fun he => hne he.symm))
/-- What stands in a block that the appended row has never been keeps standing there. -/
theorem AppB.other (h : AppB e base w0 v0 w v l) {k : Nat} (hlt : k < w0.heap.size) (hne : v0.ownBlock ≠ some k) : w.heap[k]? = w0.heap[k]? ∧ v.ownBlock ≠ some k := by
  refine ⟨h.grown.block _ hlt (fun he => hne he.symm), ?_⟩
  rcases h.at_ with h' | ⟨b, h', hb⟩
  · rw [h']; exact hne
  · rw [h']; intro he; injection he with he; omega
theorem AppB.below (h : AppB e base w0 (.slice none 0 0) w v l) : Below w0.heap.size w0 w := below_gt h.grown

/-- Something happens beside the owned row, which is older than all that is written; then a callee goes on appending. -/
theorem AppB.later (h : w.ownsRow base e 1 v l.length (Bs l)) (hg : w.grownBy w1 none) (k : AppB e base w1 v w2 v2 l2) : AppB e base w v w2 v2 l2 := ((AppB.start h).beside hg).trans k
theorem own_later (h : w.ownsRow base e 1 v l.length (Bs l)) (hg : w.grownBy w1 none) : w1.ownsRow base e 1 v l.length (Bs l) := ((AppB.start h).beside hg).own

/-- The ending of a function that appends to its first argument. -/
def AppEnd (e base : Nat) (w0 : World) (v0 : Value) (l : List UInt8) (en : Ending) (w : World) : Prop := ∃ v, en = .returned v ∧ AppB e base w0 v0 w v l
theorem AppEnd.mk_ {v' : Value} (hv : v' = v) (h : AppB e base w0 v0 w v l) : AppEnd e base w0 v0 l (.returned v') w := ⟨v, by rw [hv], h⟩

section
variable {P : Program} {ops : Array Oper} {rest : List Oper} {o : Oper} {a : Act} {Q : Exit → Act → World → Prop} {W : World}
/-- append(v, x), x one byte. -/
theorem app_byte (hgd : o.guard = none) (s x : Operand) (t : TypeId) (ho : o.op = .call { callee := .builtin .append, args := #[s, x], argTypes := #[t, t] })
    (ht : P.underlying t = some (.slice e)) (hinfo : (P.info? e).map (fun i => (i.zero, i.size, i.bytes)) = some (some (.int .u8 0), 1, 1))
    (H : AppB e base w0 v0 W v l) (hs : a.eval s = v) (y : Int) (c : UInt8) (hy : (c.toNat : Int) = y) {k : Nat} (hx : a.eval x = .slice (some ⟨k, 0, none⟩) 1 1) (hk : k = W.heap.size)
    (hbase : base ≤ w0.heap.size) (hl : l.length + 1 ≤ 140737488355328)
    (h : ∀ v1 w1, AppB e base w0 v0 w1 v1 (l ++ [c]) → wpList P ops Q rest (a.put o.dst v1) w1) :
    wpList P ops Q (o :: rest) a (W.alloc (.cells #[.int .u8 y] e)) := by
  subst hy
  subst hk
  obtain ⟨i0, hi, hzz⟩ := Option.map_eq_some_iff.1 hinfo
  simp only [Prod.mk.injEq] at hzz
  obtain ⟨hz0, hz1, hz2⟩ := hzz
  refine wpList_append_own_at (W.alloc (.cells #[.int .u8 c.toNat] e)) hgd s x t ho base e i0 (.int .u8 0) 1 1 ht hi hz0 hz1 hz2 rfl (by omega) v l.length (Bs l) hs (H.own.alloc _) ⟨W.heap.size, 0, none⟩ 1 1 [.int .u8 c.toNat] hx rfl
    (cell_one_new W _ _) (by intro u hu; simp at hu; subst hu; rfl) (by simp only [maxLen]; omega) (by omega) (by have := H.based hbase; simp; omega) ?_
  intro v1 w1 hown hg _ hat
  have hb := H.beside (World.grownBy_alloc W (.cells #[.int .u8 c.toNat] e) none)
  refine h v1 w1 (hb.trans ⟨by simpa [Bs] using hown, hg, ?_⟩)
  rcases hat with hat | hat
  · exact .inl hat
  · exact .inr ⟨_, hat, Nat.le_refl _⟩

/-- append(v, s...), s a string. -/
theorem app_str (hgd : o.guard = none) (s x : Operand) (t u : TypeId) (ho : o.op = .call { callee := .builtin .append, args := #[s, x], argTypes := #[t, u] })
    (ht : P.underlying t = some (.slice e)) (hu : P.underlying u = some .string) (hinfo : (P.info? e).map (fun i => (i.zero, i.size, i.bytes)) = some (some (.int .u8 0), 1, 1))
    (H : AppB e base w0 v0 W v l) (hs : a.eval s = v) (str : ByteArray) (hx : a.eval x = .string str)
    (hbase : base ≤ w0.heap.size) (hl : l.length + str.size ≤ 140737488355328)
    (h : ∀ v1 w1, AppB e base w0 v0 w1 v1 (l ++ str.data.toList) → wpList P ops Q rest (a.put o.dst v1) w1) :
    wpList P ops Q (o :: rest) a W := by
  obtain ⟨i0, hi, hzz⟩ := Option.map_eq_some_iff.1 hinfo
  simp only [Prod.mk.injEq] at hzz
  obtain ⟨hz0, hz1, hz2⟩ := hzz
  refine wpList_plain hgd fun K hK => ?_
  have h63 : l.length + str.size ≤ maxLen := by simp only [maxLen]; omega
  obtain ⟨v', w', hr, h2, h3, h4⟩ := Lib.run_append_own_string (P := P) W base t u o.type e i0 ht hu hi hz0 hz1 hz2 v l.length (Bs l) H.own str h63 hl (H.based hbase)
  have hat : v'.ownBlock = v.ownBlock ∨ v'.ownBlock = some W.heap.size := by
    rcases H.own.2 with ⟨rfl, h0⟩ | ⟨g, cap, cur, rfl, hbg, hg, hnc, hcm, hcs, htake⟩
    · by_cases hm : str.size = 0
      · rw [h4.2 ⟨rfl, hm⟩]; exact .inl rfl
      · have hr' := run_append_nil_string (P := P) W t u o.type e i0 (.int .u8 0) ht hu hi hz0 str (by omega) (by omega) (by rw [hz2]; omega)
        rw [hr] at hr'
        injection hr' with hv _
        rw [hv]; exact .inr rfl
    · by_cases hroom : l.length + str.size ≤ cap
      · have hcs' : cur.size = cap := by simpa using hcs
        have hr' := Lib.run_append_room_string (P := P) W t u o.type e i0 ht hu hi hz1 g l.length cap cur hg str hroom (by omega)
        rw [hr] at hr'
        injection hr' with hv _
        rw [hv]; exact .inl rfl
      · have holds : ∀ j u, (Bs l)[j]? = some u → W.cell? ((⟨g, 0, none⟩ : Addr).add j) = some u := H.own.cells (g := g) rfl
        have hr' := Lib.run_append_grow_string (P := P) W t u o.type e i0 (.int .u8 0) ht hu hi hz0 ⟨g, 0, none⟩ l.length cap (Bs l) (by rw [hz1, Bs_length, Nat.mul_one]) holds str (by omega) (by simp only [maxLen] at h63; omega) (by rw [hz2]; exact growslice_fits (by omega) (by omega))
        rw [hr] at hr'
        injection hr' with hv _
        rw [hv]; exact .inr rfl
  unfold Oper.wp execOp
  simp only [ho, resolve, invoke, builtin, Sem.run_bind, Sem.run_pure, Result.andThen_ok, List.map_toArray, List.map_cons, List.map_nil, hs, hx, hr]
  refine hK _ _ (h v' w' (H.trans ⟨?_, h3, ?_⟩))
  · have he : str.data.toList.length = str.size := by rw [Array.length_toList]; rfl
    rw [List.length_append, he, Bs_append]
    exact h2
  · rcases hat with hat | hat
    · exact .inl hat
    · exact .inr ⟨_, hat, Nat.le_refl _⟩
end

/-- string(v) of an owned slice of bytes. -/
theorem own_str {P : Program} {src dst et e' : TypeId} (hs : P.underlying src = some (.slice et)) (he : P.underlying et = some (.int .u8)) (hd : P.underlying dst = some .string)
    (h : w.ownsRow base e' 1 v l.length (Bs l)) : (convert src dst v).run P w = .ok (.string ⟨l.toArray⟩) w := by
  have key : ∀ xs : List UInt8, strOfNums (xs.map fun b => (b.toNat : Int)) = ⟨xs.toArray⟩ := by
    intro xs
    simp only [strOfNums, List.map_map]
    congr 2
    refine (List.map_congr_left fun b _ => ?_).trans (List.map_id xs)
    simp
  rcases h.2 with ⟨rfl, h0⟩ | ⟨g, cap, cur, rfl, _⟩
  · obtain rfl : l = [] := List.eq_nil_of_length_eq_zero h0
    exact run_convert_bytes_nil w src et hs he 0 0 dst hd
  · rw [← key l]
    refine run_convert_bytes_arg w src et hs he g 0 l.length cap (l.map fun b => (b.toNat : Int)) (by simp) (fun i hi => ?_) dst hd
    have hc := h.cells (g := g) rfl i (.int .u8 ((l.map fun b => (b.toNat : Int)).getD i 0)) (by simp [Bs, List.getElem?_eq_getElem hi, List.getD_eq_getElem?_getD])
    have ha : (⟨g, 0, none⟩ : Addr).add i = ⟨g, 0 + i, none⟩ := by unfold Addr.add; split <;> simp_all
    rwa [ha] at hc

end Go.Proofs.YtlpaecafpbbbkaaGreatDoor
namespace Go.Proofs.YtlpaecafpbbbkaaGreatDoor
open Go.RowKit

/-- A row of floating-point numbers (nil, or n of them in a block). -/
structure FRow (W : World) (p : Option Addr) (n cap : Nat) : Prop where
  le : n ≤ cap
  most : cap ≤ maxLen
  some_ : 0 < n → ∃ a, p = some a
  at_ : ∀ a, p = some a → ∀ i, i < n → ∃ b, W.cell? (a.add i) = some (.float .f64 b) ∧ b < 18446744073709551616
theorem FRow.mono {W W' : World} {p : Option Addr} {n cap : Nat} (h : FRow W p n cap) (hg : W.grownBy W' none) : FRow W' p n cap :=
  ⟨h.le, h.most, h.some_, fun a ha i hi => by obtain ⟨b, h1, h2⟩ := h.at_ a ha i hi; exact ⟨b, hg.cell h1 (by simp), h2⟩⟩

/-- A geometry whose parts lie in memory to the depth h. -/
def KG : Nat → World → Value → Prop
  | 0, _, _ => False
  | h + 1, W, v => ∃ k d p n cap q m c2, v = .agg #[.int .i64 k, .int .i64 d, .slice p n cap, .slice q m c2] ∧ FRow W p n cap ∧ m ≤ c2 ∧ c2 ≤ maxLen ∧ (0 < m → ∃ a, q = some a) ∧
      ∀ a, q = some a → ∀ i, i < m → ∃ c0 c1 c2 c3, KG h W (.agg #[c0, c1, c2, c3]) ∧ W.cell? (a.add (i * 4)) = some c0 ∧ W.cell? ⟨(a.add (i * 4)).block, (a.add (i * 4)).off + 1, none⟩ = some c1 ∧ W.cell? ⟨(a.add (i * 4)).block, (a.add (i * 4)).off + 2, none⟩ = some c2 ∧ W.cell? ⟨(a.add (i * 4)).block, (a.add (i * 4)).off + 3, none⟩ = some c3
theorem KG.mono {W W' : World} (hg : W.grownBy W' none) : ∀ {h : Nat} {v : Value}, KG h W v → KG h W' v
  | 0, _, h => h
  | h + 1, _, ⟨k, d, p, n, cap, q, m, c2, e, f, h1, h2, h3, h4⟩ => ⟨k, d, p, n, cap, q, m, c2, e, f.mono hg, h1, h2, h3, fun a ha i hi => by
      obtain ⟨c0, c1, c2, c3, k0, k1, k2, k3, k4⟩ := h4 a ha i hi
      exact ⟨c0, c1, c2, c3, KG.mono hg k0, hg.cell k1 (by simp), hg.cell k2 (by simp), hg.cell k3 (by simp), hg.cell k4 (by simp)⟩⟩

theorem KG.form {W : World} : ∀ {h : Nat} {v : Value}, KG h W v → ∃ k d p n cap q m c2, v = .agg #[.int .i64 k, .int .i64 d, .slice p n cap, .slice q m c2]
  | 0, _, h => by cases h
  | _ + 1, _, ⟨k, d, p, n, cap, q, m, c2, e, _⟩ => ⟨k, d, p, n, cap, q, m, c2, e⟩
theorem KG.form4 {W : World} {h : Nat} {c0 c1 c2 c3 : Value} (hk : KG h W (.agg #[c0, c1, c2, c3])) : ∃ k d p n cap q m c, c0 = .int .i64 k ∧ c1 = .int .i64 d ∧ c2 = .slice p n cap ∧ c3 = .slice q m c := by
  obtain ⟨k, d, p, n, cap, q, m, c, e⟩ := hk.form
  simp only [Value.agg.injEq, Array.mk.injEq, List.cons.injEq, and_true] at e
  exact ⟨k, d, p, n, cap, q, m, c, e⟩

/-- How many numbers a geometry has. -/
def numsLen : Value → Nat
  | .agg #[_, _, .slice _ n _, _] => n
  | _ => 0
def WPost (W : World) (v : Value) (e : Ending) (w' : World) : Prop := ∃ r : Int, e = .returned (.int .i64 r) ∧ -1 ≤ r ∧ r ≤ 2000 ∧ (0 ≤ r → numsLen v ≤ 2000) ∧ W.grownBy w' none

set_option maxRecDepth 100000 in
set_option maxHeartbeats 1000000 in
theorem gWeight_any : ∀ (h : Nat) (W : World) (v : Value) (left : Int), KG h W v → left ≤ 2000 → Calls Tryz.prog 39 #[v, .int .i64 left] W (WPost W v) := by
  intro h
  induction h with
  | zero => intro W v left hk; cases hk
  | succ h ih =>
    intro W v left hk hleft
    obtain ⟨k, d, p, n, cap, q, m, c2, rfl, hf, hm1, hm2, hm3, hm4⟩ := hk
    have HM := Lib.hid hm4
    have HM3 := Lib.hid hm3
    clear hm4 hm3
    have hmax : maxLen = 9223372036854775807 := rfl
    by_cases hb : left < 1 ∨ left < n ∨ left < m
    · go_enter Tryz.func39, Tryz.ntmps39
      go_wp2_with fail
      all_goals first
        | (exfalso; omega)
        | (go_ret; exact ⟨-1, rfl, by omega, by omega, fun h => by omega, World.grownBy_alloc _ _ _⟩)
    · obtain ⟨b1, b2, b3⟩ : 1 ≤ left ∧ (n : Int) ≤ left ∧ (m : Int) ≤ left := by omega
      clear hb
      go_enter Tryz.func39, Tryz.ntmps39
      go_wp2_with fail
      have H1 := World.grownBy_alloc W (.cells #[.int .i64 k, .int .i64 d, .slice p n cap, .slice q m c2] 33) none
      have HB : Hid (∀ W', (W.alloc (.cells #[.int .i64 k, .int .i64 d, .slice p n cap, .slice q m c2] 33)).grownBy W' none → W'.cell? ⟨W.heap.size, 3, none⟩ = some (.slice q m c2)) := fun W' g => g.cell (by simp) (by simp)
      go_loopw [1, 5] (fun l i wr => ∃ (r : Int) (j : Nat), l = .int .i64 r ∧ i = .int .i64 j ∧ j ≤ m ∧ -1 ≤ r ∧ r ≤ 2000 ∧ (W.alloc (.cells #[.int .i64 k, .int .i64 d, .slice p n cap, .slice q m c2] 33)).grownBy wr none) (fun _ i _ => m - (intOf i).toNat)
      case atStart => exact ⟨_, 0, rfl, rfl, by omega, by omega, by omega, gt_refl _ _⟩
      case round =>
        obtain ⟨r, j, rfl, rfl, hj, hr1, hr2, hg⟩ := hrel
        rename World => wr
        have hbox := HB.out wr hg
        by_cases hjm : j < m
        · by_cases hr0 : 0 ≤ r
          · obtain ⟨a, rfl⟩ := HM3.out (by omega)
            obtain ⟨c0, c1, c2, c3, k0, k1, k2, k3, k4⟩ := HM.out a rfl j hjm
            have G := gt_trans H1 hg (.inl rfl)
            have q1 := G.cell k1 (by simp)
            have q2 := G.cell k2 (by simp)
            have q3 := G.cell k3 (by simp)
            have q4 := G.cell k4 (by simp)
            have IH := Lib.hid (ih wr _ r (k0.mono G) hr2)
            clear k0 k1 k2 k3 k4
            go_wp2_with (go_at_call 39; refine IH.out.mono ?_; rintro e w' ⟨r', rfl, hr1', hr2', _, hg'⟩)
            exact ⟨⟨r', j + 1, rfl, by go_num, by omega, hr1', hr2', gt_trans hg hg' (.inr (.inl rfl))⟩, by simp [intOf]; omega⟩
          · go_wp2_with fail
            go_wp2_with fail
            go_ret
            exact ⟨r, rfl, hr1, hr2, fun _ => by show n ≤ 2000; omega, gt_trans H1 hg (.inl rfl)⟩
        · go_wp2_with fail
          go_wp2_with fail
          go_ret
          exact ⟨r, rfl, hr1, hr2, fun _ => by show n ≤ 2000; omega, gt_trans H1 hg (.inl rfl)⟩

end Go.Proofs.YtlpaecafpbbbkaaGreatDoor
namespace Go.Proofs.YtlpaecafpbbbkaaGreatDoor
open Go.RowKit

/-- An answer of yes or no, beside which nothing that was there changes. -/
def YN (W : World) (R : Bool → Prop) (e : Ending) (w' : World) : Prop := ∃ b, e = .returned (.bool b) ∧ R b ∧ W.grownBy w' none

set_option maxRecDepth 100000 in
set_option maxHeartbeats 1000000 in
theorem gSmall_any (h : Nat) (W : World) (a : Addr) (c0 c1 c2 c3 : Value) (hk : KG h W (.agg #[c0, c1, c2, c3])) (k0 : W.cell? a = some c0)
    (k1 : W.cell? ⟨a.block, a.off + 1, none⟩ = some c1) (k2 : W.cell? ⟨a.block, a.off + 2, none⟩ = some c2) (k3 : W.cell? ⟨a.block, a.off + 3, none⟩ = some c3) :
    Calls Tryz.prog 20 #[.slice (some a) 1 1] W (YN W fun b => b = true → numsLen (.agg #[c0, c1, c2, c3]) ≤ 2000) := by
  go_enter Tryz.func20, Tryz.ntmps20
  go_wp2_with fail
  go_loopw [3, 4] (fun l i wr => ∃ (r : Int) (j : Nat), l = .int .i64 r ∧ i = .int .i64 j ∧ j ≤ 1 ∧ -1 ≤ r ∧ r ≤ 2000 ∧ W.grownBy wr none ∧ (j = 1 → 0 ≤ r → numsLen (.agg #[c0, c1, c2, c3]) ≤ 2000)) (fun _ i _ => 1 - (intOf i).toNat)
  case atStart => exact ⟨2000, 0, rfl, rfl, by omega, by omega, by omega, gt_refl _ _, fun h => by omega⟩
  case round =>
    obtain ⟨r, j, rfl, rfl, hj, hr1, hr2, hg, hn⟩ := hrel
    rename World => wr
    by_cases hj0 : j = 0
    · subst hj0
      have q0 := hg.cell k0 (by simp)
      have q1 := hg.cell k1 (by simp)
      have q2 := hg.cell k2 (by simp)
      have q3 := hg.cell k3 (by simp)
      have IH := Lib.hid (gWeight_any h wr _ r (hk.mono hg) hr2)
      clear k0 k1 k2 k3
      by_cases hr0 : 0 ≤ r
      · go_wp2_with (go_at_call 39; refine IH.out.mono ?_; rintro e w' ⟨r', rfl, hr1', hr2', hn', hg'⟩)
        exact ⟨⟨r', 1, rfl, by go_num, by omega, hr1', hr2', gt_trans hg hg' (.inl rfl), fun _ => hn'⟩, by simp [intOf]⟩
      · go_wp2_with fail
        go_wp2_with fail
        go_ret
        exact ⟨_, rfl, fun h => by simp at h; try omega, hg⟩
    · obtain rfl : j = 1 := by omega
      go_wp2_with fail
      go_wp2_with fail
      go_ret
      exact ⟨_, rfl, fun h => hn trivial (by simpa using h), hg⟩

set_option maxHeartbeats 1000000 in
theorem isNaN_any (b : Nat) (W : World) : Calls Tryz.prog 38 #[.float .f64 b] W (YN W fun _ => True) := by
  go_enter Tryz.func38, Tryz.ntmps38
  go_wp2_with fail
  go_ret
  exact ⟨_, rfl, trivial, gt_refl _ _⟩

set_option maxHeartbeats 1000000 in
theorem abs_any (b : Nat) (W : World) : Calls Tryz.prog 294 #[.float .f64 b] W fun e w' => (∃ b', e = .returned (.float .f64 b')) ∧ w' = W := by
  have hfb : ∀ w : World, (callFunc 83 #[.float .f64 b]).run Tryz.prog w = .ok (.value (.int .u64 b)) w := fun w => by kernel_rfl
  have hff : ∀ (w : World) (n : Int), (callFunc 153 #[.int .u64 n]).run Tryz.prog w = .ok (.value (.float .f64 n.toNat)) w := fun w n => by kernel_rfl
  go_enter Tryz.func294, Tryz.ntmps294
  go_wp2_with fail
  go_ret
  exact ⟨⟨_, rfl⟩, rfl⟩

set_option maxHeartbeats 1000000 in
theorem isInf_any (b : Nat) (W : World) : Calls Tryz.prog 250 #[.float .f64 b, .int .i64 0] W (YN W fun _ => True) := by
  go_enter Tryz.func250, Tryz.ntmps250
  go_wp2_with (go_at_call 294; refine (abs_any b _).mono ?_; rintro e w' ⟨⟨b', rfl⟩, rfl⟩)
  go_ret
  exact ⟨_, rfl, trivial, gt_refl _ _⟩

end Go.Proofs.YtlpaecafpbbbkaaGreatDoor
namespace Go.Proofs.YtlpaecafpbbbkaaGreatDoor
open Go.RowKit

/-- A row of floating-point numbers of which the bits are known. -/
structure FVal (W : World) (p : Option Addr) (n : Nat) (f : Nat → Nat) : Prop where
  some_ : 0 < n → ∃ a, p = some a
  at_ : ∀ a, p = some a → ∀ i, i < n → W.cell? (a.add i) = some (.float .f64 (f i))
  lt : ∀ i, f i < 18446744073709551616
theorem FVal.mono {W W' : World} {p : Option Addr} {n : Nat} {f : Nat → Nat} (h : FVal W p n f) (hg : W.grownBy W' none) : FVal W' p n f :=
  ⟨h.some_, fun a ha i hi => hg.cell (h.at_ a ha i hi) (by simp), h.lt⟩
def bitsOf : Option Value → Nat
  | some (.float _ b) => if b < 18446744073709551616 then b else 0
  | _ => 0
theorem bitsOf_lt (o : Option Value) : bitsOf o < 18446744073709551616 := by
  unfold bitsOf
  split
  · split <;> omega
  · omega
theorem FRow.vals {W : World} {p : Option Addr} {n cap : Nat} (h : FRow W p n cap) : ∃ f, FVal W p n f := by
  refine ⟨fun i => bitsOf (p.bind fun a => W.cell? (a.add i)), h.some_, fun a ha i hi => ?_, fun i => bitsOf_lt _⟩
  obtain ⟨b, h1, h2⟩ := h.at_ a ha i hi
  rw [h1, ha]
  simp [h1, bitsOf, h2]

theorem i64_low2 (n : Int) : bits .and .i64 n 3 = n % 4 := by
  have h127 : (BitVec.ofInt 64 3).toNat = 2 ^ 2 - 1 := by decide
  have key : (BitVec.ofInt 64 n &&& BitVec.ofInt 64 3).toNat = (n % ((2 ^ 64 : Nat) : Int)).toNat % 2 ^ 2 := by
    rw [BitVec.toNat_and, BitVec.toNat_ofInt, h127, Nat.and_two_pow_sub_one_eq_mod]
  show IntKind.i64.wrap ((BitVec.ofInt 64 n &&& BitVec.ofInt 64 3).toNat : Nat) = n % 4
  rw [key, IntKind.wrap_i64]
  omega

/-- How many numbers a place has, by its type. -/
def widN (r : Nat) : Nat := 2 + r % 2 + r / 2

set_option maxHeartbeats 400000 in
theorem dimOf_r (d : Int) (r : Nat) (hr : d % 4 = r) (w : World) : Calls Tryz.prog 104 #[.int .i64 d] w fun e w' => e = .returned (.int .u8 r) ∧ w' = w := by
  have he : bits .and .i64 d 3 = r := by rw [i64_low2]; omega
  have h3 : r < 4 := by omega
  clear hr
  go_enter Tryz.func104, Tryz.ntmps104
  go_wp2
  go_ret
  exact ⟨by go_num, rfl⟩

set_option maxRecDepth 100000 in
set_option maxHeartbeats 400000 in
theorem Dimension_lit (x y : Int) (h : (x = 0 ∧ y = 2) ∨ (x = 1 ∧ y = 3) ∨ (x = 2 ∧ y = 3) ∨ (x = 3 ∧ y = 4)) (w : World) :
    Calls Tryz.prog 168 #[.int .u8 x] w fun e w' => e = .returned (.int .i64 y) ∧ w' = w := by
  have hi : ∀ W : World, (Instr.index 278 (.agg #[.int .i64 2, .int .i64 3, .int .i64 3, .int .i64 4]) (.int .u8 x)).run Tryz.prog W = .ok (.int .i64 y) W := fun W => by
    rcases h with ⟨rfl, rfl⟩ | ⟨rfl, rfl⟩ | ⟨rfl, rfl⟩ | ⟨rfl, rfl⟩ <;> kernel_rfl
  clear h
  go_enter Tryz.func168, Tryz.ntmps168
  go_wp2_with fail
  go_ret
  exact ⟨rfl, rfl⟩
theorem Dimension_any (r : Nat) (hr : r < 4) (w : World) : Calls Tryz.prog 168 #[.int .u8 r] w fun e w' => e = .returned (.int .i64 (widN r : Nat)) ∧ w' = w :=
  Dimension_lit r (widN r : Nat) (by unfold widN; omega) w

set_option maxRecDepth 100000 in
set_option maxHeartbeats 1000000 in
theorem NewSequence_any (r n : Nat) (p : Option Addr) (cap : Nat) (hr : r < 4) (hn : n % widN r = 0) (w : World) :
    Calls Tryz.prog 125 #[.slice p n cap, .int .u8 r] w fun e w' => e = .returned (.agg #[.int .u8 r, .slice p n cap]) ∧ w.grownBy w' none := by
  obtain ⟨k, hk, hk2, hk4⟩ : ∃ k : Nat, k = widN r ∧ 2 ≤ k ∧ k ≤ 4 := ⟨widN r, rfl, by unfold widN; omega, by unfold widN; omega⟩
  have HD := Lib.hid (fun w => Dimension_any r hr w)
  rw [← hk] at hn HD
  clear hk
  have hz : (n : Int) % (k : Int) = 0 := by exact_mod_cast hn
  go_enter Tryz.func125, Tryz.ntmps125
  go_wp2_with (go_at_call 168; refine (HD.out _).mono ?_; rintro e w' ⟨rfl, rfl⟩)
  go_returns
  exact ⟨rfl, World.grownBy_alloc _ _ _⟩

theorem FVal.set {w : World} {a q : Addr} {n : Nat} {f : Nat → Nat} (h : FVal w (some a) n f) (hq : a.block ≠ q.block) (x : Value) : FVal (w.setCell q x) (some a) n f := by
  refine ⟨h.some_, fun b hb i hi => ?_, h.lt⟩
  have h0 := h.at_ b hb i hi
  injection hb with hb
  subst hb
  have e : (a.add i).block = a.block := by unfold Addr.add; split <;> rfl
  rw [World.cell?_of_block (w := w) (Below.heap_setCell w q x _ (by rw [e]; exact hq))]
  exact h0
theorem own_heap {w : World} {base g n cap : Nat} {e : TypeId} {xs : List Value} (h : w.ownsRow base e 1 (.slice (some ⟨g, 0, none⟩) n cap) n xs) : ∃ cur : List Value, w.heap[g]? = some (.cells cur.toArray e (0, 0)) ∧ cur.length = cap := by
  obtain ⟨_, h | ⟨g', cap', cur, hv, hb, hc, _, _, hs, _⟩⟩ := h
  · cases h.1
  · cases hv
    exact ⟨cur.toList, by simpa using hc, by simpa using hs⟩

set_option maxRecDepth 100000 in
set_option maxHeartbeats 1000000 in
theorem sequence_any (d : Int) (r : Nat) (hr : d % 4 = r) (p : Option Addr) (n cap : Nat) (f : Nat → Nat) (hn : n ≤ 2000) (W : World) (hf : FVal W p n f) :
    Calls Tryz.prog 101 #[.slice p n cap, .int .i64 d] W fun e w' => ∃ a, e = .returned (.agg #[.int .u8 r, .slice (some a) (n - n % widN r) (n - n % widN r)]) ∧ FVal w' (some a) (n - n % widN r) f ∧ W.heap.size ≤ a.block ∧ a.block < w'.heap.size ∧ W.grownBy w' none := by
  have hr4 : r < 4 := by omega
  obtain ⟨k, hk, hk2, hk4⟩ : ∃ k : Nat, k = widN r ∧ 2 ≤ k ∧ k ≤ 4 := ⟨widN r, rfl, by unfold widN; omega, by unfold widN; omega⟩
  have HD := Lib.hid (fun w => Dimension_any r hr4 w)
  have HS := Lib.hid (fun m p cap (h : m % widN r = 0) w => NewSequence_any r m p cap hr4 h w)
  have HO := Lib.hid (fun w => dimOf_r d r hr w)
  rw [← hk] at HD HS ⊢
  clear hk hr
  obtain ⟨N, hN, hNn, hNk⟩ : ∃ N : Nat, N = n - n % k ∧ N ≤ n ∧ N % k = 0 := ⟨_, rfl, by omega, by
    have := Nat.mod_add_div n k
    have e : n - n % k = k * (n / k) := by omega
    rw [e]; exact Nat.mul_mod_right _ _⟩
  have hz : (n : Int) - (n : Int) % (k : Int) = (N : Int) := by
    have : (n : Int) % (k : Int) = ((n % k : Nat) : Int) := by push_cast; rfl
    have h2 : n % k ≤ n := Nat.mod_le _ _
    omega
  rw [← hN]
  have HN := Lib.hid hN
  clear hN
  obtain ⟨cs, hcs⟩ : ∃ cs : List Value, cs = (List.range N).map fun i => .float .f64 (f i) := ⟨_, rfl⟩
  have hcl : cs.length = N := by rw [hcs]; simp
  have h1c : Hid (∀ v ∈ cs, v.oneCell' = true) := fun v hv => by rw [hcs] at hv; obtain ⟨i, _, rfl⟩ := List.mem_map.1 hv; rfl
  have hsrc : Hid (∀ (w : World), W.grownBy w none → 0 < cs.length → ∃ ad, p = some ad ∧ ∀ j v, cs[j]? = some v → w.cell? (ad.add j) = some v) := by
    intro w hg hpos
    obtain ⟨a, ha⟩ := hf.some_ (by omega)
    refine ⟨a, ha, fun j v hv => ?_⟩
    rw [hcs, List.getElem?_map] at hv
    by_cases hj : j < N
    · rw [List.getElem?_range hj] at hv
      simp only [Option.map_some, Option.some.injEq] at hv
      rw [← hv]
      exact hg.cell (hf.at_ a ha j (by omega)) (by simp)
    · rw [List.getElem?_eq_none (by simpa using hj)] at hv
      cases hv
  have hfin : Hid (∀ (w : World) (g : Nat) (cur : List Value), cur.length = N → w.heap[g]? = some (.cells (splice cur 0 cs).toArray 26 (0, 0)) → FVal w (some ⟨g, 0, none⟩) N f) := by
    intro w g cur hc hg
    refine ⟨fun _ => ⟨_, rfl⟩, fun a ha i hi => ?_, hf.lt⟩
    injection ha with ha
    subst ha
    have e : splice cur 0 cs = cs := by simp [splice, hcl, ← hc]
    rw [e] at hg
    have hci : cs[i]? = some (.float .f64 (f i)) := by rw [hcs, List.getElem?_map, List.getElem?_range hi]; rfl
    by_cases h0 : i = 0
    · subst h0; simp [Addr.add, World.cell?, hg, hci]
    · simp [Addr.add, World.cell?, hg, hci, h0]
  have hsz : (Tryz.prog.info? 26).map (·.size) = some 1 := by kernel_rfl
  have hinfo : (Tryz.prog.info? 26).map (fun i => (i.zero, i.size, i.bytes)) = some (some (.float .f64 0), 1, 8) := by kernel_rfl
  obtain ⟨i0, hi, hzz⟩ := Option.map_eq_some_iff.1 hinfo
  simp only [Prod.mk.injEq] at hzz
  have HI := Lib.hid hzz
  have HB1 := Lib.hid (World.grownBy_alloc W (.cells #[.int .u8 0, .slice none 0 0] 91) none)
  have HC : Hid (∀ w, (W.alloc (.cells #[.int .u8 0, .slice none 0 0] 91)).grownBy w none → w.cell? ⟨W.heap.size, 0, none⟩ = some (.int .u8 0) ∧ w.cell? ⟨W.heap.size, 1, none⟩ = some (.slice none 0 0) ∧ w.frozen? ⟨W.heap.size, 0, none⟩ = false ∧ w.frozen? ⟨W.heap.size, 1, none⟩ = false) := fun w g => by
    have hb := g.block W.heap.size (by simp) (by simp)
    refine ⟨g.cell (by simp) (by simp), g.cell (by simp) (by simp), ?_, ?_⟩ <;> (rw [World.frozen?_of_block hb]; simp)
  have HW : Hid (∀ w, Below (W.heap.size + 1) (W.alloc (.cells #[.int .u8 0, .slice none 0 0] 91)) w → (W.alloc (.cells #[.int .u8 0, .slice none 0 0] 91)).grownBy w none) := fun w h => gt_below (by simpa using h) none
  clear hcs hzz hinfo
  go_enter Tryz.func101, Tryz.ntmps101
  go_wp2_with (first
    | (go_at_call 104; refine (HO.out _).mono ?_; rintro e w' ⟨rfl, rfl⟩)
    | (go_at_call 168; refine (HD.out _).mono ?_; rintro e w' ⟨rfl, rfl⟩)
    | (at_make; refine wpList_make_full _ rfl _ _ _ rfl W.heap.size 26 i0 (.float .f64 0) 1 Tryz.underlying30 hi HI.out.1 HI.out.2.1 .i64 .i64 _ _ N rfl rfl rfl rfl (by rw [HI.out.2.2]; omega) (by unfold maxLen; omega) (by simp) ?_; intro w1 hown hg1; obtain ⟨cur, hcur, hlen⟩ := own_heap hown; clear hown)
    | (refine wpList_copy_splice rfl _ _ _ _ rfl 26 Tryz.underlying30 hsz _ _ _ _ _ _ rfl rfl (W.heap.size + 1) 0 cur 26 (by simpa using hcur) cs (by rw [hcl]; exact (Nat.min_eq_right hNn).symm) (fun hp => ⟨rfl, hsrc.out _ (gt_trans HB1.out hg1 (.inl rfl)) hp⟩) (by simp at hlen ⊢; omega) h1c.out (W.heap.size + 1) (W.alloc (.cells #[.int .u8 0, .slice none 0 0] 91)) (by simpa using below_gt hg1) (Nat.le_refl _) ?_; intro w2 HG2 hB2)
    | (go_at_call 125; refine (HS.out _ _ _ hNk _).mono ?_; rintro e w' ⟨rfl, hg3⟩; have hg2 := gt_trans (HW.out _ hB2) hg3 (.inl rfl); obtain ⟨x0, x1, x2, x3⟩ := HC.out _ hg2))
  have hv := (hfin.out _ _ _ (by simpa using hlen) HG2.out).mono hg3
  have hgr := gt_set_r (gt_set_r (gt_trans HB1.out hg2 (.inl rfl)) ⟨W.heap.size, 0, none⟩ (.int .u8 r) (Nat.le_refl _)) ⟨W.heap.size, 1, none⟩ (.slice (some ⟨W.heap.size + 1, 0, none⟩) N N) (Nat.le_refl _)
  have hv2 := (hv.set (q := ⟨W.heap.size, 0, none⟩) (by simp) (.int .u8 r)).set (q := ⟨W.heap.size, 1, none⟩) (by simp) (.slice (some ⟨W.heap.size + 1, 0, none⟩) N N)
  have z0 := World.cell?_setCell_same (w := w') (v := .int .u8 r) (h := x0)
  have z1 : (w'.setCell ⟨W.heap.size, 0, none⟩ (.int .u8 r)).cell? ⟨W.heap.size, 1, none⟩ = some (.slice none 0 0) := (World.cell?_setCell_other (w := w') (a := ⟨W.heap.size, 0, none⟩) (b := ⟨W.heap.size, 1, none⟩) (v := .int .u8 r) (h := by simp)).trans x1
  have z2 := World.cell?_setCell_same (v := .slice (some ⟨W.heap.size + 1, 0, none⟩) N N) (h := z1)
  have hbl : W.heap.size + 1 < ((w'.setCell ⟨W.heap.size, 0, none⟩ (.int .u8 r)).setCell ⟨W.heap.size, 1, none⟩ (.slice (some ⟨W.heap.size + 1, 0, none⟩) N N)).heap.size := by
    have h1 : W.heap.size + 1 < w2.heap.size := (Array.getElem?_eq_some_iff.1 HG2.out).1
    have h2 := hg3.size
    simp [World.setCell]
    omega
  clear hv HG2 hB2 hg3 hg2
  refine bodyPost_ret (by simp [results, Tryz.results101, go_sem, z0, z2]; try rfl) rfl ?_
  exact ⟨_, rfl, hv2, Nat.le_succ _, hbl, hgr⟩

end Go.Proofs.YtlpaecafpbbbkaaGreatDoor
namespace Go.Proofs.YtlpaecafpbbbkaaGreatDoor
open Go.Joins Go.ChangeShapes Go.WideShapes Go.RowKit Go.Deep Go.ChangeAt

theorem KG.up : ∀ {h : Nat} {W : World} {v : Value}, KG h W v → KG (h + 1) W v
  | 0, _, _, h => h.elim
  | _ + 1, _, _, ⟨k, d, p, n, cap, q, m, c2, e, f, h1, h2, h3, h4⟩ => ⟨k, d, p, n, cap, q, m, c2, e, f, h1, h2, h3, fun a ha i hi => by
      obtain ⟨c0, c1, c2, c3, k0, k1, k2, k3, k4⟩ := h4 a ha i hi
      exact ⟨c0, c1, c2, c3, KG.up k0, k1, k2, k3, k4⟩⟩

theorem add_add (a : Addr) (j : Nat) (hj : j ≠ 0) : a.add j = ⟨a.block, a.off + j, none⟩ := by
  unfold Addr.add
  simp [hj]

theorem list4 {α : Type} {cs : List α} (h : cs.length = 4) : ∃ c0 c1 c2 c3, cs = [c0, c1, c2, c3] := by
  match cs, h with
  | [c0, c1, c2, c3], _ => exact ⟨c0, c1, c2, c3, rfl⟩
section
variable {H : Type} {enc : TypeId × Value → H} {W : World} {base : Nat} {spare : Nat → Bool} {held : Bool}
theorem trod_float1 {fuel : Nat} {t : TypeId} {cs : List Value} {x : DataW H × List MemPlace} {k : FloatKind} {P : Program} (ht : P.underlying t = some (.float k)) (h : DataW.trod enc P W base spare held fuel t cs = some x) : ∃ n, cs = [.float k n] ∧ (Lit.float k n).wf = true := by
  cases fuel with
  | zero => simp [DataW.trod] at h
  | succ n =>
    unfold DataW.trod at h
    rw [ht] at h
    split at h <;> simp_all

theorem FRow_of_trod {fuel : Nat} {c : Value} {x : DataW H × List MemPlace} (h : DataW.trod enc Tryz.prog W base spare held fuel 30 [c] = some x) : ∃ p n cap, c = .slice p n cap ∧ FRow W p n cap ∧ (p = none → cap = 0) := by
  rcases DataW.trod_slice Tryz.underlying30 h with ⟨e, _⟩ | ⟨a, len, cap, elems, rest, n, _, e, _, hb, hlc, hcm, hel, hat, _⟩
  · simp only [List.cons.injEq, and_true] at e
    exact ⟨none, 0, 0, e, ⟨Nat.le_refl _, by decide, fun h => by omega, fun a ha => by cases ha⟩, fun _ => rfl⟩
  · simp only [List.cons.injEq, and_true] at e
    refine ⟨some a, len, cap, e, ⟨hlc, hcm, fun _ => ⟨a, rfl⟩, fun a' ha i hi => ?_⟩, fun h => by cases h⟩
    injection ha with ha
    subst ha
    have h1 := hat i hi
    rw [show Tryz.prog.cellsOf 26 = 1 by kernel_rfl, Nat.mul_one] at h1
    have hx : ∃ y, elems[i]? = some y := ⟨_, List.getElem?_eq_getElem (by omega)⟩
    obtain ⟨y, hy⟩ := hx
    rw [hy] at h1
    obtain ⟨cs, hc, ht⟩ := Option.bind_eq_some_iff.1 h1
    obtain ⟨b, rfl, hb⟩ := trod_float1 Tryz.underlying26 ht
    exact ⟨b, cell_of_cells?_one hc, of_decide_eq_true hb⟩

set_option maxRecDepth 100000 in
theorem KG_of_trod : ∀ (fuel : Nat) (cs : List Value) (x : DataW H × List MemPlace), DataW.trod enc Tryz.prog W base spare held fuel 33 cs = some x →
    ∃ c0 c1 c2 c3, cs = [c0, c1, c2, c3] ∧ KG fuel W (.agg #[c0, c1, c2, c3]) := by
  intro fuel
  induction fuel using Nat.strongRecOn with
  | ind fuel ih =>
    intro cs x h
    obtain ⟨xs, n, rfl, rfl, hl, hlen, hf⟩ := DataW.trod_struct Tryz.underlying33 h
    have hC : Tryz.prog.cellsOf 33 = 4 := by kernel_rfl
    rw [hC] at hl
    obtain ⟨c0, c1, c2, c3, rfl⟩ := list4 hl
    obtain ⟨y0, y1, y2, y3, rfl⟩ := list4 hlen
    · · have g0 : DataW.trod enc Tryz.prog W base spare held n 3 (([c0, c1, c2, c3].drop 0).take (Tryz.prog.cellsOf 3)) = some y0 := hf 0 _ rfl
        have g1 : DataW.trod enc Tryz.prog W base spare held n 3 (([c0, c1, c2, c3].drop 1).take (Tryz.prog.cellsOf 3)) = some y1 := hf 1 _ rfl
        have g2 : DataW.trod enc Tryz.prog W base spare held n 30 (([c0, c1, c2, c3].drop 2).take (Tryz.prog.cellsOf 30)) = some y2 := hf 2 _ rfl
        have g3 : DataW.trod enc Tryz.prog W base spare held n 31 (([c0, c1, c2, c3].drop 3).take (Tryz.prog.cellsOf 31)) = some y3 := hf 3 _ rfl
        have s3 : Tryz.prog.cellsOf 3 = 1 := by kernel_rfl
        have sf : Tryz.prog.cellsOf 30 = 1 := by kernel_rfl
        have sg : Tryz.prog.cellsOf 31 = 1 := by kernel_rfl
        simp only [s3, sf, sg, List.drop_zero, List.drop_succ_cons, List.take_succ_cons, List.take_zero] at g0 g1 g2 g3
        obtain ⟨k, e0, _, _⟩ := DataW.trod_int Tryz.underlying3 g0
        obtain ⟨d, e1, _, _⟩ := DataW.trod_int Tryz.underlying3 g1
        obtain ⟨p, nn, cap, e2, hr, _⟩ := FRow_of_trod g2
        simp only [List.cons.injEq, and_true] at e0 e1
        refine ⟨c0, c1, c2, c3, rfl, ?_⟩
        rcases DataW.trod_slice Tryz.underlying31 g3 with ⟨e, _⟩ | ⟨a, len, cap3, elems, rest, m, em, e, _, hb, hlc, hcm, hel, hat, _⟩
        · simp only [List.cons.injEq, and_true] at e
          exact ⟨k, d, p, nn, cap, none, 0, 0, by rw [e0, e1, e2, e], hr, Nat.le_refl _, by decide, fun h => by omega, fun a ha => by cases ha⟩
        · simp only [List.cons.injEq, and_true] at e
          refine ⟨k, d, p, nn, cap, some a, len, cap3, by rw [e0, e1, e2, e], hr, hlc, hcm, fun _ => ⟨a, rfl⟩, fun a' ha i hi => ?_⟩
          injection ha with ha
          subst ha
          have h1 := hat i hi
          rw [hC] at h1
          have hx : ∃ y, elems[i]? = some y := ⟨_, List.getElem?_eq_getElem (by omega)⟩
          obtain ⟨y, hy⟩ := hx
          rw [hy] at h1
          obtain ⟨cs', hc, ht⟩ := Option.bind_eq_some_iff.1 h1
          obtain ⟨d0, d1, d2, d3, rfl, hk⟩ := ih m (by omega) cs' y ht
          subst em
          have hcell := World.cells?_some hc
          obtain ⟨_, hlen', hcell⟩ := hcell
          refine ⟨d0, d1, d2, d3, hk.up, ?_, ?_, ?_, ?_⟩
          · have := hcell 0 (by omega)
            simpa [Addr.add] using this
          · have := hcell 1 (by omega)
            rw [add_add _ 1 (by omega)] at this
            simpa using this
          · have := hcell 2 (by omega)
            rw [add_add _ 2 (by omega)] at this
            simpa using this
          · have := hcell 3 (by omega)
            rw [add_add _ 3 (by omega)] at this
            simpa using this
end
end Go.Proofs.YtlpaecafpbbbkaaGreatDoor
namespace Go.Proofs.YtlpaecafpbbbkaaGreatDoor
open Go.Joins Go.ChangeShapes Go.WideShapes Go.RowKit Go.Deep Go.ChangeAt

/-- A geometry: its kind, its type of coordinates, its numbers (n of them, as bits), its parts. -/
inductive Raw where
  | mk (k d : Int) (n : Nat) (f : Nat → Nat) (kids : List Raw)

mutual
/-- How many geometries and numbers. -/
def wt : Raw → Nat
  | .mk _ _ n _ kids => 1 + n + wts kids
def wts : List Raw → Nat
  | [] => 0
  | t :: ts => wt t + wts ts
end
theorem wts_append : ∀ (l m : List Raw), wts (l ++ m) = wts l + wts m
  | [], m => by simp [wts]
  | t :: l, m => by simp only [List.cons_append, wts, wts_append l m]; omega
theorem wts_take_succ (l : List Raw) (j : Nat) (t : Raw) (h : l[j]? = some t) : wts (l.take (j + 1)) = wts (l.take j) + wt t := by
  obtain ⟨hj, rfl⟩ := List.getElem?_eq_some_iff.1 h
  rw [List.take_succ_eq_append_getElem hj, wts_append]
  simp [wts]
theorem wt_pos (t : Raw) : 1 ≤ wt t := by cases t; unfold wt; omega
theorem wts_len : ∀ (l : List Raw), l.length ≤ wts l
  | [] => by simp [wts]
  | t :: l => by
    have := wts_len l
    have := wt_pos t
    simp only [List.length_cons, wts]; omega
theorem wts_mem : ∀ (l : List Raw) (i : Nat) (t : Raw), l[i]? = some t → wt t ≤ wts l
  | [], _, _, h => by simp at h
  | s :: l, 0, t, h => by simp at h; subst h; simp only [wts]; omega
  | s :: l, i + 1, t, h => by
    have := wts_mem l i t (by simpa using h)
    simp only [wts]; omega

/-- A geometry t in memory, to the depth h, all of it in blocks of which B is true. -/
def KD (B : Nat → Prop) : Nat → World → Value → Raw → Prop
  | 0, _, _, _ => False
  | h + 1, W, v, .mk k d n f kids => ∃ p cap q c2, v = .agg #[.int .i64 k, .int .i64 d, .slice p n cap, .slice q kids.length c2] ∧ FVal W p n f ∧ n ≤ cap ∧ cap ≤ maxLen ∧ (p = none → cap = 0) ∧ kids.length ≤ c2 ∧ c2 ≤ maxLen ∧ (q = none → c2 = 0) ∧
      (∀ a, q = some a → ∀ i t, kids[i]? = some t → ∃ c0 c1 c2 c3, KD B h W (.agg #[c0, c1, c2, c3]) t ∧ W.cell? (a.add (i * 4)) = some c0 ∧ W.cell? ⟨(a.add (i * 4)).block, (a.add (i * 4)).off + 1, none⟩ = some c1 ∧ W.cell? ⟨(a.add (i * 4)).block, (a.add (i * 4)).off + 2, none⟩ = some c2 ∧ W.cell? ⟨(a.add (i * 4)).block, (a.add (i * 4)).off + 3, none⟩ = some c3) ∧
      (∀ a, p = some a → B a.block) ∧ ∀ a, q = some a → B a.block
/-- What stands in blocks of which B is true stands there in W', too. -/
def Kept (B : Nat → Prop) (W W' : World) : Prop := ∀ a x, B a.block → W.cell? a = some x → W'.cell? a = some x
theorem Kept.grown {B : Nat → Prop} {W W' : World} (g : W.grownBy W' none) : Kept B W W' := fun _ _ _ h => g.cell h (by simp)
theorem Kept.set {B : Nat → Prop} {W : World} {q : Addr} (hq : ¬ B q.block) (x : Value) : Kept B W (W.setCell q x) := fun a y ha h => by
  rw [World.cell?_setCell_other (h := fun e => by subst e; exact hq ha)]
  exact h
theorem Kept.grownRow {B : Nat → Prop} {W W' : World} {r : Option Nat} (g : W.grownBy W' r) (hr : ∀ b, r = some b → ¬ B b) : Kept B W W' := fun a x ha h => g.cell h (fun e => hr _ e.symm ha)
theorem Kept.trans {B : Nat → Prop} {W W1 W2 : World} (h : Kept B W W1) (h' : Kept B W1 W2) : Kept B W W2 := fun a x ha k => h' a x ha (h a x ha k)
theorem add_block (a : Addr) (i : Nat) : (a.add i).block = a.block := by unfold Addr.add; split <;> rfl
theorem FVal.keep {B : Nat → Prop} {W W' : World} (hg : Kept B W W') {p : Option Addr} {n : Nat} {f : Nat → Nat} (h : FVal W p n f) (hp : ∀ a, p = some a → B a.block) : FVal W' p n f :=
  ⟨h.some_, fun a ha i hi => hg _ _ (by rw [add_block]; exact hp a ha) (h.at_ a ha i hi), h.lt⟩
theorem KD.keep {B : Nat → Prop} {W W' : World} (hg : Kept B W W') : ∀ {h : Nat} {v : Value} {t : Raw}, KD B h W v t → KD B h W' v t
  | 0, _, _, h => h.elim
  | _ + 1, _, .mk _ _ _ _ _, ⟨p, cap, q, c2, e, f, h1, h2, h3, h4, h5, h6, h7, h8, h9⟩ => ⟨p, cap, q, c2, e, f.keep hg h8, h1, h2, h3, h4, h5, h6, fun a ha i t hi => by
      obtain ⟨c0, c1, c2, c3, k0, k1, k2, k3, k4⟩ := h7 a ha i t hi
      have hb : B (a.add (i * 4)).block := by rw [add_block]; exact h9 a ha
      exact ⟨c0, c1, c2, c3, KD.keep hg k0, hg _ _ hb k1, hg _ _ hb k2, hg _ _ hb k3, hg _ _ hb k4⟩, h8, h9⟩
theorem KD.mono {B : Nat → Prop} {W W' : World} (hg : W.grownBy W' none) {h : Nat} {v : Value} {t : Raw} (k : KD B h W v t) : KD B h W' v t := k.keep (.grown hg)
theorem KD.weak {B B' : Nat → Prop} (hl : ∀ b, B b → B' b) : ∀ {h : Nat} {W : World} {v : Value} {t : Raw}, KD B h W v t → KD B' h W v t
  | 0, _, _, _, h => h.elim
  | _ + 1, _, _, .mk _ _ _ _ _, ⟨p, cap, q, c2, e, f, h1, h2, h3, h4, h5, h6, h7, h8, h9⟩ => ⟨p, cap, q, c2, e, f, h1, h2, h3, h4, h5, h6, fun a ha i t hi => by
      obtain ⟨c0, c1, c2, c3, k0, k1, k2, k3, k4⟩ := h7 a ha i t hi
      exact ⟨c0, c1, c2, c3, KD.weak hl k0, k1, k2, k3, k4⟩, fun a ha => hl _ (h8 a ha), fun a ha => hl _ (h9 a ha)⟩
theorem KD.up {B : Nat → Prop} : ∀ {h : Nat} {W : World} {v : Value} {t : Raw}, KD B h W v t → KD B (h + 1) W v t
  | 0, _, _, _, h => h.elim
  | _ + 1, _, _, .mk _ _ _ _ _, ⟨p, cap, q, c2, e, f, h1, h2, h3, h4, h5, h6, h7, h8⟩ => ⟨p, cap, q, c2, e, f, h1, h2, h3, h4, h5, h6, fun a ha i t hi => by
      obtain ⟨c0, c1, c2, c3, k0, k1, k2, k3, k4⟩ := h7 a ha i t hi
      exact ⟨c0, c1, c2, c3, KD.up k0, k1, k2, k3, k4⟩, h8⟩
theorem KD.le {B : Nat → Prop} {h h' : Nat} (hh : h ≤ h') {W : World} {v : Value} {t : Raw} (k : KD B h W v t) : KD B h' W v t := by
  induction hh with
  | refl => exact k
  | step _ ih => exact ih.up
theorem FVal.frow {W : World} {p : Option Addr} {n cap : Nat} {f : Nat → Nat} (h : FVal W p n f) (h1 : n ≤ cap) (h2 : cap ≤ maxLen) : FRow W p n cap :=
  ⟨h1, h2, h.some_, fun a ha i hi => ⟨f i, h.at_ a ha i hi, h.lt i⟩⟩
theorem KD.kg {B : Nat → Prop} : ∀ {h : Nat} {W : World} {v : Value} {t : Raw}, KD B h W v t → KG h W v
  | 0, _, _, _, h => h.elim
  | _ + 1, _, _, .mk k d n f kids, ⟨p, cap, q, c2, e, hf, h1, h2, h3, h4, h5, h6, h7, _⟩ => ⟨k, d, p, n, cap, q, kids.length, c2, e, hf.frow h1 h2, h4, h5, fun hp => by
      cases q with
      | none => have := h6 rfl; omega
      | some a => exact ⟨a, rfl⟩, fun a ha i hi => by
      obtain ⟨c0, c1, c2, c3, k0, k1, k2, k3, k4⟩ := h7 a ha i kids[i] (List.getElem?_eq_getElem hi)
      exact ⟨c0, c1, c2, c3, KD.kg k0, k1, k2, k3, k4⟩⟩
theorem KD.form {B : Nat → Prop} {W : World} : ∀ {h : Nat} {v : Value} {t : Raw}, KD B h W v t → ∃ k d n f kids p cap q c2, t = .mk k d n f kids ∧ v = .agg #[.int .i64 k, .int .i64 d, .slice p n cap, .slice q kids.length c2]
  | 0, _, _, h => by cases h
  | _ + 1, _, .mk k d n f kids, ⟨p, cap, q, c2, e, _⟩ => ⟨k, d, n, f, kids, p, cap, q, c2, rfl, e⟩
theorem KD.form4 {B : Nat → Prop} {W : World} {h : Nat} {c0 c1 c2 c3 : Value} {t : Raw} (hk : KD B h W (.agg #[c0, c1, c2, c3]) t) : ∃ k d n f kids p cap q c, t = .mk k d n f kids ∧ c0 = .int .i64 k ∧ c1 = .int .i64 d ∧ c2 = .slice p n cap ∧ c3 = .slice q kids.length c := by
  obtain ⟨k, d, n, f, kids, p, cap, q, c, rfl, e⟩ := hk.form
  simp only [Value.agg.injEq, Array.mk.injEq, List.cons.injEq, and_true] at e
  exact ⟨k, d, n, f, kids, p, cap, q, c, rfl, e⟩

theorem list_of {α : Type} {P : Nat → α → Prop} : ∀ (n : Nat), (∀ i, i < n → ∃ t, P i t) → ∃ l : List α, l.length = n ∧ ∀ i t, l[i]? = some t → P i t
  | 0, _ => ⟨[], rfl, fun i t h => by simp at h⟩
  | n + 1, h => by
    obtain ⟨l, hl, hp⟩ := list_of n fun i hi => h i (by omega)
    obtain ⟨t, ht⟩ := h n (by omega)
    refine ⟨l ++ [t], by simp [hl], fun i s hs => ?_⟩
    by_cases hi : i < n
    · rw [List.getElem?_append_left (by omega)] at hs
      exact hp i s hs
    · rw [List.getElem?_append_right (by omega)] at hs
      obtain ⟨h0, h1⟩ := List.getElem?_eq_some_iff.1 hs
      have : i = n := by simp at h0; omega
      subst this
      simp [hl] at h1
      subst h1
      exact ht

section
variable {H : Type} {enc : TypeId × Value → H} {W : World} {base : Nat} {spare : Nat → Bool} {held : Bool}
set_option maxRecDepth 100000 in
theorem KD_of_trod : ∀ (fuel : Nat) (cs : List Value) (x : DataW H × List MemPlace), DataW.trod enc Tryz.prog W base spare held fuel 33 cs = some x →
    ∃ c0 c1 c2 c3 t, cs = [c0, c1, c2, c3] ∧ KD (fun _ => True) fuel W (.agg #[c0, c1, c2, c3]) t := by
  intro fuel
  induction fuel using Nat.strongRecOn with
  | ind fuel ih =>
    intro cs x h
    obtain ⟨xs, n, rfl, rfl, hl, hlen, hf⟩ := DataW.trod_struct Tryz.underlying33 h
    have hC : Tryz.prog.cellsOf 33 = 4 := by kernel_rfl
    rw [hC] at hl
    obtain ⟨c0, c1, c2, c3, rfl⟩ := list4 hl
    obtain ⟨y0, y1, y2, y3, rfl⟩ := list4 hlen
    have g0 : DataW.trod enc Tryz.prog W base spare held n 3 (([c0, c1, c2, c3].drop 0).take (Tryz.prog.cellsOf 3)) = some y0 := hf 0 _ rfl
    have g1 : DataW.trod enc Tryz.prog W base spare held n 3 (([c0, c1, c2, c3].drop 1).take (Tryz.prog.cellsOf 3)) = some y1 := hf 1 _ rfl
    have g2 : DataW.trod enc Tryz.prog W base spare held n 30 (([c0, c1, c2, c3].drop 2).take (Tryz.prog.cellsOf 30)) = some y2 := hf 2 _ rfl
    have g3 : DataW.trod enc Tryz.prog W base spare held n 31 (([c0, c1, c2, c3].drop 3).take (Tryz.prog.cellsOf 31)) = some y3 := hf 3 _ rfl
    have s3 : Tryz.prog.cellsOf 3 = 1 := by kernel_rfl
    have sf : Tryz.prog.cellsOf 30 = 1 := by kernel_rfl
    have sg : Tryz.prog.cellsOf 31 = 1 := by kernel_rfl
    simp only [s3, sf, sg, List.drop_zero, List.drop_succ_cons, List.take_succ_cons, List.take_zero] at g0 g1 g2 g3
    obtain ⟨k, e0, _, _⟩ := DataW.trod_int Tryz.underlying3 g0
    obtain ⟨d, e1, _, _⟩ := DataW.trod_int Tryz.underlying3 g1
    obtain ⟨p, nn, cap, e2, hr, hpn⟩ := FRow_of_trod g2
    obtain ⟨f, hfv⟩ := hr.vals
    simp only [List.cons.injEq, and_true] at e0 e1
    rcases DataW.trod_slice Tryz.underlying31 g3 with ⟨e, _⟩ | ⟨a, len, cap3, elems, rest, m, em, e, _, hb, hlc, hcm, hel, hat, _⟩
    · simp only [List.cons.injEq, and_true] at e
      exact ⟨c0, c1, c2, c3, .mk k d nn f [], rfl, p, cap, none, 0, by rw [e0, e1, e2, e]; rfl, hfv, hr.le, hr.most, hpn, Nat.le_refl _, by decide, fun _ => rfl, (fun a ha => by cases ha), fun _ _ => trivial, fun _ _ => trivial⟩
    · simp only [List.cons.injEq, and_true] at e
      obtain ⟨kids, hkl, hkp⟩ := list_of (P := fun i t => ∃ d0 d1 d2 d3, KD (fun _ => True) n W (.agg #[d0, d1, d2, d3]) t ∧ W.cell? (a.add (i * 4)) = some d0 ∧ W.cell? ⟨(a.add (i * 4)).block, (a.add (i * 4)).off + 1, none⟩ = some d1 ∧ W.cell? ⟨(a.add (i * 4)).block, (a.add (i * 4)).off + 2, none⟩ = some d2 ∧ W.cell? ⟨(a.add (i * 4)).block, (a.add (i * 4)).off + 3, none⟩ = some d3) len (fun i hi => by
        have h1 := hat i hi
        rw [hC] at h1
        have hx : ∃ y, elems[i]? = some y := ⟨_, List.getElem?_eq_getElem (by omega)⟩
        obtain ⟨y, hy⟩ := hx
        rw [hy] at h1
        obtain ⟨cs', hc, ht⟩ := Option.bind_eq_some_iff.1 h1
        obtain ⟨d0, d1, d2, d3, t, rfl, hk⟩ := ih m (by omega) cs' y ht
        have hcell := World.cells?_some hc
        obtain ⟨_, hlen', hcell⟩ := hcell
        refine ⟨t, d0, d1, d2, d3, hk.le (by omega), ?_, ?_, ?_, ?_⟩
        · have := hcell 0 (by omega)
          simpa [Addr.add] using this
        · have := hcell 1 (by omega)
          rw [add_add _ 1 (by omega)] at this
          simpa using this
        · have := hcell 2 (by omega)
          rw [add_add _ 2 (by omega)] at this
          simpa using this
        · have := hcell 3 (by omega)
          rw [add_add _ 3 (by omega)] at this
          simpa using this)
      refine ⟨c0, c1, c2, c3, .mk k d nn f kids, rfl, p, cap, some a, cap3, by rw [e0, e1, e2, e, hkl], hfv, hr.le, hr.most, hpn, by omega, hcm, (fun h => by cases h), fun a' ha i t hi => ?_, fun _ _ => trivial, fun _ _ => trivial⟩
      injection ha with ha
      subst ha
      exact hkp i t hi
end
end Go.Proofs.YtlpaecafpbbbkaaGreatDoor
