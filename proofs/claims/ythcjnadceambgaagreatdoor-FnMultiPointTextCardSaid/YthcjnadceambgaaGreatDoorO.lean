/- Slices of bytes that a call appends to: what an append leaves, and what stays as it was. -/
import Derived.WalkKit
import Derived.WalkSpells
import Derived.WalkLawsBesides
import Derived.Lib.AppendStr
import Derived.Maps.AppendAt
import Derived.Laws.BytesArg
import Derived.Lib.Hide
namespace Go.Proofs.YthcjnadceambgaaGreatDoor
open Go.RowKit

theorem gt_trans {a b c : World} {r r' : Option Nat} (h : a.grownBy b r) (k : b.grownBy c r') (hr : r' = r ∨ r' = none ∨ ∃ x, r' = some x ∧ a.heap.size ≤ x) : a.grownBy c r :=
  ⟨k.os.trans h.os, k.tape.trans h.tape, k.output.trans h.output, Nat.le_trans h.size k.size, fun i hi hne =>
    (k.block i (Nat.lt_of_lt_of_le hi h.size) (by
      rcases hr with rfl | rfl | ⟨x, rfl, hx⟩
      · exact hne
      · exact Option.some_ne_none _
      · intro he; injection he with he; omega)).trans (h.block i hi hne)⟩
theorem gt_refl (a : World) (r : Option Nat) : a.grownBy a r := ⟨rfl, rfl, rfl, Nat.le_refl _, fun _ _ _ => rfl⟩
theorem gt_below {a b : World} (h : Below a.heap.size a b) (r : Option Nat) : a.grownBy b r := ⟨h.os, h.tape, h.output, h.size, fun i hi _ => h.block i hi⟩
theorem gt_weak {a b : World} (h : a.grownBy b none) (r : Option Nat) : a.grownBy b r := ⟨h.os, h.tape, h.output, h.size, fun i hi _ => h.block i hi (Option.some_ne_none _)⟩
theorem below_gt {a b : World} (h : a.grownBy b none) : Below a.heap.size a b := ⟨h.os, h.tape, h.output, h.size, fun i hi => h.block i hi (Option.some_ne_none _)⟩
theorem gt_drewN (a : World) (n : Nat) (r : Option Nat) : a.grownBy (a.drewN n) r := ⟨rfl, rfl, rfl, Nat.le_refl _, fun _ _ _ => rfl⟩
theorem gt_drewN_r {a b : World} {r : Option Nat} (h : a.grownBy b r) (n : Nat) : a.grownBy (b.drewN n) r := ⟨h.os, h.tape, h.output, h.size, h.block⟩
theorem gt_drew_r {a b : World} {r : Option Nat} (h : a.grownBy b r) : a.grownBy b.drew r := ⟨h.os, h.tape, h.output, h.size, h.block⟩
theorem gt_alloc_r {a b : World} {r : Option Nat} (h : a.grownBy b r) (o : Obj) : a.grownBy (b.alloc o) r := gt_trans h (World.grownBy_alloc b o none) (.inr (.inl rfl))
theorem gt_set_r {a b : World} {r : Option Nat} (h : a.grownBy b r) (p : Addr) (x : Value) (hp : a.heap.size ≤ p.block) : a.grownBy (b.setCell p x) r :=
  ⟨h.os, h.tape, h.output, by simpa [World.setCell] using h.size, fun i hi hne => (Below.heap_setCell b p x i (by omega)).trans (h.block i hi hne)⟩

theorem run_store_flt (P : Program) (w : World) (a : Addr) (m : Mode) (k : FloatKind) (b : Nat) : (store a (.float k b) m).run P w = stored P w a (.float k b) m := run_store P w a _ m rfl

/-- Bytes as cells. -/
def Bs (l : List UInt8) : List Value := l.map fun b => .int .u8 (b.toNat : Int)
theorem Bs_length (l : List UInt8) : (Bs l).length = l.length := by simp [Bs]
theorem Bs_append (l m : List UInt8) : Bs (l ++ m) = Bs l ++ Bs m := by simp [Bs]

/-- From world w0, where v0 was owned, the call has come to world w, where v is owned and holds l; of what was there only v0's own row may have changed. -/
structure AppB (e base : Nat) (w0 : World) (v0 : Value) (w : World) (v : Value) (l : List UInt8) : Prop where
  own : w.ownsRow base e 1 v l.length (Bs l)
  grown : w0.grownBy w v0.ownBlock
  at_ : v.ownBlock = v0.ownBlock ∨ ∃ b, v.ownBlock = some b ∧ w0.heap.size ≤ b
variable {e base : Nat} {w0 w w1 w2 : World} {v0 v v1 v2 : Value} {l l1 l2 : List UInt8}
theorem AppB.start (h : w.ownsRow base e 1 v l.length (Bs l)) : AppB e base w v w v l := ⟨h, gt_refl _ _, .inl rfl⟩
theorem AppB.nil (w : World) (e base : Nat) : AppB e base w (.slice none 0 0) w (.slice none 0 0) [] := .start (World.ownsRow_nil w base e 1)
theorem AppB.trans (h : AppB e base w0 v0 w1 v1 l1) (k : AppB e base w1 v1 w2 v2 l2) : AppB e base w0 v0 w2 v2 l2 := by
  refine ⟨k.own, gt_trans h.grown k.grown ?_, ?_⟩
  · rcases h.at_ with h | ⟨b, h, hb⟩
    · exact .inl h
    · exact .inr (.inr ⟨b, h, hb⟩)
  · rcases k.at_ with k' | ⟨b, k', hb⟩
    · rcases h.at_ with h | ⟨b, h, hb⟩
      · exact .inl (k'.trans h)
      · exact .inr ⟨b, k'.trans h, hb⟩
    · exact .inr ⟨b, k', Nat.le_trans h.grown.size hb⟩
theorem AppB.beside (h : AppB e base w0 v0 w v l) (k : w.grownBy w1 none) : AppB e base w0 v0 w1 v l :=
  ⟨h.own.kept k (by cases v.ownBlock <;> simp), gt_trans h.grown k (.inr (.inl rfl)), h.at_⟩
theorem AppB.size (h : AppB e base w0 v0 w v l) : w0.heap.size ≤ w.heap.size := h.grown.size
theorem AppB.based (h : AppB e base w0 v0 w v l) (hb : base ≤ w0.heap.size) : base ≤ w.heap.size := Nat.le_trans hb h.grown.size
theorem AppB.cell (h : AppB e base w0 v0 w v l) {a : Addr} (hlt : a.block < w0.heap.size) (hne : v0.ownBlock ≠ some a.block) : w.cell? a = w0.cell? a :=
  World.cell?_of_block (h.grown.block _ hlt (fun he => hne he.symm))
/-- What stands in a block that the appended row has never been keeps standing there. -/
theorem AppB.other (h : AppB e base w0 v0 w v l) {k : Nat} (hlt : k < w0.heap.size) (hne : v0.ownBlock ≠ some k) : w.heap[k]? = w0.heap[k]? ∧ v.ownBlock ≠ some k := by
  refine ⟨h.grown.block _ hlt (fun he => hne he.symm), ?_⟩
  rcases h.at_ with h' | ⟨b, h', hb⟩
  · rw [h']; exact hne
  · rw [h']; intro he; injection he with he; omega
theorem AppB.below (h : AppB e base w0 (.slice none 0 0) w v l) : Below w0.heap.size w0 w := below_gt h.grown

/-- Something happens beside the owned row, which is older than all that is written; then a callee goes on appending. -/
theorem AppB.later (h : w.ownsRow base e 1 v l.length (Bs l)) (hg : w.grownBy w1 none) (k : AppB e base w1 v w2 v2 l2) : AppB e base w v w2 v2 l2 := ((AppB.start h).beside hg).trans k
theorem own_later (h : w.ownsRow base e 1 v l.length (Bs l)) (hg : w.grownBy w1 none) : w1.ownsRow base e 1 v l.length (Bs l) := ((AppB.start h).beside hg).own

/-- The ending of a function that appends to its first argument. -/
def AppEnd (e base : Nat) (w0 : World) (v0 : Value) (l : List UInt8) (en : Ending) (w : World) : Prop := ∃ v, en = .returned v ∧ AppB e base w0 v0 w v l
theorem AppEnd.mk_ {v' : Value} (hv : v' = v) (h : AppB e base w0 v0 w v l) : AppEnd e base w0 v0 l (.returned v') w := ⟨v, by rw [hv], h⟩

section
variable {P : Program} {ops : Array Oper} {rest : List Oper} {o : Oper} {a : Act} {Q : Exit → Act → World → Prop} {W : World}
/-- append(v, x), x one byte. -/
theorem app_byte (hgd : o.guard = none) (s x : Operand) (t : TypeId) (ho : o.op = .call { callee := .builtin .append, args := #[s, x], argTypes := #[t, t] })
    (ht : P.underlying t = some (.slice e)) (hinfo : (P.info? e).map (fun i => (i.zero, i.size, i.bytes)) = some (some (.int .u8 0), 1, 1))
    (H : AppB e base w0 v0 W v l) (hs : a.eval s = v) (y : Int) (c : UInt8) (hy : (c.toNat : Int) = y) {k : Nat} (hx : a.eval x = .slice (some ⟨k, 0, none⟩) 1 1) (hk : k = W.heap.size)
    (hbase : base ≤ w0.heap.size) (hl : l.length + 1 ≤ 140737488355328)
    (h : ∀ v1 w1, AppB e base w0 v0 w1 v1 (l ++ [c]) → wpList P ops Q rest (a.put o.dst v1) w1) :
    wpList P ops Q (o :: rest) a (W.alloc (.cells #[.int .u8 y] e)) := by
  subst hy
  subst hk
  obtain ⟨i0, hi, hzz⟩ := Option.map_eq_some_iff.1 hinfo
  simp only [Prod.mk.injEq] at hzz
  obtain ⟨hz0, hz1, hz2⟩ := hzz
  refine wpList_append_own_at (W.alloc (.cells #[.int .u8 c.toNat] e)) hgd s x t ho base e i0 (.int .u8 0) 1 1 ht hi hz0 hz1 hz2 rfl (by omega) v l.length (Bs l) hs (H.own.alloc _) ⟨W.heap.size, 0, none⟩ 1 1 [.int .u8 c.toNat] hx rfl
    (cell_one_new W _ _) (by intro u hu; simp at hu; subst hu; rfl) (by simp only [maxLen]; omega) (by omega) (by have := H.based hbase; simp; omega) ?_
  intro v1 w1 hown hg _ hat
  have hb := H.beside (World.grownBy_alloc W (.cells #[.int .u8 c.toNat] e) none)
  refine h v1 w1 (hb.trans ⟨by simpa [Bs] using hown, hg, ?_⟩)
  rcases hat with hat | hat
  · exact .inl hat
  · exact .inr ⟨_, hat, Nat.le_refl _⟩

/-- append(v, s...), s a string. -/
theorem app_str (hgd : o.guard = none) (s x : Operand) (t u : TypeId) (ho : o.op = .call { callee := .builtin .append, args := #[s, x], argTypes := #[t, u] })
    (ht : P.underlying t = some (.slice e)) (hu : P.underlying u = some .string) (hinfo : (P.info? e).map (fun i => (i.zero, i.size, i.bytes)) = some (some (.int .u8 0), 1, 1))
    (H : AppB e base w0 v0 W v l) (hs : a.eval s = v) (str : ByteArray) (hx : a.eval x = .string str)
    (hbase : base ≤ w0.heap.size) (hl : l.length + str.size ≤ 140737488355328)
    (h : ∀ v1 w1, AppB e base w0 v0 w1 v1 (l ++ str.data.toList) → wpList P ops Q rest (a.put o.dst v1) w1) :
    wpList P ops Q (o :: rest) a W := by
  obtain ⟨i0, hi, hzz⟩ := Option.map_eq_some_iff.1 hinfo
  simp only [Prod.mk.injEq] at hzz
  obtain ⟨hz0, hz1, hz2⟩ := hzz
  refine wpList_plain hgd fun K hK => ?_
  have h63 : l.length + str.size ≤ maxLen := by simp only [maxLen]; omega
  obtain ⟨v', w', hr, h2, h3, h4⟩ := Lib.run_append_own_string (P := P) W base t u o.type e i0 ht hu hi hz0 hz1 hz2 v l.length (Bs l) H.own str h63 hl (H.based hbase)
  have hat : v'.ownBlock = v.ownBlock ∨ v'.ownBlock = some W.heap.size := by
    rcases H.own.2 with ⟨rfl, h0⟩ | ⟨g, cap, cur, rfl, hbg, hg, hnc, hcm, hcs, htake⟩
    · by_cases hm : str.size = 0
      · rw [h4.2 ⟨rfl, hm⟩]; exact .inl rfl
      · have hr' := run_append_nil_string (P := P) W t u o.type e i0 (.int .u8 0) ht hu hi hz0 str (by omega) (by omega) (by rw [hz2]; omega)
        rw [hr] at hr'
        injection hr' with hv _
        rw [hv]; exact .inr rfl
    · by_cases hroom : l.length + str.size ≤ cap
      · have hcs' : cur.size = cap := by simpa using hcs
        have hr' := Lib.run_append_room_string (P := P) W t u o.type e i0 ht hu hi hz1 g l.length cap cur hg str hroom (by omega)
        rw [hr] at hr'
        injection hr' with hv _
        rw [hv]; exact .inl rfl
      · have holds : ∀ j u, (Bs l)[j]? = some u → W.cell? ((⟨g, 0, none⟩ : Addr).add j) = some u := H.own.cells (g := g) rfl
        have hr' := Lib.run_append_grow_string (P := P) W t u o.type e i0 (.int .u8 0) ht hu hi hz0 ⟨g, 0, none⟩ l.length cap (Bs l) (by rw [hz1, Bs_length, Nat.mul_one]) holds str (by omega) (by simp only [maxLen] at h63; omega) (by rw [hz2]; exact growslice_fits (by omega) (by omega))
        rw [hr] at hr'
        injection hr' with hv _
        rw [hv]; exact .inr rfl
  unfold Oper.wp execOp
  simp only [ho, resolve, invoke, builtin, Sem.run_bind, Sem.run_pure, Result.andThen_ok, List.map_toArray, List.map_cons, List.map_nil, hs, hx, hr]
  refine hK _ _ (h v' w' (H.trans ⟨?_, h3, ?_⟩))
  · have he : str.data.toList.length = str.size := by rw [Array.length_toList]; rfl
    rw [List.length_append, he, Bs_append]
    exact h2
  · rcases hat with hat | hat
    · exact .inl hat
    · exact .inr ⟨_, hat, Nat.le_refl _⟩
end

/-- string(v) of an owned slice of bytes. -/
theorem own_str {P : Program} {src dst et e' : TypeId} (hs : P.underlying src = some (.slice et)) (he : P.underlying et = some (.int .u8)) (hd : P.underlying dst = some .string)
    (h : w.ownsRow base e' 1 v l.length (Bs l)) : (convert src dst v).run P w = .ok (.string ⟨l.toArray⟩) w := by
  have key : ∀ xs : List UInt8, strOfNums (xs.map fun b => (b.toNat : Int)) = ⟨xs.toArray⟩ := by
    intro xs
    simp only [strOfNums, List.map_map]
    congr 2
    refine (List.map_congr_left fun b _ => ?_).trans (List.map_id xs)
    simp
  rcases h.2 with ⟨rfl, h0⟩ | ⟨g, cap, cur, rfl, _⟩
  · obtain rfl : l = [] := List.eq_nil_of_length_eq_zero h0
    exact run_convert_bytes_nil w src et hs he 0 0 dst hd
  · rw [← key l]
    refine run_convert_bytes_arg w src et hs he g 0 l.length cap (l.map fun b => (b.toNat : Int)) (by simp) (fun i hi => ?_) dst hd
    have hc := h.cells (g := g) rfl i (.int .u8 ((l.map fun b => (b.toNat : Int)).getD i 0)) (by simp [Bs, List.getElem?_eq_getElem hi, List.getD_eq_getElem?_getD])
    have ha : (⟨g, 0, none⟩ : Addr).add i = ⟨g, 0 + i, none⟩ := by unfold Addr.add; split <;> simp_all
    rwa [ha] at hc

end Go.Proofs.YthcjnadceambgaaGreatDoor
