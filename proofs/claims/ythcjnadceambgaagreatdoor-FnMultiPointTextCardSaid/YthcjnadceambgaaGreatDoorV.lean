/- Slices of any elements that a call makes by appending: what an append leaves, and what stays as it was. -/
import Derived.Test.YthcjnadceambgaaGreatDoorO
namespace Go.Proofs.YthcjnadceambgaaGreatDoor
open Go.RowKit

/-- From world w0, where v0 was owned, the call has come to world w, where v is owned: n elements, the cells xs. -/
structure AppV (e size base : Nat) (w0 : World) (v0 : Value) (w : World) (v : Value) (n : Nat) (xs : List Value) : Prop where
  own : w.ownsRow base e size v n xs
  grown : w0.grownBy w v0.ownBlock
  at_ : v.ownBlock = v0.ownBlock ∨ ∃ b, v.ownBlock = some b ∧ w0.heap.size ≤ b
section
variable {e size base : Nat} {w0 w w1 w2 : World} {v0 v v1 v2 : Value} {n n1 n2 : Nat} {xs xs1 xs2 : List Value}
theorem AppV.start (h : w.ownsRow base e size v n xs) : AppV e size base w v w v n xs := ⟨h, gt_refl _ _, .inl rfl⟩
theorem AppV.nil (w : World) (e size base : Nat) : AppV e size base w (.slice none 0 0) w (.slice none 0 0) 0 [] := .start (World.ownsRow_nil w base e size)
theorem AppV.trans (h : AppV e size base w0 v0 w1 v1 n1 xs1) (k : AppV e size base w1 v1 w2 v2 n2 xs2) : AppV e size base w0 v0 w2 v2 n2 xs2 := by
  refine ⟨k.own, gt_trans h.grown k.grown ?_, ?_⟩
  · rcases h.at_ with h | ⟨b, h, hb⟩
    · exact .inl h
    · exact .inr (.inr ⟨b, h, hb⟩)
  · rcases k.at_ with k' | ⟨b, k', hb⟩
    · rcases h.at_ with h | ⟨b, h, hb⟩
      · exact .inl (k'.trans h)
      · exact .inr ⟨b, k'.trans h, hb⟩
    · exact .inr ⟨b, k', Nat.le_trans h.grown.size hb⟩
theorem AppV.beside (h : AppV e size base w0 v0 w v n xs) (k : w.grownBy w1 none) : AppV e size base w0 v0 w1 v n xs :=
  ⟨h.own.kept k (by cases v.ownBlock <;> simp), gt_trans h.grown k (.inr (.inl rfl)), h.at_⟩
theorem AppV.based (h : AppV e size base w0 v0 w v n xs) (hb : base ≤ w0.heap.size) : base ≤ w.heap.size := Nat.le_trans hb h.grown.size
theorem AppV.cell (h : AppV e size base w0 v0 w v n xs) {a : Addr} (hlt : a.block < w0.heap.size) (hne : v0.ownBlock ≠ some a.block) : w.cell? a = w0.cell? a :=
  World.cell?_of_block (h.grown.block _ hlt (fun he => hne he.symm))
theorem AppV.slice (h : AppV e size base w0 v0 w v n xs) : ∃ p c, v = .slice p n c := by
  rcases h.own.2 with h | ⟨g, cap, cur, hv, _⟩
  · exact ⟨none, 0, by rw [h.1, h.2]⟩
  · exact ⟨_, _, hv⟩
theorem AppV.grown0 (h : AppV e size base w0 (.slice none 0 0) w v n xs) : w0.grownBy w none := h.grown
end

section
variable {e size base : Nat} {w0 W : World} {v0 v : Value} {n : Nat} {xs : List Value}
variable {P : Program} {ops : Array Oper} {rest : List Oper} {o : Oper} {a : Act} {Q : Exit → Act → World → Prop}
/-- append(v, x ..), the m new elements laid anew, their cells cs. -/
theorem app_cells (hgd : o.guard = none) (s x : Operand) (t : TypeId) (ho : o.op = .call { callee := .builtin .append, args := #[s, x], argTypes := #[t, t] })
    (ht : P.underlying t = some (.slice e)) (z : Value) (bytes : Nat) (hinfo : (P.info? e).map (fun i => (i.zero, i.size, i.bytes)) = some (some z, size, bytes)) (hzs : z.cells.size = size) (hsz : 0 < size)
    (H : AppV e size base w0 v0 W v n xs) (hs : a.eval s = v) {k m c : Nat} (hx : a.eval x = .slice (some ⟨k, 0, none⟩) m c) (hk : k = W.heap.size) (cs : Array Value) (hcl : cs.size = m * size) (h1 : ∀ u ∈ cs.toList, u.oneCell' = true)
    (hbase : base ≤ w0.heap.size) (hl : (n + m) * bytes ≤ 140737488355328) (hl2 : n + m ≤ 140737488355328)
    (h : ∀ v1 w1, AppV e size base w0 v0 w1 v1 (n + m) (xs ++ cs.toList) → wpList P ops Q rest (a.put o.dst v1) w1) :
    wpList P ops Q (o :: rest) a (W.alloc (.cells cs e)) := by
  subst hk
  obtain ⟨i0, hi, hzz⟩ := Option.map_eq_some_iff.1 hinfo
  simp only [Prod.mk.injEq] at hzz
  obtain ⟨hz0, hz1, hz2⟩ := hzz
  refine wpList_append_own_at (W.alloc (.cells cs e)) hgd s x t ho base e i0 z size bytes ht hi hz0 hz1 hz2 hzs hsz v n xs hs (H.own.alloc _) ⟨W.heap.size, 0, none⟩ m c cs.toList hx (by simpa using hcl)
    (fun j u hj => ?_) h1 (by simp only [maxLen]; omega) hl (by have := H.based hbase; simp; omega) ?_
  · by_cases h0 : j = 0
    · subst h0; simp [Addr.add]; simpa using hj
    · simp [Addr.add, h0]; simpa using hj
  · intro v1 w1 hown hg _ hat
    have hb := H.beside (World.grownBy_alloc W (.cells cs e) none)
    refine h v1 w1 (hb.trans ⟨hown, hg, ?_⟩)
    rcases hat with hat | hat
    · exact .inl hat
    · exact .inr ⟨_, hat, Nat.le_refl _⟩
end
end Go.Proofs.YthcjnadceambgaaGreatDoor
