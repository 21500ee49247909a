/- Appending a whole row that lies in memory. -/
import Derived.Test.YthcjnadceambgaaGreatDoorV
import Derived.Laws.AppendOwnNone
import Derived.Deep.AppendLies
namespace Go.Proofs.YthcjnadceambgaaGreatDoor
open Go.RowKit
section
variable {e size base : Nat} {w0 W : World} {v0 v : Value} {n : Nat} {xs : List Value}
variable {P : Program} {ops : Array Oper} {rest : List Oper} {o : Oper} {a : Act} {Q : Exit → Act → World → Prop}
/-- append(v, x...), x a row that lies in memory (or nil). -/
theorem app_src (hgd : o.guard = none) (s x : Operand) (t : TypeId) (ho : o.op = .call { callee := .builtin .append, args := #[s, x], argTypes := #[t, t] })
    (ht : P.underlying t = some (.slice e)) (z : Value) (bytes : Nat) (hinfo : (P.info? e).map (fun i => (i.zero, i.size, i.bytes)) = some (some z, size, bytes)) (hzs : z.cells.size = size) (hsz : 0 < size)
    (H : AppV e size base w0 v0 W v n xs) (hs : a.eval s = v) (src : Value) (hx : a.eval x = src) (m : Nat) (cs : List Value) (hcl : cs.length = m * size) (h1 : ∀ u ∈ cs, u.oneCell' = true)
    (hsrc : src = .slice none 0 0 ∧ m = 0 ∨ ∃ ad c, src = .slice (some ad) m c ∧ ∀ j u, cs[j]? = some u → W.cell? (ad.add j) = some u)
    (hbase : base ≤ w0.heap.size) (hl : (n + m) * bytes ≤ 140737488355328) (hl2 : n + m ≤ 140737488355328)
    (h : ∀ v1 w1, AppV e size base w0 v0 w1 v1 (n + m) (xs ++ cs) → wpList P ops Q rest (a.put o.dst v1) w1) :
    wpList P ops Q (o :: rest) a W := by
  obtain ⟨i0, hi, hzz⟩ := Option.map_eq_some_iff.1 hinfo
  simp only [Prod.mk.injEq] at hzz
  obtain ⟨hz0, hz1, hz2⟩ := hzz
  rcases hsrc with ⟨rfl, rfl⟩ | ⟨ad, c, rfl, hc⟩
  · obtain rfl : cs = [] := List.eq_nil_of_length_eq_zero (by simpa using hcl)
    refine wpList_append_own_none hgd s x t ho base e i0 size ht hi v n xs hs H.own hx ?_
    exact h v W (by simpa using H)
  · refine wpList_append_own_at W hgd s x t ho base e i0 z size bytes ht hi hz0 hz1 hz2 hzs hsz v n xs hs H.own ad m c cs hx hcl hc h1 (by simp only [maxLen]; omega) hl (H.based hbase) ?_
    intro v1 w1 hown hg _ hat
    refine h v1 w1 (H.trans ⟨hown, hg, ?_⟩)
    rcases hat with hat | hat
    · exact .inl hat
    · exact .inr ⟨_, hat, Nat.le_refl _⟩
end
theorem own_at4 {w : World} {base n c : Nat} {e : TypeId} {p : Option Addr} {xs : List Value} (h : w.ownsRow base e 4 (.slice p n c) n xs) : (0 < n → ∃ a, p = some a) ∧ ∀ a, p = some a → ∀ i j v, xs[i * 4 + j]? = some v → w.cell? (if j = 0 then a.add (i * 4) else ⟨(a.add (i * 4)).block, (a.add (i * 4)).off + j, none⟩) = some v := by
  refine ⟨fun hn => ?_, fun a ha i j v hv => ?_⟩
  · rcases h.2 with h' | ⟨g, cap, cur, hv, _⟩
    · omega
    · injection hv with h1; exact ⟨_, h1⟩
  · rcases h.2 with h' | ⟨g, cap, cur, hv', _⟩
    · have := h'.1; rw [ha] at this; cases this
    · injection hv' with h1 h2 h3
      subst h3
      rw [h1] at ha h
      injection ha with ha
      subst ha
      have hc := h.cells (g := g) rfl (i * 4 + j) v hv
      have hadd : ∀ k, (⟨g, 0, none⟩ : Addr).add k = ⟨g, 0 + k, none⟩ := fun k => by unfold Addr.add; split <;> simp_all
      rw [hadd] at hc
      rw [hadd]
      split
      · next h0 => subst h0; exact hc
      · have e : 0 + (i * 4 + j) = 0 + i * 4 + j := by omega
        rw [e] at hc
        exact hc
section
variable {e size base : Nat} {W : World} {v : Value} {n : Nat} {xs : List Value}
variable {P : Program} {ops : Array Oper} {o : Oper} {a : Act} {K : Act → World → Prop} {Q : Exit → Act → World → Prop} {E : Prop}
/-- append(v, x ..) inside a region that draws, the m new elements laid anew. -/
theorem step_cells (hgd : o.guard = none) (s x : Operand) (t : TypeId) (ho : o.op = .call { callee := .builtin .append, args := #[s, x], argTypes := #[t, t] })
    (ht : P.underlying t = some (.slice e)) (z : Value) (bytes : Nat) (hinfo : (P.info? e).map (fun i => (i.zero, i.size, i.bytes)) = some (some z, size, bytes)) (hzs : z.cells.size = size) (hsz : 0 < size)
    (hs : a.eval s = v) {k m c : Nat} (hx : a.eval x = .slice (some ⟨k, 0, none⟩) m c) (hk : k = W.heap.size) (cs : Array Value) (hown : (W.alloc (.cells cs e)).ownsRow base e size v n xs) (hcl : cs.size = m * size) (h1 : ∀ u ∈ cs.toList, u.oneCell' = true)
    (hm : 0 < m) (hbase : base ≤ (W.alloc (.cells cs e)).heap.size) (hl : (n + m) * bytes ≤ 140737488355328) (hl2 : n + m ≤ 140737488355328)
    (h : ∀ g cap w', w'.ownsRow base e size (.slice (some ⟨g, 0, none⟩) (n + m) cap) (n + m) (xs ++ cs.toList) → (W.alloc (.cells cs e)).grownBy w' v.ownBlock → (v.ownBlock = some g ∨ g = (W.alloc (.cells cs e)).heap.size) → K (a.put o.dst (.slice (some ⟨g, 0, none⟩) (n + m) cap)) w') :
    if Region.wanted o (yielded ops a.tmps) = true then Oper.wp P o a (W.alloc (.cells cs e)) K Q else E := by
  subst hk
  obtain ⟨i0, hi, hzz⟩ := Option.map_eq_some_iff.1 hinfo
  simp only [Prod.mk.injEq] at hzz
  obtain ⟨hz0, hz1, hz2⟩ := hzz
  refine step_append_lies (W.alloc (.cells cs e)) hgd s x t ho base e i0 z size bytes ht hi hz0 hz1 hz2 hzs hsz v n xs hs hown ⟨W.heap.size, 0, none⟩ m c cs.toList hx (by simpa using hcl)
    (fun j u hj => ?_) h1 hm (by simp only [maxLen]; omega) hl hbase _ rfl (fun g cap w' h2 h3 h4 _ => h g cap w' h2 h3 h4)
  by_cases h0 : j = 0
  · subst h0; simp [Addr.add]; simpa using hj
  · simp [Addr.add, h0]; simpa using hj
end
section
variable {e size base : Nat} {W : World} {v : Value} {n : Nat} {xs : List Value}
variable {P : Program} {ops : Array Oper} {rest : List Oper} {o : Oper} {a : Act} {Q : Exit → Act → World → Prop}
/-- append(v, x ..), one new element or more laid anew; what comes of it is written out. -/
theorem app_cells2 (hgd : o.guard = none) (s x : Operand) (t : TypeId) (ho : o.op = .call { callee := .builtin .append, args := #[s, x], argTypes := #[t, t] })
    (ht : P.underlying t = some (.slice e)) (z : Value) (bytes : Nat) (hinfo : (P.info? e).map (fun i => (i.zero, i.size, i.bytes)) = some (some z, size, bytes)) (hzs : z.cells.size = size) (hsz : 0 < size)
    (hs : a.eval s = v) {k m c : Nat} (hx : a.eval x = .slice (some ⟨k, 0, none⟩) m c) (hk : k = W.heap.size) (cs : Array Value) (hown : (W.alloc (.cells cs e)).ownsRow base e size v n xs) (hcl : cs.size = m * size) (h1 : ∀ u ∈ cs.toList, u.oneCell' = true)
    (hm : 0 < m) (hbase : base ≤ (W.alloc (.cells cs e)).heap.size) (hl : (n + m) * bytes ≤ 140737488355328) (hl2 : n + m ≤ 140737488355328)
    (h : ∀ g cap w', w'.ownsRow base e size (.slice (some ⟨g, 0, none⟩) (n + m) cap) (n + m) (xs ++ cs.toList) → (W.alloc (.cells cs e)).grownBy w' v.ownBlock → (v.ownBlock = some g ∨ g = (W.alloc (.cells cs e)).heap.size) → wpList P ops Q rest (a.put o.dst (.slice (some ⟨g, 0, none⟩) (n + m) cap)) w') :
    wpList P ops Q (o :: rest) a (W.alloc (.cells cs e)) := by
  subst hk
  obtain ⟨i0, hi, hzz⟩ := Option.map_eq_some_iff.1 hinfo
  simp only [Prod.mk.injEq] at hzz
  obtain ⟨hz0, hz1, hz2⟩ := hzz
  refine wpList_append_own_at (W.alloc (.cells cs e)) hgd s x t ho base e i0 z size bytes ht hi hz0 hz1 hz2 hzs hsz v n xs hs hown ⟨W.heap.size, 0, none⟩ m c cs.toList hx (by simpa using hcl)
    (fun j u hj => ?_) h1 (by simp only [maxLen]; omega) hl hbase ?_
  · by_cases h0 : j = 0
    · subst h0; simp [Addr.add]; simpa using hj
    · simp [Addr.add, h0]; simpa using hj
  · intro v1 w1 hown1 hg _ hat
    rcases hown1.2 with ⟨_, h0⟩ | ⟨g, cap, cur, rfl, hrest⟩
    · omega
    · have hob : (Value.slice (some ⟨g, 0, none⟩) (n + m) cap).ownBlock = some g := rfl
      rw [hob] at hat
      refine h g cap w1 hown1 hg ?_
      rcases hat with hat | hat
      · exact .inl hat.symm
      · injection hat with hat; exact .inr hat
end
end Go.Proofs.YthcjnadceambgaaGreatDoor
