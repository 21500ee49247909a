/- Appending a whole row that lies in memory. -/
import Derived.Test.YthcjnadceambgaaDoorV
import Derived.Laws.AppendOwnNone
namespace Go.Proofs.YthcjnadceambgaaDoor
open Go.RowKit
section
variable {e size base : Nat} {w0 W : World} {v0 v : Value} {n : Nat} {xs : List Value}
variable {P : Program} {ops : Array Oper} {rest : List Oper} {o : Oper} {a : Act} {Q : Exit → Act → World → Prop}
/-- append(v, x...), x a row that lies in memory (or nil). -/
theorem app_src (hgd : o.guard = none) (s x : Operand) (t : TypeId) (ho : o.op = .call { callee := .builtin .append, args := #[s, x], argTypes := #[t, t] })
    (ht : P.underlying t = some (.slice e)) (z : Value) (bytes : Nat) (hinfo : (P.info? e).map (fun i => (i.zero, i.size, i.bytes)) = some (some z, size, bytes)) (hzs : z.cells.size = size) (hsz : 0 < size)
    (H : AppV e size base w0 v0 W v n xs) (hs : a.eval s = v) (src : Value) (hx : a.eval x = src) (m : Nat) (cs : List Value) (hcl : cs.length = m * size) (h1 : ∀ u ∈ cs, u.oneCell' = true)
    (hsrc : src = .slice none 0 0 ∧ m = 0 ∨ ∃ ad c, src = .slice (some ad) m c ∧ ∀ j u, cs[j]? = some u → W.cell? (ad.add j) = some u)
    (hbase : base ≤ w0.heap.size) (hl : (n + m) * bytes ≤ 140737488355328) (hl2 : n + m ≤ 140737488355328)
    (h : ∀ v1 w1, AppV e size base w0 v0 w1 v1 (n + m) (xs ++ cs) → wpList P ops Q rest (a.put o.dst v1) w1) :
    wpList P ops Q (o :: rest) a W := by
  obtain ⟨i0, hi, hzz⟩ := Option.map_eq_some_iff.1 hinfo
  simp only [Prod.mk.injEq] at hzz
  obtain ⟨hz0, hz1, hz2⟩ := hzz
  rcases hsrc with ⟨rfl, rfl⟩ | ⟨ad, c, rfl, hc⟩
  · obtain rfl : cs = [] := List.eq_nil_of_length_eq_zero (by simpa using hcl)
    refine wpList_append_own_none hgd s x t ho base e i0 size ht hi v n xs hs H.own hx ?_
    exact h v W (by simpa using H)
  · refine wpList_append_own_at W hgd s x t ho base e i0 z size bytes ht hi hz0 hz1 hz2 hzs hsz v n xs hs H.own ad m c cs hx hcl hc h1 (by simp only [maxLen]; omega) hl (H.based hbase) ?_
    intro v1 w1 hown hg _ hat
    refine h v1 w1 (H.trans ⟨hown, hg, ?_⟩)
    rcases hat with hat | hat
    · exact .inl hat
    · exact .inr ⟨_, hat, Nat.le_refl _⟩
end
end Go.Proofs.YthcjnadceambgaaDoor
