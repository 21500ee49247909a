/- What the reference makes of a geometry, and its text: plain functions. -/
import Derived.Test.YthcjnadceambgaaGreatDoorE1
import Derived.Test.YthcjnadceambgaaGreatDoorB2
import Derived.Test.YthcjnadceambgaaGreatDoorS
namespace Go.Proofs.YthcjnadceambgaaGreatDoor
open Go.RowKit

/-- Texts with commas between them. -/
def joinC (ps : List (List UInt8)) : List UInt8 := cTo (fun i => ps.getD i []) ps.length
theorem cTo_congr {s s' : Nat → List UInt8} : ∀ {k : Nat}, (∀ i, i < k → s i = s' i) → cTo s k = cTo s' k
  | 0, _ => rfl
  | k + 1, h => by unfold cTo; rw [cTo_congr (fun i hi => h i (by omega)), h k (by omega)]
theorem joinC_snoc (ps : List (List UInt8)) (p : List UInt8) : joinC (ps ++ [p]) = joinC ps ++ (if 0 < ps.length then [44] else []) ++ p := by
  unfold joinC
  rw [List.length_append, List.length_singleton]
  show cTo _ ps.length ++ _ ++ _ = _
  rw [cTo_congr (s' := fun i => ps.getD i []) (fun i hi => by simp [List.getD_eq_getElem?_getD, List.getElem?_append_left hi])]
  simp [List.getD_eq_getElem?_getD]
def lensum : List (List UInt8) → Nat
  | [] => 0
  | p :: ps => p.length + 1 + lensum ps
theorem lensum_append : ∀ (a b : List (List UInt8)), lensum (a ++ b) = lensum a + lensum b
  | [], b => by simp [lensum]
  | p :: a, b => by simp only [List.cons_append, lensum, lensum_append a b]; omega
theorem joinC_len (ps : List (List UInt8)) : (joinC ps).length ≤ lensum ps := by
  have key : ∀ (n : Nat) (ps : List (List UInt8)), ps.length = n → (joinC ps).length ≤ lensum ps := by
    intro n
    induction n with
    | zero => intro ps h; obtain rfl := List.eq_nil_of_length_eq_zero h; simp [joinC, cTo]
    | succ n ih =>
      intro ps h
      obtain ⟨qs, q, rfl⟩ : ∃ qs q, ps = qs ++ [q] := ⟨ps.dropLast, ps.getLast (by intro e; subst e; simp at h), (List.dropLast_concat_getLast _).symm⟩
      have h1 := ih qs (by simpa using h)
      rw [joinC_snoc, lensum_append]
      simp only [lensum, List.length_append]
      split <;> simp <;> omega
  exact key _ ps rfl

def kidOf (k : Int) : Int := if k = 4 then 1 else if k = 3 ∨ k = 5 then 2 else if k = 6 then 3 else -1
def kindOf : Raw → Int
  | .mk k _ _ _ _ => k
def dimR : Raw → Nat
  | .mk _ d _ _ _ => d.toNat
/-- The numbers of forced places. -/
def fF (r r' : Nat) (f : Nat → Nat) (i : Nat) : Nat :=
  if i % widN r' = 0 then plX r f (i / widN r') else if i % widN r' = 1 then plY r f (i / widN r') else if i % widN r' = 2 ∧ r' % 2 = 1 then plZ r f (i / widN r') else plM r f (i / widN r')
mutual
def forceT (r' : Nat) : Raw → Raw
  | .mk k d n f kids => .mk k r' (n / widN d.toNat * widN r') (fF d.toNat r' f) (forceTs r' kids)
def forceTs (r' : Nat) : List Raw → List Raw
  | [] => []
  | t :: ts => forceT r' t :: forceTs r' ts
end
def dimsOf : List Raw → Nat
  | [] => 3
  | t :: ts => dimR t &&& dimsOf ts
def keepT (k : Int) (m : Raw) : Bool := decide (kidOf k < 0) || decide (kidOf k = kindOf m)
def nodeT (k : Int) (r : Nat) (f : Nat → Nat) (ks : List Raw) : Raw := if ks = [] then .mk k r 0 f [] else forceT (dimsOf ks) (.mk k r 0 f ks)
def kindN (k : Int) : Int := if k < 0 ∨ 6 < k then 0 else k
mutual
def newT : Raw → Raw
  | .mk k d n f kids =>
    if kindN k = 1 then .mk 1 (d % 4) (min (n / widN (d % 4).toNat) 1 * widN (d % 4).toNat) f []
    else if kindN k = 2 then .mk 2 (d % 4) (n / widN (d % 4).toNat * widN (d % 4).toNat) f []
    else nodeT (kindN k) (d % 4).toNat f ((newTs kids).filter (keepT (kindN k)))
def newTs : List Raw → List Raw
  | [] => []
  | t :: ts => newT t :: newTs ts
end

mutual
/-- How many geometries and places. -/
def pl : Raw → Nat
  | .mk _ d n _ kids => 1 + n / widN d.toNat + pls kids
def pls : List Raw → Nat
  | [] => 0
  | t :: ts => pl t + pls ts
end
mutual
def dimsOk : Raw → Prop
  | .mk _ d _ _ kids => 0 ≤ d ∧ d < 4 ∧ dimsOks kids
def dimsOks : List Raw → Prop
  | [] => True
  | t :: ts => dimsOk t ∧ dimsOks ts
end
theorem widN_le (r : Nat) (hr : r < 4) : 2 ≤ widN r ∧ widN r ≤ 4 := by unfold widN; omega
theorem widN_pos (r : Nat) : 2 ≤ widN r := by unfold widN; omega
mutual
theorem pl_force (r' : Nat) : ∀ t : Raw, pl (forceT r' t) = pl t
  | .mk k d n f kids => by
    unfold forceT pl
    rw [pls_force r' kids]
    have h := widN_pos r'
    simp only [Int.toNat_natCast]
    rw [Nat.mul_div_cancel _ (by omega)]
theorem pls_force (r' : Nat) : ∀ ts : List Raw, pls (forceTs r' ts) = pls ts
  | [] => rfl
  | t :: ts => by unfold forceTs pls; rw [pl_force r' t, pls_force r' ts]
end
mutual
theorem dims_force (r' : Nat) (hr : r' < 4) : ∀ t : Raw, dimsOk (forceT r' t)
  | .mk k d n f kids => by unfold forceT dimsOk; exact ⟨by omega, by omega, dimss_force r' hr kids⟩
theorem dimss_force (r' : Nat) (hr : r' < 4) : ∀ ts : List Raw, dimsOks (forceTs r' ts)
  | [] => trivial
  | t :: ts => by unfold forceTs dimsOks; exact ⟨dims_force r' hr t, dimss_force r' hr ts⟩
end
theorem dimsOf_lt : ∀ ks : List Raw, dimsOf ks < 4
  | [] => by decide
  | t :: ts => by
    unfold dimsOf
    have h := dimsOf_lt ts
    exact Nat.lt_of_le_of_lt Nat.and_le_right h
theorem pls_filter (p : Raw → Bool) : ∀ ts : List Raw, pls (ts.filter p) ≤ pls ts
  | [] => Nat.le_refl _
  | t :: ts => by
    have h := pls_filter p ts
    by_cases hp : p t = true
    · rw [List.filter_cons_of_pos hp]; simp only [pls]; omega
    · rw [List.filter_cons_of_neg hp]; simp only [pls]; omega
theorem pl_node (k : Int) (r : Nat) (f : Nat → Nat) (ks : List Raw) : pl (nodeT k r f ks) ≤ 1 + pls ks := by
  unfold nodeT
  split
  · simp [pl, pls]
  · rw [pl_force]; simp [pl]
theorem dims_node (k : Int) (r : Nat) (hr : r < 4) (f : Nat → Nat) (ks : List Raw) : dimsOk (nodeT k r f ks) := by
  unfold nodeT
  split
  · exact ⟨by omega, by omega, trivial⟩
  · exact dims_force _ (dimsOf_lt ks) _
mutual
theorem pl_new : ∀ t : Raw, pl (newT t) ≤ wt t
  | .mk k d n f kids => by
    unfold newT wt
    have hd : n / widN (d % 4).toNat ≤ n := Nat.div_le_self _ _
    have hw := widN_pos (d % 4).toNat
    split
    · unfold pl pls
      rw [Nat.mul_div_cancel _ (by omega)]
      omega
    · split
      · unfold pl pls
        rw [Nat.mul_div_cancel _ (by omega)]
        omega
      · have h1 := pl_node (kindN k) (d % 4).toNat f ((newTs kids).filter (keepT (kindN k)))
        have h2 := pls_filter (keepT (kindN k)) (newTs kids)
        have h3 := pls_new kids
        omega
theorem pls_new : ∀ ts : List Raw, pls (newTs ts) ≤ wts ts
  | [] => Nat.le_refl _
  | t :: ts => by
    have h1 := pl_new t
    have h2 := pls_new ts
    unfold newTs pls wts
    omega
end
theorem dims_new : ∀ t : Raw, dimsOk (newT t)
  | .mk k d n f kids => by
    unfold newT
    split
    · exact ⟨by omega, by omega, trivial⟩
    · split
      · exact ⟨by omega, by omega, trivial⟩
      · exact dims_node _ _ (by omega) _ _
theorem forceTs_len (r' : Nat) : ∀ ts : List Raw, (forceTs r' ts).length = ts.length
  | [] => rfl
  | t :: ts => by unfold forceTs; simp [forceTs_len r' ts]
theorem forceTs_get (r' : Nat) : ∀ (ts : List Raw) (i : Nat), (forceTs r' ts)[i]? = (ts[i]?).map (forceT r')
  | [], i => by simp [forceTs]
  | t :: ts, 0 => by simp [forceTs]
  | t :: ts, i + 1 => by simp [forceTs, forceTs_get r' ts i]
theorem forceTs_snoc (r' : Nat) : ∀ (ts : List Raw) (t : Raw), forceTs r' (ts ++ [t]) = forceTs r' ts ++ [forceT r' t]
  | [], t => rfl
  | s :: ts, t => by simp only [List.cons_append, forceTs, forceTs_snoc r' ts t]
theorem newTs_snoc : ∀ (ts : List Raw) (t : Raw), newTs (ts ++ [t]) = newTs ts ++ [newT t]
  | [], t => rfl
  | s :: ts, t => by simp only [List.cons_append, newTs, newTs_snoc ts t]
theorem dimsOf_snoc : ∀ (ts : List Raw) (t : Raw), dimsOf (ts ++ [t]) = dimsOf ts &&& dimR t
  | [], t => by simp [dimsOf, Nat.and_comm]
  | s :: ts, t => by simp only [List.cons_append, dimsOf, dimsOf_snoc ts t, Nat.and_assoc]
theorem dimsOks_mem : ∀ (ts : List Raw), dimsOks ts → ∀ (i : Nat) (t : Raw), ts[i]? = some t → dimsOk t
  | [], _, _, _, h => by simp at h
  | s :: ts, hd, 0, t, h => by simp at h; subst h; exact hd.1
  | s :: ts, hd, i + 1, t, h => dimsOks_mem ts hd.2 i t (by simpa using h)
theorem pls_mem : ∀ (l : List Raw) (i : Nat) (t : Raw), l[i]? = some t → pl t ≤ pls l
  | [], _, _, h => by simp at h
  | s :: l, 0, t, h => by simp at h; subst h; simp only [pls]; omega
  | s :: l, i + 1, t, h => by
    have := pls_mem l i t (by simpa using h)
    simp only [pls]; omega
theorem pl_pos (t : Raw) : 1 ≤ pl t := by cases t; unfold pl; exact Nat.le_trans (Nat.le_add_right 1 _) (Nat.le_add_right _ _)
theorem pls_len : ∀ (l : List Raw), l.length ≤ pls l
  | [] => by simp [pls]
  | t :: l => by
    have := pls_len l
    have := pl_pos t
    simp only [List.length_cons, pls]; omega
end Go.Proofs.YthcjnadceambgaaGreatDoor
