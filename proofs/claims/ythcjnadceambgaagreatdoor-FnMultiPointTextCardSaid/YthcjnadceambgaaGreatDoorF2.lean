/- The reference's text of a geometry: plain functions, and the small ones of the program. -/
import Derived.Test.YthcjnadceambgaaGreatDoorF1
import Derived.Test.YthcjnadceambgaaGreatDoorB3
namespace Go.Proofs.YthcjnadceambgaaGreatDoor
open Go.RowKit

def nameT (k : Int) : List UInt8 := if k = 1 then [80, 79, 73, 78, 84] else if k = 2 then [76, 73, 78, 69, 83, 84, 82, 73, 78, 71] else if k = 3 then [80, 79, 76, 89, 71, 79, 78] else if k = 4 then [77, 85, 76, 84, 73, 80, 79, 73, 78, 84] else if k = 5 then [77, 85, 76, 84, 73, 76, 73, 78, 69, 83, 84, 82, 73, 78, 71] else if k = 6 then [77, 85, 76, 84, 73, 80, 79, 76, 89, 71, 79, 78] else [71, 69, 79, 77, 69, 84, 82, 89, 67, 79, 76, 76, 69, 67, 84, 73, 79, 78]
theorem nameT_len (k : Int) : (nameT k).length ≤ 18 := by
  unfold nameT
  repeat' split
  all_goals decide
def dimN (r : Nat) : List UInt8 := if r = 1 then [90] else if r = 2 then [77] else if r = 3 then [90, 77] else []
theorem tag_dimN (r : Nat) (hr : r < 4) (h0 : ¬ r = 0) : tag r = [32] ++ dimN r ++ [32] := by
  rcases (by omega : r = 1 ∨ r = 2 ∨ r = 3) with rfl | rfl | rfl <;> rfl

set_option maxRecDepth 100000 in
set_option maxHeartbeats 1000000 in
theorem kindName_any (k : Int) (w : World) : Calls Tryz.prog 26 #[.int .i64 k] w fun e w' => e = .returned (.string ⟨(nameT k).toArray⟩) ∧ w' = w := by
  by_cases h1 : k = 1
  · subst h1
    go_enter Tryz.func26, Tryz.ntmps26
    go_wp2_with fail
    go_ret
    exact ⟨rfl, rfl⟩
  · skip
    by_cases h2 : k = 2
    · subst h2
      go_enter Tryz.func26, Tryz.ntmps26
      go_wp2_with fail
      go_ret
      exact ⟨rfl, rfl⟩
    · skip
      by_cases h3 : k = 3
      · subst h3
        go_enter Tryz.func26, Tryz.ntmps26
        go_wp2_with fail
        go_ret
        exact ⟨rfl, rfl⟩
      · skip
        by_cases h4 : k = 4
        · subst h4
          go_enter Tryz.func26, Tryz.ntmps26
          go_wp2_with fail
          go_ret
          exact ⟨rfl, rfl⟩
        · skip
          by_cases h5 : k = 5
          · subst h5
            go_enter Tryz.func26, Tryz.ntmps26
            go_wp2_with fail
            go_ret
            exact ⟨rfl, rfl⟩
          · skip
            by_cases h6 : k = 6
            · subst h6
              go_enter Tryz.func26, Tryz.ntmps26
              go_wp2_with fail
              go_ret
              exact ⟨rfl, rfl⟩
            · skip
              have e : nameT k = [71, 69, 79, 77, 69, 84, 82, 89, 67, 79, 76, 76, 69, 67, 84, 73, 79, 78] := by unfold nameT; rw [if_neg h1, if_neg h2, if_neg h3, if_neg h4, if_neg h5, if_neg h6]
              rw [e]
              have e1 : (k == 1) = false := by simpa using h1
              have e2 : (k == 2) = false := by simpa using h2
              have e3 : (k == 3) = false := by simpa using h3
              have e4 : (k == 4) = false := by simpa using h4
              have e5 : (k == 5) = false := by simpa using h5
              have e6 : (k == 6) = false := by simpa using h6
              clear h1 h2 h3 h4 h5 h6 e
              go_enter Tryz.func26, Tryz.ntmps26
              go_wp2_with fail
              go_ret
              exact ⟨rfl, rfl⟩
set_option maxRecDepth 100000 in
set_option maxHeartbeats 1000000 in
theorem dimName_any (r : Nat) (hr : r < 4) (w : World) : Calls Tryz.prog 27 #[.int .i64 r] w fun e w' => e = .returned (.string ⟨(dimN r).toArray⟩) ∧ w' = w := by
  rcases (by omega : r = 0 ∨ r = 1 ∨ r = 2 ∨ r = 3) with rfl | rfl | rfl | rfl
  all_goals
    go_enter Tryz.func27, Tryz.ntmps27
    go_wp2_with fail
    go_ret
    exact ⟨rfl, rfl⟩

def wrapP (ps : List (List UInt8)) : List UInt8 := if ps = [] then EMPTY else [40] ++ joinC ps ++ [41]
/-- The texts of the places. -/
noncomputable def plTs (T : Nat → Int) (r : Nat) (f : Nat → Nat) (n : Nat) : List (List UInt8) := (List.range n).map fun i => wktPl T (plX r f i) (plY r f i) (plZ r f i) (plM r f i) r
mutual
noncomputable def bodyT (T : Nat → Int) : Raw → List UInt8
  | .mk k d n f kids => wrapP (plTs T d.toNat f (n / widN d.toNat) ++ bodyTs T (decide (k = 0)) kids)
noncomputable def textT (T : Nat → Int) : Raw → List UInt8
  | .mk k d n f kids => nameT k ++ (if d.toNat = 0 then (if plTs T d.toNat f (n / widN d.toNat) ++ bodyTs T (decide (k = 0)) kids = [] then [32] else []) else tag d.toNat) ++ wrapP (plTs T d.toNat f (n / widN d.toNat) ++ bodyTs T (decide (k = 0)) kids)
noncomputable def bodyTs (T : Nat → Int) (c : Bool) : List Raw → List (List UInt8)
  | [] => []
  | t :: ts => (bif c then textT T t else bodyT T t) :: bodyTs T c ts
end
theorem bodyTs_snoc (T : Nat → Int) (c : Bool) : ∀ (ts : List Raw) (t : Raw), bodyTs T c (ts ++ [t]) = bodyTs T c ts ++ [bif c then textT T t else bodyT T t]
  | [], t => by simp [bodyTs]
  | s :: ts, t => by simp only [List.cons_append, bodyTs, bodyTs_snoc T c ts t]
theorem bodyTs_len (T : Nat → Int) (c : Bool) : ∀ (ts : List Raw), (bodyTs T c ts).length = ts.length
  | [] => by simp [bodyTs]
  | s :: ts => by simp only [List.length_cons, bodyTs, bodyTs_len T c ts]
theorem plTs_len (T : Nat → Int) (r : Nat) (f : Nat → Nat) (n : Nat) : (plTs T r f n).length = n := by simp [plTs]
theorem plTs_snoc (T : Nat → Int) (r : Nat) (f : Nat → Nat) (n : Nat) : plTs T r f (n + 1) = plTs T r f n ++ [wktPl T (plX r f n) (plY r f n) (plZ r f n) (plM r f n) r] := by simp [plTs, List.range_succ]
theorem plTs_sum (T : Nat → Int) (r : Nat) (f : Nat → Nat) : ∀ n, lensum (plTs T r f n) ≤ n * 16004
  | 0 => by simp [plTs, lensum]
  | n + 1 => by
    have h := plTs_sum T r f n
    have h2 := wktPl_len T (plX r f n) (plY r f n) (plZ r f n) (plM r f n) r
    rw [plTs_snoc, lensum_append]
    simp only [lensum]
    omega
theorem wrapP_len (ps : List (List UInt8)) : (wrapP ps).length ≤ 5 + lensum ps := by
  have h := joinC_len ps
  unfold wrapP
  split
  · simp [EMPTY]
  · simp only [List.length_append, List.length_cons, List.length_nil]; omega
mutual
theorem bodyT_len (T : Nat → Int) : ∀ t : Raw, (bodyT T t).length + 1 ≤ 16100 * pl t
  | .mk k d n f kids => by
    have h1 := wrapP_len (plTs T d.toNat f (n / widN d.toNat) ++ bodyTs T (decide (k = 0)) kids)
    have h2 := plTs_sum T d.toNat f (n / widN d.toNat)
    have h3 := bodyTs_sum T (decide (k = 0)) kids
    rw [lensum_append] at h1
    unfold bodyT pl
    generalize n / widN d.toNat = L at h1 h2 h3 ⊢
    omega
theorem textT_len (T : Nat → Int) : ∀ t : Raw, (textT T t).length + 1 ≤ 16100 * pl t
  | .mk k d n f kids => by
    have h1 := wrapP_len (plTs T d.toNat f (n / widN d.toNat) ++ bodyTs T (decide (k = 0)) kids)
    have h2 := plTs_sum T d.toNat f (n / widN d.toNat)
    have h3 := bodyTs_sum T (decide (k = 0)) kids
    have h4 := nameT_len k
    have h5 := tag_len d.toNat
    rw [lensum_append] at h1
    have h6 : (if d.toNat = 0 then (if plTs T d.toNat f (n / widN d.toNat) ++ bodyTs T (decide (k = 0)) kids = [] then [32] else []) else tag d.toNat).length ≤ 4 := by
      split
      · split <;> simp
      · exact h5
    unfold textT pl
    simp only [List.length_append]
    generalize n / widN d.toNat = L at h1 h2 h3 h6 ⊢
    omega
theorem bodyTs_sum (T : Nat → Int) (c : Bool) : ∀ ts : List Raw, lensum (bodyTs T c ts) ≤ 16100 * pls ts
  | [] => by simp [bodyTs, lensum]
  | t :: ts => by
    have h1 := bodyT_len T t
    have h2 := textT_len T t
    have h3 := bodyTs_sum T c ts
    unfold bodyTs lensum pls
    cases c
    · simp only [cond_false]; omega
    · simp only [cond_true]; omega
end
theorem wrapP_empty (ps : List (List UInt8)) : wrapP ps = EMPTY ↔ ps = [] := by
  unfold wrapP
  split
  · simp_all
  · simp_all [EMPTY]
end Go.Proofs.YthcjnadceambgaaGreatDoor
