/- The reference's New, whole. -/
import Derived.Test.YthcjnadceambgaaGreatDoorE6
namespace Go.Proofs.YthcjnadceambgaaGreatDoor
open Go.RowKit

theorem dimsOks_new : ∀ ts : List Raw, dimsOks (newTs ts)
  | [] => trivial
  | t :: ts => by unfold newTs dimsOks; exact ⟨dims_new t, dimsOks_new ts⟩
theorem dimsOks_filter (p : Raw → Bool) : ∀ ts : List Raw, dimsOks ts → dimsOks (ts.filter p)
  | [], h => h
  | t :: ts, h => by
    have h2 := dimsOks_filter p ts h.2
    by_cases hp : p t = true
    · rw [List.filter_cons_of_pos hp]; exact ⟨h.1, h2⟩
    · rw [List.filter_cons_of_neg hp]; exact h2
theorem pls_take : ∀ (ts : List Raw) (j : Nat), pls (ts.take j) ≤ pls ts
  | [], j => by simp
  | t :: ts, 0 => by simp [pls]
  | t :: ts, j + 1 => by have := pls_take ts j; simp only [List.take_succ_cons, pls]; omega
theorem and_small (a b : Nat) (ha : a < 4) (hb : b < 4) : bits .and .i64 (a : Int) (b : Int) = ((a &&& b : Nat) : Int) := by
  rcases (by omega : a = 0 ∨ a = 1 ∨ a = 2 ∨ a = 3) with rfl | rfl | rfl | rfl <;> rcases (by omega : b = 0 ∨ b = 1 ∨ b = 2 ∨ b = 3) with rfl | rfl | rfl | rfl <;> kernel_rfl

set_option maxRecDepth 100000 in
set_option maxHeartbeats 1000000 in
theorem KidOf_any (k : Int) (w : World) : Calls Tryz.prog 31 #[.int .i64 k] w fun e w' => e = .returned (.int .i64 (kidOf k)) ∧ w' = w := by
  unfold kidOf
  by_cases h4 : k = 4
  · subst h4
    go_enter Tryz.func31, Tryz.ntmps31
    go_wp2_with fail
    go_ret
    exact ⟨rfl, rfl⟩
  · by_cases h3 : k = 3
    · subst h3
      go_enter Tryz.func31, Tryz.ntmps31
      go_wp2_with fail
      go_ret
      exact ⟨rfl, rfl⟩
    · by_cases h5 : k = 5
      · subst h5
        go_enter Tryz.func31, Tryz.ntmps31
        go_wp2_with fail
        go_ret
        exact ⟨rfl, rfl⟩
      · by_cases h6 : k = 6
        · subst h6
          go_enter Tryz.func31, Tryz.ntmps31
          go_wp2_with fail
          go_ret
          exact ⟨rfl, rfl⟩
        · rw [if_neg h4, if_neg (by omega), if_neg h6]
          have e4 : (k == 4) = false := by simpa using h4
          have e3 : (k == 3) = false := by simpa using h3
          have e5 : (k == 5) = false := by simpa using h5
          have e6 : (k == 6) = false := by simpa using h6
          clear h4 h3 h5 h6
          go_enter Tryz.func31, Tryz.ntmps31
          go_wp2_with fail
          go_ret
          exact ⟨rfl, rfl⟩
end Go.Proofs.YthcjnadceambgaaGreatDoor
