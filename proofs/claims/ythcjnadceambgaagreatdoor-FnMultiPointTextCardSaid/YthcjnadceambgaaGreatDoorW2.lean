/- The reference's place in GeoJSON, whole; its rows of places. -/
import Derived.Test.YthcjnadceambgaaGreatDoorW
namespace Go.Proofs.YthcjnadceambgaaGreatDoor
open Go.RowKit

theorem jsonPlace_any (T : Nat → Int) (hT : ∀ i, U64 (T i)) (x y z m r : Nat) (hx : x < 18446744073709551616) (hy : y < 18446744073709551616) (hz : z < 18446744073709551616) (hr : r < 4) (W : World) (ht : Tabs T W) :
    Calls Tryz.prog 85 #[.agg #[.float .f64 x, .float .f64 y, .float .f64 z, .float .f64 m], .int .i64 r] W fun e w' => e = .returned (.string ⟨(jsonPl T x y z r).toArray⟩) ∧ W.grownBy w' none := by
  have hf : ∀ i, (fun i : Nat => if i = 0 then x else if i = 1 then y else z) i < 18446744073709551616 := fun i => by
    show (if i = 0 then x else if i = 1 then y else z) < _
    split
    · exact hx
    · split <;> assumption
  by_cases h1 : r % 2 = 1
  · have e : jsonPl T x y z r = [91] ++ cTo (fun i => decT T ((fun i : Nat => if i = 0 then x else if i = 1 then y else z) i)) 3 ++ [93] := by
      have h1' : (r : Int) % 2 = 1 := by omega
      unfold jsonPl
      rw [if_pos h1']
      simp [cTo, List.append_assoc]
    rw [e]
    exact jsonPlace_in T hT x y z m r 1 3 (by omega) _ hf (nTo 1 (fun _ => x) (fun _ => y) (fun _ => z) (fun _ => m) 1) (fun i hi => by
      rcases (by omega : i = 0 ∨ i = 1 ∨ i = 2) with rfl | rfl | rfl <;> rfl)
      (by rcases (by omega : r = 1 ∨ r = 3) with rfl | rfl <;> kernel_rfl)
      (fun W' p hp => Nums_1 p 1 1 _ _ _ _ (by omega) W' hp) W ht
  · have e : jsonPl T x y z r = [91] ++ cTo (fun i => decT T ((fun i : Nat => if i = 0 then x else if i = 1 then y else z) i)) 2 ++ [93] := by
      have h1' : ¬ (r : Int) % 2 = 1 := by omega
      unfold jsonPl
      rw [if_neg h1']
      simp [cTo, List.append_assoc]
    rw [e]
    exact jsonPlace_in T hT x y z m r 0 2 (by omega) _ hf (nTo 0 (fun _ => x) (fun _ => y) (fun _ => z) (fun _ => m) 1) (fun i hi => by
      rcases (by omega : i = 0 ∨ i = 1) with rfl | rfl <;> rfl)
      (by rcases (by omega : r = 0 ∨ r = 2) with rfl | rfl <;> kernel_rfl)
      (fun W' p hp => Nums_0 p 1 1 _ _ _ _ (by omega) W' hp) W ht

set_option maxRecDepth 100000 in
set_option maxHeartbeats 400000 in
theorem Width_lit (x y : Int) (h : (x = 0 ∧ y = 2) ∨ (x = 1 ∧ y = 3) ∨ (x = 2 ∧ y = 3) ∨ (x = 3 ∧ y = 4)) (w : World) :
    Calls Tryz.prog 30 #[.int .i64 x] w fun e w' => e = .returned (.int .i64 y) ∧ w' = w := by
  rcases h with ⟨rfl, rfl⟩ | ⟨rfl, rfl⟩ | ⟨rfl, rfl⟩ | ⟨rfl, rfl⟩
  all_goals
    go_enter Tryz.func30, Tryz.ntmps30
    have b0 : bits .and .i64 0 1 = 0 := by kernel_rfl
    have b1 : bits .and .i64 1 1 = 1 := by kernel_rfl
    have b2 : bits .and .i64 2 1 = 0 := by kernel_rfl
    have b3 : bits .and .i64 3 1 = 1 := by kernel_rfl
    go_wp2_with fail
    go_ret
    exact ⟨by first | rfl | kernel_rfl, rfl⟩
theorem Width_any (r : Nat) (hr : r < 4) (w : World) : Calls Tryz.prog 30 #[.int .i64 r] w fun e w' => e = .returned (.int .i64 (widN r : Nat)) ∧ w' = w :=
  Width_lit r (widN r : Nat) (by unfold widN; omega) w

theorem Leaf_2 (w : World) : Calls Tryz.prog 29 #[.int .i64 2] w fun e w' => e = .returned (.bool true) ∧ w' = w := by
  go_enter Tryz.func29, Tryz.ntmps29
  go_wp2_with fail
  go_ret
  exact ⟨rfl, rfl⟩
theorem jsonName_2 (w : World) : Calls Tryz.prog 50 #[.int .i64 2] w fun e w' => e = .returned (.string ⟨#[76, 105, 110, 101, 83, 116, 114, 105, 110, 103]⟩) ∧ w' = w := by
  go_enter Tryz.func50, Tryz.ntmps50
  go_wp2_with fail
  go_ret
  exact ⟨rfl, rfl⟩
end Go.Proofs.YthcjnadceambgaaGreatDoor
