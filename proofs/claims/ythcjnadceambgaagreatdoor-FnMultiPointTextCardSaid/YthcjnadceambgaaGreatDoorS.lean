/- The reference's list in brackets. -/
import Derived.Test.YthcjnadceambgaaGreatDoorC
import Derived.Test.YthcjnadceambgaaGreatDoorA8
import Derived.Deep.DeepCutAuto
import Derived.Test.YthcjnadceambgaaGreatDoorV
namespace Go.Proofs.YthcjnadceambgaaGreatDoor
open Go.RowKit

/-- Texts with commas between them, k of them. -/
def cTo (s : Nat → List UInt8) : Nat → List UInt8
  | 0 => []
  | k + 1 => cTo s k ++ (if 0 < k then [44] else []) ++ s k
theorem cTo_mono (s : Nat → List UInt8) (k : Nat) : (cTo s k).length ≤ (cTo s (k + 1)).length := by
  show _ ≤ (cTo s k ++ (if 0 < k then [44] else []) ++ s k).length
  simp only [List.length_append]; omega
theorem cTo_le (s : Nat → List UInt8) : ∀ (n k : Nat), k ≤ n → (cTo s k).length ≤ (cTo s n).length
  | 0, k, h => by obtain rfl : k = 0 := by omega
                  exact Nat.le_refl _
  | n + 1, k, h => by
    by_cases hk : k = n + 1
    · subst hk; exact Nat.le_refl _
    · exact Nat.le_trans (cTo_le s n k (by omega)) (cTo_mono s n)
/-- A row of texts in memory. -/
structure SRow (W : World) (p : Option Addr) (n : Nat) (s : Nat → List UInt8) : Prop where
  some_ : 0 < n → ∃ a, p = some a
  at_ : ∀ a, p = some a → ∀ i, i < n → W.cell? (a.add i) = some (.string ⟨(s i).toArray⟩)

set_option maxRecDepth 100000 in
set_option maxHeartbeats 1000000 in
theorem jsonList_any (p : Option Addr) (n cap : Nat) (s : Nat → List UInt8) (hl : (cTo s n).length ≤ 30000000) (hn : n ≤ 2000) (W : World) (hs : SRow W p n s) :
    Calls Tryz.prog 86 #[.slice p n cap] W fun e w' => e = .returned (.string ⟨([91] ++ cTo s n ++ [93]).toArray⟩) ∧ w' = W := by
  have hle := cTo_le s n
  obtain ⟨S, hS⟩ : ∃ S : Nat → ByteArray, ∀ k, S k = ⟨([91] ++ cTo s k).toArray⟩ := ⟨_, fun _ => rfl⟩
  obtain ⟨U, hU⟩ : ∃ U : Nat → ByteArray, ∀ k, U k = ⟨([91] ++ cTo s k ++ [44]).toArray⟩ := ⟨_, fun _ => rfl⟩
  obtain ⟨X, hX⟩ : ∃ X : Nat → ByteArray, ∀ k, X k = ⟨(s k).toArray⟩ := ⟨_, fun _ => rfl⟩
  obtain ⟨J, hJ⟩ : ∃ J : ByteArray, J = ⟨([91] ++ cTo s n ++ [93]).toArray⟩ := ⟨_, rfl⟩
  have hx : ∀ k, k < n → (s k).length + (cTo s k).length ≤ 30000000 := fun k hk => by
    have h1 := hle (k + 1) hk
    have h2 : (cTo s (k + 1)).length = (cTo s k ++ (if 0 < k then [44] else []) ++ s k).length := rfl
    simp only [List.length_append] at h2
    omega
  have HU := Lib.hid (fun k (hk : k < n) => cat_run Tryz.prog ([91] ++ cTo s k) [44] (S k) ⟨#[44]⟩ (U k) (hS k) rfl (hU k) (by have := hx k hk; simp only [List.length_append, List.length_cons, List.length_nil]; omega))
  have HX := Lib.hid (fun k (hk : k < n) (h0 : 0 < k) => cat_run Tryz.prog ([91] ++ cTo s k ++ [44]) (s k) (U k) (X k) (S (k + 1)) (hU k) (hX k) (by rw [hS]; show ByteArray.mk ([91] ++ (cTo s k ++ (if 0 < k then [44] else []) ++ s k)).toArray = _; rw [if_pos h0]; simp only [List.append_assoc]) (by have := hx k hk; simp only [List.length_append, List.length_cons, List.length_nil]; omega))
  have HZ := Lib.hid (fun k (hk : k < n) (h0 : ¬ 0 < k) => cat_run Tryz.prog ([91] ++ cTo s k) (s k) (S k) (X k) (S (k + 1)) (hS k) (hX k) (by rw [hS]; show ByteArray.mk ([91] ++ (cTo s k ++ (if 0 < k then [44] else []) ++ s k)).toArray = _; rw [if_neg h0]; simp only [List.append_assoc, List.nil_append]) (by have := hx k hk; simp only [List.length_append, List.length_cons, List.length_nil]; omega))
  have HJ := Lib.hid (cat_run Tryz.prog ([91] ++ cTo s n) [93] (S n) ⟨#[93]⟩ J (hS n) rfl hJ (by simp only [List.length_append, List.length_cons, List.length_nil]; omega))
  have h0 : S 0 = ⟨#[91]⟩ := by rw [hS]; rfl
  have HS := Lib.hid (fun a (ha : p = some a) i (hi : i < n) => (by rw [hX]; exact hs.at_ a ha i hi : W.cell? (a.add i) = some (.string (X i))))
  have HP := Lib.hid hs.some_
  rw [← hJ]
  clear hS hU hX hJ hle hx hl hs
  go_enter Tryz.func86, Tryz.ntmps86
  go_wp2_with fail
  go_loopw [3, 8] (fun x i wr => ∃ k : Nat, k ≤ n ∧ i = .int .i64 k ∧ x = .string (S k) ∧ wr = W) (fun _ i _ => n - (intOf i).toNat)
  case atStart => exact ⟨0, by omega, rfl, by rw [h0], rfl⟩
  case round =>
    obtain ⟨k, hk, rfl, rfl, rfl⟩ := hrel
    by_cases hkn : k < n
    · obtain ⟨a, ha⟩ := HP.out (by omega)
      have q := HS.out a ha k hkn
      subst ha
      by_cases hk0 : 0 < k
      · have eU := HU.out k hkn
        have eX := HX.out k hkn hk0
        go_wp2_with fail
        exact ⟨⟨k + 1, by omega, by go_num, rfl, by trivial⟩, by simp [intOf]; omega⟩
      · have eX := HZ.out k hkn hk0
        go_wp2_with fail
        exact ⟨⟨k + 1, by omega, by go_num, rfl, by trivial⟩, by simp [intOf]; omega⟩
    · obtain rfl : k = n := by omega
      have eJ := HJ.out
      go_wp2_with fail
      go_wp2_with fail
      go_ret
      exact ⟨rfl, rfl⟩
end Go.Proofs.YthcjnadceambgaaGreatDoor
