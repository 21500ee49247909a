/- The reference's New: whatever the geometry, it is newT of it. -/
import Derived.Test.YthcjnadceambgaaGreatDoorE8
namespace Go.Proofs.YthcjnadceambgaaGreatDoor
open Go.RowKit

theorem NewD : ∀ (h : Nat), IHN h := by
  intro h
  induction h with
  | zero => intro B W v t hk; exact hk.elim
  | succ h ih =>
    intro B W v t hk hw
    obtain ⟨k, d, n, f, kids⟩ := t
    have hk0 := hk
    obtain ⟨p, cap, q, c2, rfl, hf, h1, h2, h3, _⟩ := hk
    have hn : n ≤ 2000 := by unfold wt at hw; omega
    by_cases h1' : kindN k = 1
    · have hk1 : k = 1 := by unfold kindN at h1'; split at h1' <;> omega
      subst hk1
      have e : newT (.mk 1 d n f kids) = .mk 1 (d % 4) (min (n / widN (d % 4).toNat) 1 * widN (d % 4).toNat) f [] := by unfold newT; rw [if_pos h1']
      rw [e]
      exact NewLeaf_1 h d p q n cap kids.length c2 f hn h1 h3 W hf
    · by_cases h2' : kindN k = 2
      · have hk2 : k = 2 := by unfold kindN at h2'; split at h2' <;> omega
        subst hk2
        have e : newT (.mk 2 d n f kids) = .mk 2 (d % 4) (n / widN (d % 4).toNat * widN (d % 4).toNat) f [] := by unfold newT; rw [if_neg h1', if_pos h2']
        rw [e]
        exact NewLeaf_2 h d p q n cap kids.length c2 f hn h1 h3 W hf
      · exact NewNode h ih B W k d n f kids p q cap c2 hk0 hw (kindN k) rfl h1' h2'
end Go.Proofs.YthcjnadceambgaaGreatDoor
