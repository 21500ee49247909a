/- The package's text of a line string. -/
import Derived.Test.YthcjnadceambgaaGreatDoorB1
namespace Go.Proofs.YthcjnadceambgaaGreatDoor
open Go.RowKit

def tag : Nat → List UInt8
  | 0 => []
  | 1 => [32, 90, 32]
  | 2 => [32, 77, 32]
  | _ => [32, 90, 77, 32]
def EMPTY : List UInt8 := [69, 77, 80, 84, 89]
def wE (c : UInt8) : List UInt8 := if c = 40 ∨ c = 44 ∨ c = 32 then EMPTY else 32 :: EMPTY

set_option maxRecDepth 100000 in
set_option maxHeartbeats 1000000 in
theorem appendWKTHeader_any (name : List UInt8) (r : Nat) (hr : r < 4) (hname : name.length ≤ 100)
    (base : Nat) (v : Value) (l : List UInt8) (w : World) (hown : w.ownsRow base 5 1 v l.length (Bs l)) (hbase : base ≤ w.heap.size) (hl : l.length ≤ 35000000000000) :
    Calls Tryz.prog 116 #[v, .string ⟨name.toArray⟩, .int .u8 r] w (AppEnd 5 base w v (l ++ (name ++ tag r))) := by
  have H := AppB.start hown
  clear hown
  have hsz : (⟨name.toArray⟩ : ByteArray).size = name.length := by simp [ByteArray.size]
  rcases (by omega : r = 0 ∨ r = 1 ∨ r = 2 ∨ r = 3) with rfl | rfl | rfl | rfl
  all_goals
    have i0 : ∀ (w : World), (Instr.index 157 (.agg #[.string ⟨#[]⟩, .string ⟨#[32, 90, 32]⟩, .string ⟨#[32, 77, 32]⟩, .string ⟨#[32, 90, 77, 32]⟩]) (.int .u8 0)).run Tryz.prog w = .ok (.string ⟨#[]⟩) w := fun _ => by kernel_rfl
    have i1 : ∀ (w : World), (Instr.index 157 (.agg #[.string ⟨#[]⟩, .string ⟨#[32, 90, 32]⟩, .string ⟨#[32, 77, 32]⟩, .string ⟨#[32, 90, 77, 32]⟩]) (.int .u8 1)).run Tryz.prog w = .ok (.string ⟨#[32, 90, 32]⟩) w := fun _ => by kernel_rfl
    have i2 : ∀ (w : World), (Instr.index 157 (.agg #[.string ⟨#[]⟩, .string ⟨#[32, 90, 32]⟩, .string ⟨#[32, 77, 32]⟩, .string ⟨#[32, 90, 77, 32]⟩]) (.int .u8 2)).run Tryz.prog w = .ok (.string ⟨#[32, 77, 32]⟩) w := fun _ => by kernel_rfl
    have i3 : ∀ (w : World), (Instr.index 157 (.agg #[.string ⟨#[]⟩, .string ⟨#[32, 90, 32]⟩, .string ⟨#[32, 77, 32]⟩, .string ⟨#[32, 90, 77, 32]⟩]) (.int .u8 3)).run Tryz.prog w = .ok (.string ⟨#[32, 90, 77, 32]⟩) w := fun _ => by kernel_rfl
    go_enter Tryz.func116, Tryz.ntmps116
    go_wp2_with (first
      | (at_builtin; refine app_str rfl _ _ _ _ rfl Tryz.underlying33 Tryz.underlying9 infoB H rfl _ rfl hbase (by (try rw [hsz]); (try simp only [List.length_append, List.length_cons, List.length_nil]); (try simp [ByteArray.size]); omega) ?_; intro v1 w1 H1; clear H; have H := H1; clear H1))
    go_ret
    exact ⟨_, rfl, by simpa [tag, List.append_assoc] using H⟩

set_option maxRecDepth 100000 in
set_option maxHeartbeats 1000000 in
theorem appendWKTEmpty_any (l' : List UInt8) (c : UInt8)
    (base : Nat) (v : Value) (l : List UInt8) (hl' : l = l' ++ [c]) (w : World) (hown : w.ownsRow base 5 1 v l.length (Bs l)) (hbase : base ≤ w.heap.size) (hl : l.length ≤ 35000000000000) :
    Calls Tryz.prog 120 #[v] w (AppEnd 5 base w v (l ++ wE c)) := by
  have H := AppB.start hown
  obtain ⟨n, hn⟩ : ∃ n, n = l'.length := ⟨_, rfl⟩
  have hlen : l.length = n + 1 := by rw [hl', hn]; simp
  obtain ⟨a, cap, rfl, hcell⟩ : ∃ a cap, v = .slice (some a) (n + 1) cap ∧ w.cell? (a.add n) = some (.int .u8 (c.toNat : Int)) := by
    rcases hown.2 with ⟨_, h0⟩ | ⟨g, cap, cur, hv, _⟩
    · omega
    · refine ⟨⟨g, 0, none⟩, cap, by rw [hv, hlen], hown.cells (g := g) (by rw [hv]; rfl) n _ ?_⟩
      rw [hl', hn]
      simp [Bs]
  have hln : n ≤ 35000000000000 := by omega
  clear hown hn hl'
  by_cases h1 : c = 40 ∨ c = 44 ∨ c = 32
  · have e : wE c = EMPTY := by unfold wE; rw [if_pos h1]
    rw [e]
    clear e
    rcases h1 with rfl | rfl | rfl
    all_goals
      go_enter Tryz.func120, Tryz.ntmps120
      go_wp2_with (first
        | (at_builtin; refine app_str rfl _ _ _ _ rfl Tryz.underlying33 Tryz.underlying9 infoB H rfl _ rfl hbase (by (try simp only [List.length_append, List.length_cons, List.length_nil]); (try simp [ByteArray.size]); omega) ?_; intro v1 w1 H1; clear H; have H := H1; clear H1))
      go_ret
      exact ⟨_, rfl, by simpa [EMPTY] using H⟩
  · have e : wE c = 32 :: EMPTY := by unfold wE; rw [if_neg h1]
    rw [e]
    have hc := c.toNat_lt
    have n1 : ¬ c.toNat = 40 := fun h => h1 (.inl (UInt8.toNat_inj.1 (h.trans (by rfl))))
    have n2 : ¬ c.toNat = 44 := fun h => h1 (.inr (.inl (UInt8.toNat_inj.1 (h.trans (by rfl)))))
    have n3 : ¬ c.toNat = 32 := fun h => h1 (.inr (.inr (UInt8.toNat_inj.1 (h.trans (by rfl)))))
    have m1 : ((c.toNat : Int) == 40) = false := by simpa using fun h => n1 (by omega)
    have m2 : ((c.toNat : Int) == 44) = false := by simpa using fun h => n2 (by omega)
    have m3 : ((c.toNat : Int) == 32) = false := by simpa using fun h => n3 (by omega)
    clear e h1 n1 n2 n3
    go_enter Tryz.func120, Tryz.ntmps120
    go_wp2_with (first
      | (at_builtin; refine app_byte rfl _ _ _ rfl Tryz.underlying33 infoB H rfl _ 32 rfl rfl (by first | rfl | simp) hbase (by omega) ?_; intro v1 w1 H1; clear H; have H := H1; clear H1)
      | (at_builtin; refine app_str rfl _ _ _ _ rfl Tryz.underlying33 Tryz.underlying9 infoB H rfl _ rfl hbase (by (try simp only [List.length_append, List.length_cons, List.length_nil]); (try simp [ByteArray.size]); omega) ?_; intro v1 w1 H1; clear H; have H := H1; clear H1))
    go_ret
    exact ⟨_, rfl, by simpa [EMPTY] using H⟩
end Go.Proofs.YthcjnadceambgaaGreatDoor
