/- The decimal of a number as it is appended and as it is written into a text: the same bytes. -/
import Derived.Test.YthcjnadceambgaaGreatDoorA6
namespace Go.Proofs.YthcjnadceambgaaGreatDoor
open Go.RowKit

/-- The decimal of the number whose bits are b. -/
noncomputable def decT (T : Nat → Int) (b : Nat) : List UInt8 := open Classical in if h : (∀ i, U64 (T i)) ∧ b < 18446744073709551616 then Classical.choose (ftoa64_any T h.1 b h.2) else []
theorem decT_of (T : Nat → Int) (hT : ∀ i, U64 (T i)) (b : Nat) (hb : b < 18446744073709551616) : DecOf T b (decT T b) := by
  unfold decT
  rw [dif_pos ⟨hT, hb⟩]
  exact Classical.choose_spec (ftoa64_any T hT b hb)
theorem decT_len (T : Nat → Int) (b : Nat) : (decT T b).length ≤ 4000 := by
  unfold decT
  split
  · rename_i h
    exact (Classical.choose_spec (ftoa64_any T h.1 b h.2)).1
  · simp

theorem Tabs.lt3 {T : Nat → Int} {w : World} (h : Tabs T w) : 3 < w.heap.size := World.block_lt_of_cell? w _ (h.p10 0 (by omega))
theorem Tabs.lt2 {T : Nat → Int} {w : World} (h : Tabs T w) : 2 < w.heap.size :=
  World.block_lt_of_cell? w _ (h.u10.cell (g := 2) (by kernel_rfl) 0 (by rw [Lib.pow10Tab_length]; omega))

set_option maxRecDepth 100000 in
set_option maxHeartbeats 1000000 in
theorem appendFloat_any (T : Nat → Int) (hT : ∀ i, U64 (T i)) (b : Nat) (hb : b < 18446744073709551616) (base : Nat) (v : Value) (l : List UInt8) (w : World)
    (hown : w.ownsRow base 5 1 v l.length (Bs l)) (hbase : base ≤ w.heap.size) (hl : l.length ≤ 35184372088832) (ht : Tabs T w) (h3 : 3 < base) (h2 : 2 < base) :
    Calls Tryz.prog 125 #[v, .float .f64 b] w (AppEnd 5 base w v (l ++ decT T b)) := by
  have HD := Lib.hid ((decT_of T hT b hb).2 base v l w hown hbase hl ht h3 h2)
  clear hown ht
  go_enter Tryz.func125, Tryz.ntmps125
  go_wp2_with (first
    | (go_at_call 156; refine HD.out.mono ?_; rintro e w' ⟨v', rfl, H⟩)
    | go_in)
  go_ret
  exact ⟨_, rfl, H⟩

set_option maxRecDepth 100000 in
set_option maxHeartbeats 1000000 in
theorem WriteNumber_any (T : Nat → Int) (hT : ∀ i, U64 (T i)) (b : Nat) (hb : b < 18446744073709551616) (w : World) (ht : Tabs T w) :
    Calls Tryz.prog 118 #[.float .f64 b] w fun e w' => e = .returned (.string ⟨(decT T b).toArray⟩) ∧ Below w.heap.size w w' := by
  have h3 := ht.lt3
  have h2 := ht.lt2
  have hg : w.grownBy (w.alloc (.cells (Array.replicate 24 (.int .u8 0)) 5)) none := World.grownBy_alloc w _ none
  have hmade := World.ownsRow_made (base := w.heap.size) (e := 5) (size := 1) w (Array.replicate 24 (.int .u8 0)) 24 (Nat.le_refl _) (by unfold maxLen; omega) (by simp)
  have HD := Lib.hid ((decT_of T hT b hb).2 w.heap.size (.slice (some ⟨w.heap.size, 0, none⟩) 0 24) [] (w.alloc (.cells (Array.replicate 24 (.int .u8 0)) 5)) hmade (by simp) (by simp) (ht.mono hg (by simp) (by simp)) h3 h2)
  have HG := Lib.hid hg
  clear hmade ht hg
  have hmk : ∀ w, (Instr.makeSlice 33 (.int .i64 0) (.int .i64 (max 3 24))).run Tryz.prog w = .ok (.slice (some ⟨w.heap.size, 0, none⟩) 0 24) (w.alloc (.cells (Array.replicate 24 (.int .u8 0)) 5)) := fun _ => by kernel_rfl
  go_enter Tryz.func118, Tryz.ntmps118
  go_wp2_with (first
    | (go_at_call 156; refine HD.out.mono ?_; rintro e w' ⟨v', rfl, H⟩; have hcv := own_str (P := Tryz.prog) Tryz.underlying33 Tryz.underlying5 Tryz.underlying9 H.own)
    | go_in)
  go_ret
  exact ⟨rfl, below_gt (gt_trans HG.out H.grown (.inr (.inr ⟨_, rfl, Nat.le_refl _⟩)))⟩

end Go.Proofs.YthcjnadceambgaaGreatDoor
