/- The digits of a number, written into a row of 32 bytes. -/
import Derived.Test.YthcjnadceambgaaGreatDoorA2
import Derived.Test.YthcjnadceambgaaGreatDoorO
import Derived.Lib.ItoaMem
namespace Go.Proofs.YthcjnadceambgaaGreatDoor
open Go.RowKit Go.Sort Go.Lib

/-- Block b holds the nd decimal digits of u from its beginning on. -/
def Digs (W : World) (b u nd : Nat) : Prop := ∀ t, t < nd → W.cell? ⟨b, t, none⟩ = some (.int .u8 ((dg u (nd - 1 - t)).toNat : Int))
/-- How many of the first k are left when the zeros at their end are cut off. -/
def trimZ (f : Nat → UInt8) : Nat → Nat
  | 0 => 0
  | k + 1 => if f k = 48 then trimZ f k else k + 1
theorem trimZ_le (f : Nat → UInt8) : ∀ k, trimZ f k ≤ k
  | 0 => Nat.le_refl _
  | k + 1 => by
    unfold trimZ
    split
    · exact Nat.le_succ_of_le (trimZ_le f k)
    · exact Nat.le_refl _

theorem digs_put (w : World) (b n v' u : Nat) (d dk : Array UInt8) (hH : Holds (fun (b : UInt8) => Value.int .u8 (b.toNat : Int)) w b 0 d) (h : FmtInv d.size u 0 v' dk) :
    Digs ((putRow (fun (b : UInt8) => Value.int .u8 (b.toNat : Int)) w b 0 dk).drewN n) b u d.size ∧ w.grownBy ((putRow (fun (b : UInt8) => Value.int .u8 (b.toNat : Int)) w b 0 dk).drewN n) (some b) := by
  have hH' := holds_putRow _ w b 0 d dk hH h.size
  refine ⟨fun t ht => ?_, ?_⟩
  · have hc := (hH' t (by rw [h.size]; exact ht)).1
    rw [Nat.zero_add] at hc
    rw [← h.done t (Nat.zero_le _) ht]
    exact hc
  · refine gt_drewN_r ?_ n
    refine ⟨rfl, rfl, rfl, ?_, fun k hk hne => ?_⟩
    · simp [putRow, mapBlock]
    · have : b ≠ k := fun e => hne (by rw [e])
      simp [putRow, mapBlock, Array.getElem?_modify, this]

set_option maxRecDepth 100000 in
set_option maxHeartbeats 1000000 in
theorem setDigits_f (f : Nat → UInt8) (d : Array UInt8) (u b : Nat) (hf : f = fun t => dg u (d.size - 1 - t)) (p : Int) (W : World) (hH : Holds (fun (b : UInt8) => Value.int .u8 (b.toNat : Int)) W b 0 d) (hu : u < 10 ^ d.size) (hu64 : u < 18446744073709551616) (hnd : d.size ≤ 20) (h0 : -400 ≤ p) (h1 : p ≤ 400) :
    Calls Tryz.prog 164 #[.slice (some ⟨b, 0, none⟩) 32 32, .int .u64 u, .int .i64 p, .int .i64 d.size] W fun e W' =>
      e = .returned (.tuple #[.int .i64 (d.size + p), .int .i64 (trimZ f d.size)]) ∧ Digs W' b u d.size ∧ W.grownBy W' (some b) := by
  have HH := Lib.hid hH
  have HU := Lib.hid hu
  have HU6 := Lib.hid hu64
  have HF := Lib.hid hf
  clear hH hu hu64 hf
  go_enter Tryz.func164, Tryz.ntmps164
  go_wp2_with (go_at_call 183; (with_reducible refine (Tryz.internal_strconv_formatBase10 _ _ _ _ _ _ HH.out HU.out HU6.out (by omega)).mono ?_); rintro e W' ⟨rfl, n, v', dk, rfl, hi⟩)
  obtain ⟨hd, hg⟩ := digs_put W b n v' u d dk HH.out hi
  have HD := Lib.hid hd
  have HG := Lib.hid hg
  clear hd hg hi HH HU HU6
  obtain ⟨W1, hW1⟩ : ∃ W1, (putRow (fun (b : UInt8) => Value.int .u8 (b.toNat : Int)) W b 0 dk).drewN n = W1 := ⟨_, rfl⟩
  rw [hW1] at HD HG ⊢
  clear hW1
  have hcell : Hid (∀ t, t < d.size → W1.cell? ⟨b, t, none⟩ = some (.int .u8 ((f t).toNat : Int))) := by rw [HF.out]; exact HD.out
  clear HF
  go_loop [3] (fun k => ∃ j : Nat, j ≤ d.size ∧ k = .int .i64 j ∧ Hid (trimZ f j = trimZ f d.size)) (fun k => (RowKit.intOf k).toNat)
  case atStart => exact ⟨d.size, Nat.le_refl _, rfl, Lib.hid rfl⟩
  case round =>
    obtain ⟨j, hj, rfl, HT⟩ := hrel
    cases j with
    | zero =>
      go_wp2
      go_ret2
      exact ⟨by rw [← HT.out]; rfl, HD.out, HG.out⟩
    | succ i =>
      have hc := hcell.out i (by omega)
      by_cases h48 : f i = 48
      · have hc' : W1.cell? ⟨b, i, none⟩ = some (.int .u8 48) := by rw [hc, h48]; rfl
        clear hc
        have HT' : Hid (trimZ f i = trimZ f d.size) := by rw [← HT.out]; unfold Hid; rw [trimZ, if_pos h48]
        clear h48
        go_wp2
        go_round
        case rel => exact ⟨i, by omega, by go_num, HT'⟩
        case measure => simp [RowKit.intOf]
      · have hne : (((f i).toNat : Int) == 48) = false := by
          simp only [beq_eq_false_iff_ne, ne_eq]
          intro he
          exact h48 (UInt8.toNat_inj.1 (by simpa using (by omega : (f i).toNat = 48)))
        have HT' : Hid (i + 1 = trimZ f d.size) := by rw [← HT.out]; unfold Hid; rw [trimZ, if_neg h48]
        clear h48
        go_wp2
        go_ret2
        exact ⟨by rw [← HT'.out]; go_num, HD.out, HG.out⟩

theorem setDigits_any (d : Array UInt8) (u b : Nat) (p : Int) (W : World) (hH : Holds (fun (b : UInt8) => Value.int .u8 (b.toNat : Int)) W b 0 d) (hu : u < 10 ^ d.size) (hu64 : u < 18446744073709551616) (hnd : d.size ≤ 20) (h0 : -400 ≤ p) (h1 : p ≤ 400) :
    Calls Tryz.prog 164 #[.slice (some ⟨b, 0, none⟩) 32 32, .int .u64 u, .int .i64 p, .int .i64 d.size] W fun e W' =>
      e = .returned (.tuple #[.int .i64 (d.size + p), .int .i64 (trimZ (fun t => dg u (d.size - 1 - t)) d.size)]) ∧ Digs W' b u d.size ∧ W.grownBy W' (some b) :=
  setDigits_f _ d u b rfl p W hH hu hu64 hnd h0 h1

/-- The nd digits of u, the first one first. -/
def digF (u nd : Nat) : Nat → UInt8 := fun t => dg u (nd - 1 - t)

theorem setDigits_nd (u nd b : Nat) (p : Int) (W : World) (hz : ∀ t, t < 32 → W.cell? ⟨b, t, none⟩ = some (.int .u8 0) ∧ W.frozen? ⟨b, t, none⟩ = false) (hu : u < 10 ^ nd) (hu64 : u < 18446744073709551616) (hnd : nd ≤ 20) (h0 : -400 ≤ p) (h1 : p ≤ 400) :
    Calls Tryz.prog 164 #[.slice (some ⟨b, 0, none⟩) 32 32, .int .u64 u, .int .i64 p, .int .i64 nd] W fun e W' =>
      e = .returned (.tuple #[.int .i64 (nd + p), .int .i64 (trimZ (digF u nd) nd)]) ∧ (∀ t, t < nd → W'.cell? ⟨b, t, none⟩ = some (.int .u8 ((digF u nd t).toNat : Int))) ∧ W.grownBy W' (some b) := by
  have hs : (Array.replicate nd (0 : UInt8)).size = nd := Array.size_replicate
  have h := setDigits_any (Array.replicate nd 0) u b p W (fun j hj => by
    rw [hs] at hj
    have := hz j (by omega)
    rw [Nat.zero_add, getElem!_pos _ j (by rw [hs]; exact hj), Array.getElem_replicate]
    exact this) (by rw [hs]; exact hu) hu64 (by rw [hs]; exact hnd) h0 h1
  rw [hs] at h
  exact h

end Go.Proofs.YthcjnadceambgaaGreatDoor
