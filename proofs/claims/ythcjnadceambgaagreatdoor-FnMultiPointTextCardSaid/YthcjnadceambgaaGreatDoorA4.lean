/- The layout of a decimal without an exponent: bytes that depend on the sign, the digits and the places alone. -/
import Derived.Test.YthcjnadceambgaaGreatDoorA3
import Derived.Deep.DeepCutAuto
namespace Go.Proofs.YthcjnadceambgaaGreatDoor
open Go.RowKit

abbrev eB : Nat := 5
theorem infoB : (Tryz.prog.info? 5).map (fun i => (i.zero, i.size, i.bytes)) = some (some (.int .u8 0), 1, 1) := by kernel_rfl

def fSign (neg : Bool) : List UInt8 := if neg then [45] else []
theorem fSign_len (neg : Bool) : (fSign neg).length ≤ 1 := by cases neg <;> decide
/-- The whole part: digits, then zeros. -/
def fInt (f : Nat → UInt8) (dp : Int) (nd : Nat) : List UInt8 :=
  if 0 < dp then (List.range (min nd dp.toNat)).map f ++ List.replicate (dp.toNat - min nd dp.toNat) 48 else [48]
theorem fInt_len (f : Nat → UInt8) (dp : Int) (nd : Nat) (h : dp ≤ 500) : (fInt f dp nd).length ≤ 500 := by
  unfold fInt
  split
  · simp; omega
  · simp
/-- The part behind the point: zeros, digits, zeros. -/
def fFrac (f : Nat → UInt8) (dp prec : Int) (nd : Nat) : List UInt8 :=
  if 0 < prec then [46] ++ List.replicate (min prec (max 0 (-dp))).toNat 48
      ++ (List.range (min (prec - min prec (max 0 (-dp))) (max 0 ((nd : Int) - (dp + min prec (max 0 (-dp)))))).toNat).map (fun i : Nat => f ((dp + min prec (max 0 (-dp))) + (i : Int)).toNat)
      ++ List.replicate (max 0 (prec - min prec (max 0 (-dp)) - min (prec - min prec (max 0 (-dp))) (max 0 ((nd : Int) - (dp + min prec (max 0 (-dp))))))).toNat 48
  else []

set_option maxRecDepth 100000 in
set_option maxHeartbeats 2000000 in
theorem fmtF_any (f : Nat → UInt8) (base b : Nat) (v : Value) (l : List UInt8) (neg : Bool) (dp prec : Int) (nd : Nat) (w : World)
    (hown : w.ownsRow base 5 1 v l.length (Bs l)) (hbase : base ≤ w.heap.size) (hl : l.length ≤ 70368744177664)
    (hcell : ∀ t, t < nd → w.cell? ⟨b, t, none⟩ = some (.int .u8 ((f t).toNat : Int))) (hb : b < w.heap.size) (hne : v.ownBlock ≠ some b)
    (hnd : nd ≤ 20) (hd0 : -500 ≤ dp) (hd1 : dp ≤ 500) (hp0 : -1 ≤ prec) (hp1 : prec ≤ 1000) :
    Calls Tryz.prog 161 #[v, .bool neg, .slice (some ⟨b, 0, none⟩) 32 32, .int .i64 dp, .int .i64 nd, .int .i64 prec, .int .u8 102, .bool true] w
      (AppEnd 5 base w v (l ++ fSign neg ++ fInt f dp nd ++ fFrac f dp prec nd)) := by
  have HC := Lib.hid hcell
  have HN := Lib.hid hne
  have HO := AppB.start hown
  clear hcell hne hown
  have hs1 := fSign_len neg
  have hi1 := fInt_len f dp nd hd1
  have HS1 := Lib.hid hs1
  have HI1 := Lib.hid hi1
  clear hs1 hi1
  go_enter Tryz.func161, Tryz.ntmps161
  go_upto_if 178 with fail
  go_cut [0] (fun v1 w1 => AppB 5 base w v w1 v1 (l ++ fSign neg))
  case first =>
    cases neg
    · go_wp2_with fail
      go_meet
      simpa [fSign] using HO
    · go_wp2_with (at_builtin; refine app_byte rfl _ _ _ rfl Tryz.underlying33 infoB HO rfl _ 45 rfl rfl (by first | rfl | simp) hbase (by omega) ?_; intro v1 w1 H1)
      go_meet
      simpa [fSign] using H1
  case rest =>
    go_upto_if 183 with fail
    go_cut [0] (fun v1 w1 => AppB 5 base w v w1 v1 (l ++ fSign neg ++ fInt f dp nd))
    case first =>
      by_cases hdp : 0 < dp
      · obtain ⟨m, hmn, hm20, hmd, hmin⟩ : ∃ m : Nat, m = min nd dp.toNat ∧ m ≤ 20 ∧ (m : Int) ≤ dp ∧ min (nd : Int) dp = (m : Int) := ⟨min nd dp.toNat, rfl, by omega, by omega, by omega⟩
        have HM := Lib.hid hmn
        clear hmn
        have hmx : max (m : Int) 0 = (m : Int) := by omega
        have hdB : decide (0 < dp) = true := by simpa using hdp
        rw [hdB]
        go_wp2_with fail
        go_loopw [0, 191] (fun x i wr => ∃ k : Nat, k ≤ m ∧ i = .int .i64 k ∧ AppB 5 base w v wr x (l ++ fSign neg ++ (List.range k).map f)) (fun _ i _ => m - (intOf i).toNat)
        case atStart => exact ⟨0, by omega, rfl, by simpa using hcut⟩
        case round =>
          obtain ⟨k, hk, rfl, H⟩ := hrel
          by_cases hlt : k < m
          · rename World => wr
            have hc := (H.cell (a := ⟨b, k, none⟩) hb HN.out).trans (HC.out k (by omega))
            go_wp2_with (at_builtin; refine app_byte rfl _ _ _ rfl Tryz.underlying33 infoB H rfl _ (f k) rfl rfl (by first | rfl | simp) hbase (by have := HS1.out; simp only [List.length_append, List.length_map, List.length_range, List.length_replicate]; omega) ?_; intro v1 w1 H1)
            go_roundw
            case rel => exact ⟨k + 1, by omega, by go_num, by rw [List.range_succ, List.map_append, ← List.append_assoc]; exact H1⟩
            case measure => simp [intOf]; omega
          · obtain rfl : k = m := by omega
            obtain ⟨n, hn⟩ : ∃ n : Nat, dp - (k : Int) = (n : Int) := ⟨(dp - k).toNat, by omega⟩
            have hn5 : n ≤ 500 := by omega
            have HNN : Hid (n = dp.toNat - min nd dp.toNat) := by have := HM.out; unfold Hid; omega
            go_wp2_with fail
            go_loopw [0, 203] (fun x i wr => ∃ j : Nat, j ≤ n ∧ i = .int .i64 j ∧ AppB 5 base w v wr x (l ++ fSign neg ++ (List.range k).map f ++ List.replicate j 48)) (fun _ i _ => n - (intOf i).toNat)
            case atStart => exact ⟨0, by omega, rfl, by simpa using H⟩
            case round =>
              clear H
              obtain ⟨j, hj, rfl, H⟩ := hrel
              by_cases hlt : j < n
              · go_wp2_with (at_builtin; refine app_byte rfl _ _ _ rfl Tryz.underlying33 infoB H rfl _ 48 rfl rfl (by first | rfl | simp) hbase (by have := HS1.out; have := HI1.out; simp only [List.length_append, List.length_map, List.length_range, List.length_replicate, List.length_cons, List.length_nil]; omega) ?_; intro v1 w1 H1)
                go_roundw
                case rel => exact ⟨j + 1, by omega, by go_num, by rw [List.replicate_succ', ← List.append_assoc]; exact H1⟩
                case measure => simp [intOf]; omega
              · obtain rfl : j = n := by omega
                go_wp2_with fail
                go_meet
                have e : fInt f dp nd = (List.range k).map f ++ List.replicate j 48 := by unfold fInt; rw [if_pos hdp, ← HM.out, HNN.out, ← HM.out]
                rw [e, ← List.append_assoc]
                exact H
      · have hdB : decide (0 < dp) = false := by simpa using hdp
        rw [hdB]
        go_wp2_with (at_builtin; refine app_byte rfl _ _ _ rfl Tryz.underlying33 infoB hcut rfl _ 48 rfl rfl (by first | rfl | simp) hbase (by have := HS1.out; have := HI1.out; simp only [List.length_append, List.length_map, List.length_range, List.length_replicate, List.length_cons, List.length_nil]; omega) ?_; intro v1 w1 H1)
        go_meet
        have e : fInt f dp nd = [48] := by unfold fInt; rw [if_neg (by omega)]
        rw [e]
        exact H1
    case rest =>
      by_cases hp : 0 < prec
      · have hpB : decide (0 < prec) = true := by simpa using hp
        have htg : ∃ lz mm tz : Nat, (min prec (max 0 (-dp)) = (lz : Int)) ∧ (min (prec - (lz : Int)) (max 0 ((nd : Int) - (dp + (lz : Int)))) = (mm : Int)) ∧ (max 0 (prec - (lz : Int) - (mm : Int)) = (tz : Int)) :=
          ⟨(min prec (max 0 (-dp))).toNat, (min (prec - ((min prec (max 0 (-dp))).toNat : Int)) (max 0 ((nd : Int) - (dp + ((min prec (max 0 (-dp))).toNat : Int))))).toNat, (max 0 (prec - ((min prec (max 0 (-dp))).toNat : Int) - ((min (prec - ((min prec (max 0 (-dp))).toNat : Int)) (max 0 ((nd : Int) - (dp + ((min prec (max 0 (-dp))).toNat : Int))))).toNat : Int))).toNat, by omega, by omega, by omega⟩
        obtain ⟨lz, mm, tz, hlz, hmm, htz⟩ := htg
        have HOFF : Hid (∀ k : Nat, k < mm → 0 ≤ dp + (lz : Int) + (k : Int) ∧ dp + (lz : Int) + (k : Int) < nd) := by unfold Hid; intro k hk; omega
        have HE : Hid (fFrac f dp prec nd = [46] ++ List.replicate lz 48 ++ (List.range mm).map (fun i : Nat => f (dp + lz + i).toNat) ++ List.replicate tz 48) := by
          unfold Hid fFrac
          rw [if_pos hp, hlz, hmm, htz]
          simp only [Int.toNat_natCast]
        have hb1 : lz ≤ 1000 := by omega
        have hb2 : mm ≤ 1000 := by omega
        have hb3 : tz ≤ 1000 := by omega
        go_wp2_with (at_builtin; refine app_byte rfl _ _ _ rfl Tryz.underlying33 infoB hcut rfl _ 46 rfl rfl (by first | rfl | simp) hbase (by have := HS1.out; have := HI1.out; simp only [List.length_append, List.length_map, List.length_range, List.length_replicate, List.length_cons, List.length_nil]; omega) ?_; intro v1 w1 H1)
        go_loopw [0, 240] (fun x i wr => ∃ a : Nat, a ≤ lz ∧ i = .int .i64 a ∧ AppB 5 base w v wr x (l ++ fSign neg ++ fInt f dp nd ++ [46] ++ List.replicate a 48)) (fun _ i _ => lz - (intOf i).toNat)
        case atStart => exact ⟨0, by omega, rfl, by simpa using H1⟩
        case round =>
          clear H1
          obtain ⟨a, hk, rfl, H⟩ := hrel
          by_cases hlt : a < lz
          · go_wp2_with (at_builtin; refine app_byte rfl _ _ _ rfl Tryz.underlying33 infoB H rfl _ 48 rfl rfl (by first | rfl | simp) hbase (by have := HS1.out; have := HI1.out; simp only [List.length_append, List.length_map, List.length_range, List.length_replicate, List.length_cons, List.length_nil]; omega) ?_; intro v1 w1 H1)
            go_roundw
            case rel => exact ⟨a + 1, by omega, by go_num, by rw [List.replicate_succ', ← List.append_assoc]; exact H1⟩
            case measure => simp [intOf]; omega
          · have ek : a = lz := by omega
            subst ek
            go_wp2_with fail
            go_loopw [0, 247] (fun x i wr => ∃ k : Nat, k ≤ mm ∧ i = .int .i64 k ∧ AppB 5 base w v wr x (l ++ fSign neg ++ fInt f dp nd ++ [46] ++ List.replicate a 48 ++ (List.range k).map (fun i : Nat => f (dp + a + i).toNat))) (fun _ i _ => mm - (intOf i).toNat)
            case atStart => exact ⟨0, by omega, rfl, by simpa using H⟩
            case round =>
              clear H
              obtain ⟨k, hk, rfl, H⟩ := hrel
              by_cases hlt : k < mm
              · rename World => wr
                obtain ⟨hoa, hob⟩ := HOFF.out k hlt
                have hc := (H.cell (a := ⟨b, (dp + a + k).toNat, none⟩) hb HN.out).trans (HC.out (dp + a + k).toNat (by omega))
                go_wp2_with (at_builtin; refine app_byte rfl _ _ _ rfl Tryz.underlying33 infoB H rfl _ (f (dp + a + k).toNat) rfl rfl (by first | rfl | simp) hbase (by have := HS1.out; have := HI1.out; simp only [List.length_append, List.length_map, List.length_range, List.length_replicate, List.length_cons, List.length_nil]; omega) ?_; intro v1 w1 H1)
                go_roundw
                case rel => exact ⟨k + 1, by omega, by go_num, by rw [List.range_succ, List.map_append, ← List.append_assoc]; exact H1⟩
                case measure => simp [intOf]; omega
              · have ek : k = mm := by omega
                subst ek
                clear HOFF
                go_wp2_with fail
                go_loopw [0, 261] (fun x i wr => ∃ c : Nat, c ≤ tz ∧ i = .int .i64 c ∧ AppB 5 base w v wr x (l ++ fSign neg ++ fInt f dp nd ++ [46] ++ List.replicate a 48 ++ (List.range k).map (fun i : Nat => f (dp + a + i).toNat) ++ List.replicate c 48)) (fun _ i _ => tz - (intOf i).toNat)
                case atStart => exact ⟨0, by omega, rfl, by simpa using H⟩
                case round =>
                  clear H
                  obtain ⟨c, hk, rfl, H⟩ := hrel
                  by_cases hlt : c < tz
                  · go_wp2_with (at_builtin; refine app_byte rfl _ _ _ rfl Tryz.underlying33 infoB H rfl _ 48 rfl rfl (by first | rfl | simp) hbase (by have := HS1.out; have := HI1.out; simp only [List.length_append, List.length_map, List.length_range, List.length_replicate, List.length_cons, List.length_nil]; omega) ?_; intro v1 w1 H1)
                    go_roundw
                    case rel => exact ⟨c + 1, by omega, by go_num, by rw [List.replicate_succ', ← List.append_assoc]; exact H1⟩
                    case measure => simp [intOf]; omega
                  · have ek : c = tz := by omega
                    subst ek
                    go_wp2_with fail
                    go_ret
                    have e := HE.out
                    exact ⟨_, rfl, by simpa [e] using H⟩
      · have hpB : decide (0 < prec) = false := by simpa using hp
        go_wp2_with fail
        go_ret
        have e : fFrac f dp prec nd = [] := by unfold fFrac; rw [if_neg (by omega)]
        exact ⟨_, rfl, by simpa [e] using hcut⟩

end Go.Proofs.YthcjnadceambgaaGreatDoor
