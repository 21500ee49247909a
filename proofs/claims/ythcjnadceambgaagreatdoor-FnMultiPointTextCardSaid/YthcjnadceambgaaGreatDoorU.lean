/- The reference's numbers of places, and its place in GeoJSON. -/
import Derived.Test.YthcjnadceambgaaGreatDoorS
import Derived.Test.YthcjnadceambgaaGreatDoorJ
namespace Go.Proofs.YthcjnadceambgaaGreatDoor
open Go.RowKit

/-- Places in memory. -/
structure PRow (W : World) (p : Option Addr) (n : Nat) (X Y Z M : Nat → Nat) : Prop where
  some_ : 0 < n → ∃ a, p = some a
  at_ : ∀ a, p = some a → ∀ i, i < n → W.cell? (a.add (i * 4)) = some (.float .f64 (X i)) ∧ W.cell? ⟨(a.add (i * 4)).block, (a.add (i * 4)).off + 1, none⟩ = some (.float .f64 (Y i)) ∧
    W.cell? ⟨(a.add (i * 4)).block, (a.add (i * 4)).off + 2, none⟩ = some (.float .f64 (Z i)) ∧ W.cell? ⟨(a.add (i * 4)).block, (a.add (i * 4)).off + 3, none⟩ = some (.float .f64 (M i))
theorem PRow.mono {W W' : World} {p : Option Addr} {n : Nat} {X Y Z M : Nat → Nat} (h : PRow W p n X Y Z M) (hg : W.grownBy W' none) : PRow W' p n X Y Z M :=
  ⟨h.some_, fun a ha i hi => by obtain ⟨h0, h1, h2, h3⟩ := h.at_ a ha i hi; exact ⟨hg.cell h0 (by simp), hg.cell h1 (by simp), hg.cell h2 (by simp), hg.cell h3 (by simp)⟩⟩

def nTo (r : Nat) (X Y Z M : Nat → Nat) : Nat → List Value
  | 0 => []
  | k + 1 => nTo r X Y Z M k ++ [.float .f64 (X k), .float .f64 (Y k)] ++ (if r % 2 = 1 then [.float .f64 (Z k)] else []) ++ (if r / 2 = 1 then [.float .f64 (M k)] else [])
theorem infoF : (Tryz.prog.info? 60).map (fun i => (i.zero, i.size, i.bytes)) = some (some (.float .f64 0), 1, 8) := by kernel_rfl

set_option maxRecDepth 100000 in
set_option maxHeartbeats 2000000 in
theorem Nums_0 (p : Option Addr) (n cap : Nat) (X Y Z M : Nat → Nat) (hn : n ≤ 100000) (W : World) (hp : PRow W p n X Y Z M) :
    Calls Tryz.prog 60 #[.slice p n cap, .int .i64 0] W fun e w' => ∃ v, e = .returned v ∧ AppV 60 1 W.heap.size W (.slice none 0 0) w' v (n * 2) (nTo 0 X Y Z M n) := by
  have hsf := run_store_flt Tryz.prog
  have HP := Lib.hid hp
  have HN : Hid (∀ k, nTo 0 X Y Z M (k + 1) = nTo 0 X Y Z M k ++ [.float .f64 (X k), .float .f64 (Y k)] ++ [] ++ []) := fun k => rfl
  clear hp
  go_enter Tryz.func60, Tryz.ntmps60
  go_wp2_with fail
  go_loopw [5, 10] (fun x i wr => ∃ k : Nat, k ≤ n ∧ i = .int .i64 k ∧ AppV 60 1 W.heap.size W (.slice none 0 0) wr x (k * 2) (nTo 0 X Y Z M k)) (fun _ i _ => n - (intOf i).toNat)
  case atStart => exact ⟨0, by omega, rfl, by simpa [nTo] using AppV.nil W 60 1 W.heap.size⟩
  case round =>
    obtain ⟨k, hk, rfl, H0⟩ := hrel
    rename World => wr
    by_cases hkn : k < n
    · obtain ⟨a, rfl⟩ := HP.out.some_ (by omega)
      obtain ⟨q0, q1, q2, q3⟩ := (HP.out.mono H0.grown0).at_ a rfl k hkn
      have H := AppV.start (H0.own.alloc (.cells #[.float .f64 (X k), .float .f64 (Y k), .float .f64 (Z k), .float .f64 (M k)] 92))
      have hlt := H0.own.lt
      have hnb : u5.ownBlock ≠ some wr.heap.size := fun e => by have := hlt _ e; omega
      have HC : Hid (∀ W' v' n' l', AppV 60 1 W.heap.size (wr.alloc (.cells #[.float .f64 (X k), .float .f64 (Y k), .float .f64 (Z k), .float .f64 (M k)] 92)) u5 W' v' n' l' → W'.cell? ⟨wr.heap.size, 2, none⟩ = some (.float .f64 (Z k)) ∧ W'.cell? ⟨wr.heap.size, 3, none⟩ = some (.float .f64 (M k))) := by
        intro W' v' n' l' h
        refine ⟨?_, ?_⟩ <;> (rw [h.cell (by simp) hnb]; simp)
      have hbase : W.heap.size ≤ (wr.alloc (.cells #[.float .f64 (X k), .float .f64 (Y k), .float .f64 (Z k), .float .f64 (M k)] 92)).heap.size := by have := H0.grown0.size; simp; omega
      have HF : Hid (∀ W' v' n' l', AppV 60 1 W.heap.size (wr.alloc (.cells #[.float .f64 (X k), .float .f64 (Y k), .float .f64 (Z k), .float .f64 (M k)] 92)) u5 W' v' n' l' → AppV 60 1 W.heap.size W (.slice none 0 0) W' v' n' l') := fun W' v' n' l' h => (H0.beside (World.grownBy_alloc wr _ none)).trans h
      clear hlt hnb H0
      go_wp2_with (first
        | (at_builtin; refine app_cells rfl _ _ _ rfl Tryz.underlying22 (.float .f64 0) 8 infoF rfl (by omega) H rfl rfl (by first | rfl | simp) _ (by first | rfl | simp) (by simp [Value.oneCell']) hbase (by omega) (by omega) ?_; intro v1 w1 H1; clear H; have H := H1; clear H1; clear q2 q3; obtain ⟨q2, q3⟩ := HC.out _ _ _ _ H))
      refine ⟨⟨k + 1, by omega, by go_num, ?_⟩, by simp [intOf]; omega⟩
      have H2 := HF.out _ _ _ _ H
      rw [HN.out k, show (k + 1) * 2 = k * 2 + 2 by omega]
      simpa [List.append_assoc, Nat.add_assoc] using H2
    · obtain rfl : k = n := by omega
      go_wp2_with fail
      go_wp2_with fail
      go_ret
      exact ⟨_, rfl, H0⟩

set_option maxRecDepth 100000 in
set_option maxHeartbeats 2000000 in
theorem Nums_1 (p : Option Addr) (n cap : Nat) (X Y Z M : Nat → Nat) (hn : n ≤ 100000) (W : World) (hp : PRow W p n X Y Z M) :
    Calls Tryz.prog 60 #[.slice p n cap, .int .i64 1] W fun e w' => ∃ v, e = .returned v ∧ AppV 60 1 W.heap.size W (.slice none 0 0) w' v (n * 3) (nTo 1 X Y Z M n) := by
  have hsf := run_store_flt Tryz.prog
  have HP := Lib.hid hp
  have HN : Hid (∀ k, nTo 1 X Y Z M (k + 1) = nTo 1 X Y Z M k ++ [.float .f64 (X k), .float .f64 (Y k)] ++ [.float .f64 (Z k)] ++ []) := fun k => rfl
  clear hp
  go_enter Tryz.func60, Tryz.ntmps60
  go_wp2_with fail
  go_loopw [5, 10] (fun x i wr => ∃ k : Nat, k ≤ n ∧ i = .int .i64 k ∧ AppV 60 1 W.heap.size W (.slice none 0 0) wr x (k * 3) (nTo 1 X Y Z M k)) (fun _ i _ => n - (intOf i).toNat)
  case atStart => exact ⟨0, by omega, rfl, by simpa [nTo] using AppV.nil W 60 1 W.heap.size⟩
  case round =>
    obtain ⟨k, hk, rfl, H0⟩ := hrel
    rename World => wr
    by_cases hkn : k < n
    · obtain ⟨a, rfl⟩ := HP.out.some_ (by omega)
      obtain ⟨q0, q1, q2, q3⟩ := (HP.out.mono H0.grown0).at_ a rfl k hkn
      have H := AppV.start (H0.own.alloc (.cells #[.float .f64 (X k), .float .f64 (Y k), .float .f64 (Z k), .float .f64 (M k)] 92))
      have hlt := H0.own.lt
      have hnb : u5.ownBlock ≠ some wr.heap.size := fun e => by have := hlt _ e; omega
      have HC : Hid (∀ W' v' n' l', AppV 60 1 W.heap.size (wr.alloc (.cells #[.float .f64 (X k), .float .f64 (Y k), .float .f64 (Z k), .float .f64 (M k)] 92)) u5 W' v' n' l' → W'.cell? ⟨wr.heap.size, 2, none⟩ = some (.float .f64 (Z k)) ∧ W'.cell? ⟨wr.heap.size, 3, none⟩ = some (.float .f64 (M k))) := by
        intro W' v' n' l' h
        refine ⟨?_, ?_⟩ <;> (rw [h.cell (by simp) hnb]; simp)
      have hbase : W.heap.size ≤ (wr.alloc (.cells #[.float .f64 (X k), .float .f64 (Y k), .float .f64 (Z k), .float .f64 (M k)] 92)).heap.size := by have := H0.grown0.size; simp; omega
      have HF : Hid (∀ W' v' n' l', AppV 60 1 W.heap.size (wr.alloc (.cells #[.float .f64 (X k), .float .f64 (Y k), .float .f64 (Z k), .float .f64 (M k)] 92)) u5 W' v' n' l' → AppV 60 1 W.heap.size W (.slice none 0 0) W' v' n' l') := fun W' v' n' l' h => (H0.beside (World.grownBy_alloc wr _ none)).trans h
      clear hlt hnb H0
      go_wp2_with (first
        | (at_builtin; refine app_cells rfl _ _ _ rfl Tryz.underlying22 (.float .f64 0) 8 infoF rfl (by omega) H rfl rfl (by first | rfl | simp) _ (by first | rfl | simp) (by simp [Value.oneCell']) hbase (by omega) (by omega) ?_; intro v1 w1 H1; clear H; have H := H1; clear H1; clear q2 q3; obtain ⟨q2, q3⟩ := HC.out _ _ _ _ H))
      refine ⟨⟨k + 1, by omega, by go_num, ?_⟩, by simp [intOf]; omega⟩
      have H2 := HF.out _ _ _ _ H
      rw [HN.out k, show (k + 1) * 3 = k * 3 + 3 by omega]
      simpa [List.append_assoc, Nat.add_assoc] using H2
    · obtain rfl : k = n := by omega
      go_wp2_with fail
      go_wp2_with fail
      go_ret
      exact ⟨_, rfl, H0⟩

set_option maxRecDepth 100000 in
set_option maxHeartbeats 2000000 in
theorem Nums_2 (p : Option Addr) (n cap : Nat) (X Y Z M : Nat → Nat) (hn : n ≤ 100000) (W : World) (hp : PRow W p n X Y Z M) :
    Calls Tryz.prog 60 #[.slice p n cap, .int .i64 2] W fun e w' => ∃ v, e = .returned v ∧ AppV 60 1 W.heap.size W (.slice none 0 0) w' v (n * 3) (nTo 2 X Y Z M n) := by
  have hsf := run_store_flt Tryz.prog
  have HP := Lib.hid hp
  have HN : Hid (∀ k, nTo 2 X Y Z M (k + 1) = nTo 2 X Y Z M k ++ [.float .f64 (X k), .float .f64 (Y k)] ++ [] ++ [.float .f64 (M k)]) := fun k => rfl
  clear hp
  go_enter Tryz.func60, Tryz.ntmps60
  go_wp2_with fail
  go_loopw [5, 10] (fun x i wr => ∃ k : Nat, k ≤ n ∧ i = .int .i64 k ∧ AppV 60 1 W.heap.size W (.slice none 0 0) wr x (k * 3) (nTo 2 X Y Z M k)) (fun _ i _ => n - (intOf i).toNat)
  case atStart => exact ⟨0, by omega, rfl, by simpa [nTo] using AppV.nil W 60 1 W.heap.size⟩
  case round =>
    obtain ⟨k, hk, rfl, H0⟩ := hrel
    rename World => wr
    by_cases hkn : k < n
    · obtain ⟨a, rfl⟩ := HP.out.some_ (by omega)
      obtain ⟨q0, q1, q2, q3⟩ := (HP.out.mono H0.grown0).at_ a rfl k hkn
      have H := AppV.start (H0.own.alloc (.cells #[.float .f64 (X k), .float .f64 (Y k), .float .f64 (Z k), .float .f64 (M k)] 92))
      have hlt := H0.own.lt
      have hnb : u5.ownBlock ≠ some wr.heap.size := fun e => by have := hlt _ e; omega
      have HC : Hid (∀ W' v' n' l', AppV 60 1 W.heap.size (wr.alloc (.cells #[.float .f64 (X k), .float .f64 (Y k), .float .f64 (Z k), .float .f64 (M k)] 92)) u5 W' v' n' l' → W'.cell? ⟨wr.heap.size, 2, none⟩ = some (.float .f64 (Z k)) ∧ W'.cell? ⟨wr.heap.size, 3, none⟩ = some (.float .f64 (M k))) := by
        intro W' v' n' l' h
        refine ⟨?_, ?_⟩ <;> (rw [h.cell (by simp) hnb]; simp)
      have hbase : W.heap.size ≤ (wr.alloc (.cells #[.float .f64 (X k), .float .f64 (Y k), .float .f64 (Z k), .float .f64 (M k)] 92)).heap.size := by have := H0.grown0.size; simp; omega
      have HF : Hid (∀ W' v' n' l', AppV 60 1 W.heap.size (wr.alloc (.cells #[.float .f64 (X k), .float .f64 (Y k), .float .f64 (Z k), .float .f64 (M k)] 92)) u5 W' v' n' l' → AppV 60 1 W.heap.size W (.slice none 0 0) W' v' n' l') := fun W' v' n' l' h => (H0.beside (World.grownBy_alloc wr _ none)).trans h
      clear hlt hnb H0
      go_wp2_with (first
        | (at_builtin; refine app_cells rfl _ _ _ rfl Tryz.underlying22 (.float .f64 0) 8 infoF rfl (by omega) H rfl rfl (by first | rfl | simp) _ (by first | rfl | simp) (by simp [Value.oneCell']) hbase (by omega) (by omega) ?_; intro v1 w1 H1; clear H; have H := H1; clear H1; clear q2 q3; obtain ⟨q2, q3⟩ := HC.out _ _ _ _ H))
      refine ⟨⟨k + 1, by omega, by go_num, ?_⟩, by simp [intOf]; omega⟩
      have H2 := HF.out _ _ _ _ H
      rw [HN.out k, show (k + 1) * 3 = k * 3 + 3 by omega]
      simpa [List.append_assoc, Nat.add_assoc] using H2
    · obtain rfl : k = n := by omega
      go_wp2_with fail
      go_wp2_with fail
      go_ret
      exact ⟨_, rfl, H0⟩

set_option maxRecDepth 100000 in
set_option maxHeartbeats 2000000 in
theorem Nums_3 (p : Option Addr) (n cap : Nat) (X Y Z M : Nat → Nat) (hn : n ≤ 100000) (W : World) (hp : PRow W p n X Y Z M) :
    Calls Tryz.prog 60 #[.slice p n cap, .int .i64 3] W fun e w' => ∃ v, e = .returned v ∧ AppV 60 1 W.heap.size W (.slice none 0 0) w' v (n * 4) (nTo 3 X Y Z M n) := by
  have hsf := run_store_flt Tryz.prog
  have HP := Lib.hid hp
  have HN : Hid (∀ k, nTo 3 X Y Z M (k + 1) = nTo 3 X Y Z M k ++ [.float .f64 (X k), .float .f64 (Y k)] ++ [.float .f64 (Z k)] ++ [.float .f64 (M k)]) := fun k => rfl
  clear hp
  go_enter Tryz.func60, Tryz.ntmps60
  go_wp2_with fail
  go_loopw [5, 10] (fun x i wr => ∃ k : Nat, k ≤ n ∧ i = .int .i64 k ∧ AppV 60 1 W.heap.size W (.slice none 0 0) wr x (k * 4) (nTo 3 X Y Z M k)) (fun _ i _ => n - (intOf i).toNat)
  case atStart => exact ⟨0, by omega, rfl, by simpa [nTo] using AppV.nil W 60 1 W.heap.size⟩
  case round =>
    obtain ⟨k, hk, rfl, H0⟩ := hrel
    rename World => wr
    by_cases hkn : k < n
    · obtain ⟨a, rfl⟩ := HP.out.some_ (by omega)
      obtain ⟨q0, q1, q2, q3⟩ := (HP.out.mono H0.grown0).at_ a rfl k hkn
      have H := AppV.start (H0.own.alloc (.cells #[.float .f64 (X k), .float .f64 (Y k), .float .f64 (Z k), .float .f64 (M k)] 92))
      have hlt := H0.own.lt
      have hnb : u5.ownBlock ≠ some wr.heap.size := fun e => by have := hlt _ e; omega
      have HC : Hid (∀ W' v' n' l', AppV 60 1 W.heap.size (wr.alloc (.cells #[.float .f64 (X k), .float .f64 (Y k), .float .f64 (Z k), .float .f64 (M k)] 92)) u5 W' v' n' l' → W'.cell? ⟨wr.heap.size, 2, none⟩ = some (.float .f64 (Z k)) ∧ W'.cell? ⟨wr.heap.size, 3, none⟩ = some (.float .f64 (M k))) := by
        intro W' v' n' l' h
        refine ⟨?_, ?_⟩ <;> (rw [h.cell (by simp) hnb]; simp)
      have hbase : W.heap.size ≤ (wr.alloc (.cells #[.float .f64 (X k), .float .f64 (Y k), .float .f64 (Z k), .float .f64 (M k)] 92)).heap.size := by have := H0.grown0.size; simp; omega
      have HF : Hid (∀ W' v' n' l', AppV 60 1 W.heap.size (wr.alloc (.cells #[.float .f64 (X k), .float .f64 (Y k), .float .f64 (Z k), .float .f64 (M k)] 92)) u5 W' v' n' l' → AppV 60 1 W.heap.size W (.slice none 0 0) W' v' n' l') := fun W' v' n' l' h => (H0.beside (World.grownBy_alloc wr _ none)).trans h
      clear hlt hnb H0
      go_wp2_with (first
        | (at_builtin; refine app_cells rfl _ _ _ rfl Tryz.underlying22 (.float .f64 0) 8 infoF rfl (by omega) H rfl rfl (by first | rfl | simp) _ (by first | rfl | simp) (by simp [Value.oneCell']) hbase (by omega) (by omega) ?_; intro v1 w1 H1; clear H; have H := H1; clear H1; clear q2 q3; obtain ⟨q2, q3⟩ := HC.out _ _ _ _ H))
      refine ⟨⟨k + 1, by omega, by go_num, ?_⟩, by simp [intOf]; omega⟩
      have H2 := HF.out _ _ _ _ H
      rw [HN.out k, show (k + 1) * 4 = k * 4 + 4 by omega]
      simpa [List.append_assoc, Nat.add_assoc] using H2
    · obtain rfl : k = n := by omega
      go_wp2_with fail
      go_wp2_with fail
      go_ret
      exact ⟨_, rfl, H0⟩

end Go.Proofs.YthcjnadceambgaaGreatDoor
