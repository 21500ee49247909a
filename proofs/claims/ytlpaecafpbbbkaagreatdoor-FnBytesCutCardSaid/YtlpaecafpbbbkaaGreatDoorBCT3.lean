/- The reference's numbers of places, and its place in GeoJSON. The reference's place in GeoJSON: the same text as the package's. Rows of geometries that a call appends to. An append of new elements, as one step of a region that draws its order. Geometries of plain data under construction: their block, their numbers and their parts, which grow. The reference's writer of well known binary: its state, and a number of n bytes. -/
import Derived.Deep.RegionLaw
import Derived.Test.YtlpaecafpbbbkaaGreatDoorBCT1
import Derived.Test.YtlpaecafpbbbkaaGreatDoorBCT2
set_option linter.unusedVariables false
set_option linter.unusedSimpArgs false
namespace Go.Proofs.YtlpaecafpbbbkaaGreatDoor
open Go.RowKit

/-- Places in memory. -/
structure PRow (W : World) (p : Option Addr) (n : Nat) (X Y Z M : Nat → Nat) : Prop where
  some_ : 0 < n → ∃ a, p = some a
  at_ : ∀ a, p = some a → ∀ i, i < n → W.cell? (a.add (i * 4)) = some (.float .f64 (X i)) ∧ W.cell? ⟨(a.add (i * 4)).block, (a.add (i * 4)).off + 1, none⟩ = some (.float .f64 (Y i)) ∧
    W.cell? ⟨(a.add (i * 4)).block, (a.add (i * 4)).off + 2, none⟩ = some (.float .f64 (Z i)) ∧ W.cell? ⟨(a.add (i * 4)).block, (a.add (i * 4)).off + 3, none⟩ = some (.float .f64 (M i))
theorem PRow.mono {W W' : World} {p : Option Addr} {n : Nat} {X Y Z M : Nat → Nat} (h : PRow W p n X Y Z M) (hg : W.grownBy W' none) : PRow W' p n X Y Z M :=
  ⟨h.some_, fun a ha i hi => by obtain ⟨h0, h1, h2, h3⟩ := h.at_ a ha i hi; exact ⟨hg.cell h0 (by simp), hg.cell h1 (by simp), hg.cell h2 (by simp), hg.cell h3 (by simp)⟩⟩

def nTo (r : Nat) (X Y Z M : Nat → Nat) : Nat → List Value
  | 0 => []
  | k + 1 => nTo r X Y Z M k ++ [.float .f64 (X k), .float .f64 (Y k)] ++ (if r % 2 = 1 then [.float .f64 (Z k)] else []) ++ (if r / 2 = 1 then [.float .f64 (M k)] else [])
theorem infoF : (Tryz.prog.info? 26).map (fun i => (i.zero, i.size, i.bytes)) = some (some (.float .f64 0), 1, 8) := by kernel_rfl

set_option maxRecDepth 100000 in
set_option maxHeartbeats 2000000 in
theorem Nums_0 (p : Option Addr) (n cap : Nat) (X Y Z M : Nat → Nat) (hn : n ≤ 100000) (W : World) (hp : PRow W p n X Y Z M) :
    Calls Tryz.prog 90 #[.slice p n cap, .int .i64 0] W fun e w' => ∃ v, e = .returned v ∧ AppV 26 1 W.heap.size W (.slice none 0 0) w' v (n * 2) (nTo 0 X Y Z M n) := by
  have hsf := run_store_flt Tryz.prog
  have HP := Lib.hid hp
  have HN : Hid (∀ k, nTo 0 X Y Z M (k + 1) = nTo 0 X Y Z M k ++ [.float .f64 (X k), .float .f64 (Y k)] ++ [] ++ []) := fun k => rfl
  clear hp
  go_enter Tryz.func90, Tryz.ntmps90
  go_wp2_with fail
  go_loopw [5, 10] (fun x i wr => ∃ k : Nat, k ≤ n ∧ i = .int .i64 k ∧ AppV 26 1 W.heap.size W (.slice none 0 0) wr x (k * 2) (nTo 0 X Y Z M k)) (fun _ i _ => n - (intOf i).toNat)
  case atStart => exact ⟨0, by omega, rfl, by simpa [nTo] using AppV.nil W 26 1 W.heap.size⟩
  case round =>
    obtain ⟨k, hk, rfl, H0⟩ := hrel
    rename World => wr
    by_cases hkn : k < n
    · obtain ⟨a, rfl⟩ := HP.out.some_ (by omega)
      obtain ⟨q0, q1, q2, q3⟩ := (HP.out.mono H0.grown0).at_ a rfl k hkn
      have H := AppV.start (H0.own.alloc (.cells #[.float .f64 (X k), .float .f64 (Y k), .float .f64 (Z k), .float .f64 (M k)] 209))
      have hlt := H0.own.lt
      have hnb : u5.ownBlock ≠ some wr.heap.size := fun e => by have := hlt _ e; omega
      have HC : Hid (∀ W' v' n' l', AppV 26 1 W.heap.size (wr.alloc (.cells #[.float .f64 (X k), .float .f64 (Y k), .float .f64 (Z k), .float .f64 (M k)] 209)) u5 W' v' n' l' → W'.cell? ⟨wr.heap.size, 2, none⟩ = some (.float .f64 (Z k)) ∧ W'.cell? ⟨wr.heap.size, 3, none⟩ = some (.float .f64 (M k))) := by
        intro W' v' n' l' h
        refine ⟨?_, ?_⟩ <;> (rw [h.cell (by simp) hnb]; simp)
      have hbase : W.heap.size ≤ (wr.alloc (.cells #[.float .f64 (X k), .float .f64 (Y k), .float .f64 (Z k), .float .f64 (M k)] 209)).heap.size := by have := H0.grown0.size; simp; omega
      have HF : Hid (∀ W' v' n' l', AppV 26 1 W.heap.size (wr.alloc (.cells #[.float .f64 (X k), .float .f64 (Y k), .float .f64 (Z k), .float .f64 (M k)] 209)) u5 W' v' n' l' → AppV 26 1 W.heap.size W (.slice none 0 0) W' v' n' l') := fun W' v' n' l' h => (H0.beside (World.grownBy_alloc wr _ none)).trans h
      clear hlt hnb H0
      go_wp2_with (first
        | (at_builtin; refine app_cells rfl _ _ _ rfl Tryz.underlying30 (.float .f64 0) 8 infoF rfl (by omega) H rfl rfl (by first | rfl | simp) _ (by first | rfl | simp) (by simp [Value.oneCell']) hbase (by omega) (by omega) ?_; intro v1 w1 H1; clear H; have H := H1; clear H1; clear q2 q3; obtain ⟨q2, q3⟩ := HC.out _ _ _ _ H))
      refine ⟨⟨k + 1, by omega, by go_num, ?_⟩, by simp [intOf]; omega⟩
      have H2 := HF.out _ _ _ _ H
      rw [HN.out k, show (k + 1) * 2 = k * 2 + 2 by omega]
      simpa [List.append_assoc, Nat.add_assoc] using H2
    · obtain rfl : k = n := by omega
      go_wp2_with fail
      go_wp2_with fail
      go_ret
      exact ⟨_, rfl, H0⟩

set_option maxRecDepth 100000 in
set_option maxHeartbeats 2000000 in
theorem Nums_1 (p : Option Addr) (n cap : Nat) (X Y Z M : Nat → Nat) (hn : n ≤ 100000) (W : World) (hp : PRow W p n X Y Z M) :
    Calls Tryz.prog 90 #[.slice p n cap, .int .i64 1] W fun e w' => ∃ v, e = .returned v ∧ AppV 26 1 W.heap.size W (.slice none 0 0) w' v (n * 3) (nTo 1 X Y Z M n) := by
  have hsf := run_store_flt Tryz.prog
  have HP := Lib.hid hp
  have HN : Hid (∀ k, nTo 1 X Y Z M (k + 1) = nTo 1 X Y Z M k ++ [.float .f64 (X k), .float .f64 (Y k)] ++ [.float .f64 (Z k)] ++ []) := fun k => rfl
  clear hp
  go_enter Tryz.func90, Tryz.ntmps90
  go_wp2_with fail
  go_loopw [5, 10] (fun x i wr => ∃ k : Nat, k ≤ n ∧ i = .int .i64 k ∧ AppV 26 1 W.heap.size W (.slice none 0 0) wr x (k * 3) (nTo 1 X Y Z M k)) (fun _ i _ => n - (intOf i).toNat)
  case atStart => exact ⟨0, by omega, rfl, by simpa [nTo] using AppV.nil W 26 1 W.heap.size⟩
  case round =>
    obtain ⟨k, hk, rfl, H0⟩ := hrel
    rename World => wr
    by_cases hkn : k < n
    · obtain ⟨a, rfl⟩ := HP.out.some_ (by omega)
      obtain ⟨q0, q1, q2, q3⟩ := (HP.out.mono H0.grown0).at_ a rfl k hkn
      have H := AppV.start (H0.own.alloc (.cells #[.float .f64 (X k), .float .f64 (Y k), .float .f64 (Z k), .float .f64 (M k)] 209))
      have hlt := H0.own.lt
      have hnb : u5.ownBlock ≠ some wr.heap.size := fun e => by have := hlt _ e; omega
      have HC : Hid (∀ W' v' n' l', AppV 26 1 W.heap.size (wr.alloc (.cells #[.float .f64 (X k), .float .f64 (Y k), .float .f64 (Z k), .float .f64 (M k)] 209)) u5 W' v' n' l' → W'.cell? ⟨wr.heap.size, 2, none⟩ = some (.float .f64 (Z k)) ∧ W'.cell? ⟨wr.heap.size, 3, none⟩ = some (.float .f64 (M k))) := by
        intro W' v' n' l' h
        refine ⟨?_, ?_⟩ <;> (rw [h.cell (by simp) hnb]; simp)
      have hbase : W.heap.size ≤ (wr.alloc (.cells #[.float .f64 (X k), .float .f64 (Y k), .float .f64 (Z k), .float .f64 (M k)] 209)).heap.size := by have := H0.grown0.size; simp; omega
      have HF : Hid (∀ W' v' n' l', AppV 26 1 W.heap.size (wr.alloc (.cells #[.float .f64 (X k), .float .f64 (Y k), .float .f64 (Z k), .float .f64 (M k)] 209)) u5 W' v' n' l' → AppV 26 1 W.heap.size W (.slice none 0 0) W' v' n' l') := fun W' v' n' l' h => (H0.beside (World.grownBy_alloc wr _ none)).trans h
      clear hlt hnb H0
      go_wp2_with (first
        | (at_builtin; refine app_cells rfl _ _ _ rfl Tryz.underlying30 (.float .f64 0) 8 infoF rfl (by omega) H rfl rfl (by first | rfl | simp) _ (by first | rfl | simp) (by simp [Value.oneCell']) hbase (by omega) (by omega) ?_; intro v1 w1 H1; clear H; have H := H1; clear H1; clear q2 q3; obtain ⟨q2, q3⟩ := HC.out _ _ _ _ H))
      refine ⟨⟨k + 1, by omega, by go_num, ?_⟩, by simp [intOf]; omega⟩
      have H2 := HF.out _ _ _ _ H
      rw [HN.out k, show (k + 1) * 3 = k * 3 + 3 by omega]
      simpa [List.append_assoc, Nat.add_assoc] using H2
    · obtain rfl : k = n := by omega
      go_wp2_with fail
      go_wp2_with fail
      go_ret
      exact ⟨_, rfl, H0⟩

set_option maxRecDepth 100000 in
set_option maxHeartbeats 2000000 in
theorem Nums_2 (p : Option Addr) (n cap : Nat) (X Y Z M : Nat → Nat) (hn : n ≤ 100000) (W : World) (hp : PRow W p n X Y Z M) :
    Calls Tryz.prog 90 #[.slice p n cap, .int .i64 2] W fun e w' => ∃ v, e = .returned v ∧ AppV 26 1 W.heap.size W (.slice none 0 0) w' v (n * 3) (nTo 2 X Y Z M n) := by
  have hsf := run_store_flt Tryz.prog
  have HP := Lib.hid hp
  have HN : Hid (∀ k, nTo 2 X Y Z M (k + 1) = nTo 2 X Y Z M k ++ [.float .f64 (X k), .float .f64 (Y k)] ++ [] ++ [.float .f64 (M k)]) := fun k => rfl
  clear hp
  go_enter Tryz.func90, Tryz.ntmps90
  go_wp2_with fail
  go_loopw [5, 10] (fun x i wr => ∃ k : Nat, k ≤ n ∧ i = .int .i64 k ∧ AppV 26 1 W.heap.size W (.slice none 0 0) wr x (k * 3) (nTo 2 X Y Z M k)) (fun _ i _ => n - (intOf i).toNat)
  case atStart => exact ⟨0, by omega, rfl, by simpa [nTo] using AppV.nil W 26 1 W.heap.size⟩
  case round =>
    obtain ⟨k, hk, rfl, H0⟩ := hrel
    rename World => wr
    by_cases hkn : k < n
    · obtain ⟨a, rfl⟩ := HP.out.some_ (by omega)
      obtain ⟨q0, q1, q2, q3⟩ := (HP.out.mono H0.grown0).at_ a rfl k hkn
      have H := AppV.start (H0.own.alloc (.cells #[.float .f64 (X k), .float .f64 (Y k), .float .f64 (Z k), .float .f64 (M k)] 209))
      have hlt := H0.own.lt
      have hnb : u5.ownBlock ≠ some wr.heap.size := fun e => by have := hlt _ e; omega
      have HC : Hid (∀ W' v' n' l', AppV 26 1 W.heap.size (wr.alloc (.cells #[.float .f64 (X k), .float .f64 (Y k), .float .f64 (Z k), .float .f64 (M k)] 209)) u5 W' v' n' l' → W'.cell? ⟨wr.heap.size, 2, none⟩ = some (.float .f64 (Z k)) ∧ W'.cell? ⟨wr.heap.size, 3, none⟩ = some (.float .f64 (M k))) := by
        intro W' v' n' l' h
        refine ⟨?_, ?_⟩ <;> (rw [h.cell (by simp) hnb]; simp)
      have hbase : W.heap.size ≤ (wr.alloc (.cells #[.float .f64 (X k), .float .f64 (Y k), .float .f64 (Z k), .float .f64 (M k)] 209)).heap.size := by have := H0.grown0.size; simp; omega
      have HF : Hid (∀ W' v' n' l', AppV 26 1 W.heap.size (wr.alloc (.cells #[.float .f64 (X k), .float .f64 (Y k), .float .f64 (Z k), .float .f64 (M k)] 209)) u5 W' v' n' l' → AppV 26 1 W.heap.size W (.slice none 0 0) W' v' n' l') := fun W' v' n' l' h => (H0.beside (World.grownBy_alloc wr _ none)).trans h
      clear hlt hnb H0
      go_wp2_with (first
        | (at_builtin; refine app_cells rfl _ _ _ rfl Tryz.underlying30 (.float .f64 0) 8 infoF rfl (by omega) H rfl rfl (by first | rfl | simp) _ (by first | rfl | simp) (by simp [Value.oneCell']) hbase (by omega) (by omega) ?_; intro v1 w1 H1; clear H; have H := H1; clear H1; clear q2 q3; obtain ⟨q2, q3⟩ := HC.out _ _ _ _ H))
      refine ⟨⟨k + 1, by omega, by go_num, ?_⟩, by simp [intOf]; omega⟩
      have H2 := HF.out _ _ _ _ H
      rw [HN.out k, show (k + 1) * 3 = k * 3 + 3 by omega]
      simpa [List.append_assoc, Nat.add_assoc] using H2
    · obtain rfl : k = n := by omega
      go_wp2_with fail
      go_wp2_with fail
      go_ret
      exact ⟨_, rfl, H0⟩

set_option maxRecDepth 100000 in
set_option maxHeartbeats 2000000 in
theorem Nums_3 (p : Option Addr) (n cap : Nat) (X Y Z M : Nat → Nat) (hn : n ≤ 100000) (W : World) (hp : PRow W p n X Y Z M) :
    Calls Tryz.prog 90 #[.slice p n cap, .int .i64 3] W fun e w' => ∃ v, e = .returned v ∧ AppV 26 1 W.heap.size W (.slice none 0 0) w' v (n * 4) (nTo 3 X Y Z M n) := by
  have hsf := run_store_flt Tryz.prog
  have HP := Lib.hid hp
  have HN : Hid (∀ k, nTo 3 X Y Z M (k + 1) = nTo 3 X Y Z M k ++ [.float .f64 (X k), .float .f64 (Y k)] ++ [.float .f64 (Z k)] ++ [.float .f64 (M k)]) := fun k => rfl
  clear hp
  go_enter Tryz.func90, Tryz.ntmps90
  go_wp2_with fail
  go_loopw [5, 10] (fun x i wr => ∃ k : Nat, k ≤ n ∧ i = .int .i64 k ∧ AppV 26 1 W.heap.size W (.slice none 0 0) wr x (k * 4) (nTo 3 X Y Z M k)) (fun _ i _ => n - (intOf i).toNat)
  case atStart => exact ⟨0, by omega, rfl, by simpa [nTo] using AppV.nil W 26 1 W.heap.size⟩
  case round =>
    obtain ⟨k, hk, rfl, H0⟩ := hrel
    rename World => wr
    by_cases hkn : k < n
    · obtain ⟨a, rfl⟩ := HP.out.some_ (by omega)
      obtain ⟨q0, q1, q2, q3⟩ := (HP.out.mono H0.grown0).at_ a rfl k hkn
      have H := AppV.start (H0.own.alloc (.cells #[.float .f64 (X k), .float .f64 (Y k), .float .f64 (Z k), .float .f64 (M k)] 209))
      have hlt := H0.own.lt
      have hnb : u5.ownBlock ≠ some wr.heap.size := fun e => by have := hlt _ e; omega
      have HC : Hid (∀ W' v' n' l', AppV 26 1 W.heap.size (wr.alloc (.cells #[.float .f64 (X k), .float .f64 (Y k), .float .f64 (Z k), .float .f64 (M k)] 209)) u5 W' v' n' l' → W'.cell? ⟨wr.heap.size, 2, none⟩ = some (.float .f64 (Z k)) ∧ W'.cell? ⟨wr.heap.size, 3, none⟩ = some (.float .f64 (M k))) := by
        intro W' v' n' l' h
        refine ⟨?_, ?_⟩ <;> (rw [h.cell (by simp) hnb]; simp)
      have hbase : W.heap.size ≤ (wr.alloc (.cells #[.float .f64 (X k), .float .f64 (Y k), .float .f64 (Z k), .float .f64 (M k)] 209)).heap.size := by have := H0.grown0.size; simp; omega
      have HF : Hid (∀ W' v' n' l', AppV 26 1 W.heap.size (wr.alloc (.cells #[.float .f64 (X k), .float .f64 (Y k), .float .f64 (Z k), .float .f64 (M k)] 209)) u5 W' v' n' l' → AppV 26 1 W.heap.size W (.slice none 0 0) W' v' n' l') := fun W' v' n' l' h => (H0.beside (World.grownBy_alloc wr _ none)).trans h
      clear hlt hnb H0
      go_wp2_with (first
        | (at_builtin; refine app_cells rfl _ _ _ rfl Tryz.underlying30 (.float .f64 0) 8 infoF rfl (by omega) H rfl rfl (by first | rfl | simp) _ (by first | rfl | simp) (by simp [Value.oneCell']) hbase (by omega) (by omega) ?_; intro v1 w1 H1; clear H; have H := H1; clear H1; clear q2 q3; obtain ⟨q2, q3⟩ := HC.out _ _ _ _ H))
      refine ⟨⟨k + 1, by omega, by go_num, ?_⟩, by simp [intOf]; omega⟩
      have H2 := HF.out _ _ _ _ H
      rw [HN.out k, show (k + 1) * 4 = k * 4 + 4 by omega]
      simpa [List.append_assoc, Nat.add_assoc] using H2
    · obtain rfl : k = n := by omega
      go_wp2_with fail
      go_wp2_with fail
      go_ret
      exact ⟨_, rfl, H0⟩

end Go.Proofs.YtlpaecafpbbbkaaGreatDoor
namespace Go.Proofs.YtlpaecafpbbbkaaGreatDoor
open Go.RowKit

theorem own_at {w : World} {base n c : Nat} {e : TypeId} {p : Option Addr} {xs : List Value} (h : w.ownsRow base e 1 (.slice p n c) n xs) : (0 < n → ∃ a, p = some a) ∧ ∀ a, p = some a → ∀ i v, xs[i]? = some v → w.cell? (a.add i) = some v := by
  refine ⟨fun hn => ?_, fun a ha i v hv => ?_⟩
  · rcases h.2 with h' | ⟨g, cap, cur, hv, _⟩
    · omega
    · injection hv with h1; exact ⟨_, h1⟩
  · rcases h.2 with h' | ⟨g, cap, cur, hv', _⟩
    · have := h'.1; rw [ha] at this; cases this
    · injection hv' with h1 h2 h3
      subst h3
      rw [h1] at ha h
      injection ha with ha
      subst ha
      exact h.cells rfl i v hv
theorem AppV.fval {e base : Nat} {w0 w : World} {v0 : Value} {p : Option Addr} {n c : Nat} {f : Nat → Nat} (hf : ∀ i, f i < 18446744073709551616) {xs : List Value} (hx : ∀ i, i < n → xs[i]? = some (.float .f64 (f i))) (h : AppV e 1 base w0 v0 w (.slice p n c) n xs) : FVal w p n f := by
  obtain ⟨h1, h2⟩ := own_at h.own
  exact ⟨h1, fun a ha i hi => h2 a ha i _ (hx i hi), hf⟩
end Go.Proofs.YtlpaecafpbbbkaaGreatDoor
namespace Go.Proofs.YtlpaecafpbbbkaaGreatDoor
open Go.RowKit

/-- Blocks that are new in W'. -/
def Fr (W W' : World) (b : Nat) : Prop := W.heap.size ≤ b ∧ b < W'.heap.size
theorem grown_set (W : World) (q : Addr) (x : Value) : W.grownBy (W.setCell q x) (some q.block) :=
  ⟨rfl, rfl, rfl, by simp [World.setCell], fun i _ hne => Below.heap_setCell W q x i (fun e => hne (by rw [e]))⟩
theorem own_form {w : World} {base size n : Nat} {e : TypeId} {x : Value} {xs : List Value} (h : w.ownsRow base e size x n xs) : ∃ p c, x = .slice p n c ∧ n ≤ c ∧ c ≤ maxLen ∧ (p = none → c = 0) ∧ ∀ a, p = some a → x.ownBlock = some a.block := by
  rcases h.2 with ⟨rfl, rfl⟩ | ⟨g, cap, cur, rfl, _, _, h1, h2, _⟩
  · exact ⟨none, 0, rfl, Nat.le_refl _, by decide, fun _ => rfl, fun a ha => by cases ha⟩
  · exact ⟨_, cap, rfl, h1, h2, (fun h => by cases h), fun a ha => by injection ha with ha; subst ha; rfl⟩

/-- A row x of geometries ts, from base on. -/
def KRow (base h : Nat) (W : World) (x : Value) (ts : List Raw) (cs : List Value) : Prop :=
  W.ownsRow base 33 4 x ts.length cs ∧ ∀ i t, ts[i]? = some t → ∃ c0 c1 c2 c3, cs[i * 4]? = some c0 ∧ cs[i * 4 + 1]? = some c1 ∧ cs[i * 4 + 2]? = some c2 ∧ cs[i * 4 + 3]? = some c3 ∧
    KD (fun b => base ≤ b ∧ b < W.heap.size ∧ x.ownBlock ≠ some b) h W (.agg #[c0, c1, c2, c3]) t
theorem KRow.nil (base h : Nat) (W : World) : KRow base h W (.slice none 0 0) [] [] := ⟨World.ownsRow_nil _ _ _ _, fun i t h => by simp at h⟩
theorem KRow.kept {base h : Nat} {W W' : World} {x : Value} {ts : List Raw} {cs : List Value} (k : KRow base h W x ts cs) (g : W.grownBy W' none) : KRow base h W' x ts cs :=
  ⟨k.1.kept g (by cases x.ownBlock <;> simp), fun i t hi => by
    obtain ⟨c0, c1, c2, c3, h0, h1, h2, h3, hk⟩ := k.2 i t hi
    exact ⟨c0, c1, c2, c3, h0, h1, h2, h3, (hk.mono g).weak fun b hb => ⟨hb.1, Nat.lt_of_lt_of_le hb.2.1 g.size, hb.2.2⟩⟩⟩
theorem KRow.set {base h : Nat} {W : World} {x : Value} {ts : List Raw} {cs : List Value} (k : KRow base h W x ts cs) {q : Addr} (hq : q.block < base) (y : Value) : KRow base h (W.setCell q y) x ts cs := by
  have hlt := k.1.lt
  refine ⟨k.1.kept (grown_set W q y) ?_, fun i t hi => ?_⟩
  · cases hx : x.ownBlock with
    | none => exact .inl rfl
    | some b => exact .inr fun e => by injection e with e; have := (hlt b hx).1; omega
  · obtain ⟨c0, c1, c2, c3, h0, h1, h2, h3, hk⟩ := k.2 i t hi
    refine ⟨c0, c1, c2, c3, h0, h1, h2, h3, ?_⟩
    have : (W.setCell q y).heap.size = W.heap.size := by simp [World.setCell]
    rw [this]
    exact hk.keep (.set (fun hb => by have := hb.1; omega) y)
theorem KRow.snoc {base h : Nat} {W W1 W2 W3 W4 : World} {x : Value} {ts : List Raw} {cs : List Value} (k : KRow base h W x ts cs) (hb : base ≤ W.heap.size) (g1 : W.grownBy W1 none) (g2 : W1.grownBy W2 none) (g3 : W2.grownBy W3 none)
    {c0 c1 c2 c3 : Value} {t : Raw} (hk : KD (Fr W1 W2) h W2 (.agg #[c0, c1, c2, c3]) t) {g cap : Nat} (hown : W4.ownsRow base 33 4 (.slice (some ⟨g, 0, none⟩) (ts.length + 1) cap) (ts.length + 1) (cs ++ [c0, c1, c2, c3]))
    (g4 : W3.grownBy W4 x.ownBlock) (hg : x.ownBlock = some g ∨ g = W3.heap.size) : KRow base h W4 (.slice (some ⟨g, 0, none⟩) (ts.length + 1) cap) (ts ++ [t]) (cs ++ [c0, c1, c2, c3]) := by
  have hlt := k.1.lt
  have s1 := g1.size
  have s2 := g2.size
  have s3 := g3.size
  have s4 := g4.size
  have hcl : cs.length = ts.length * 4 := k.1.1
  refine ⟨by simpa using hown, fun i t' hi => ?_⟩
  have hob : (Value.slice (some ⟨g, 0, none⟩) (ts.length + 1) cap).ownBlock = some g := rfl
  rw [hob]
  by_cases hi' : i < ts.length
  · rw [List.getElem?_append_left hi'] at hi
    obtain ⟨d0, d1, d2, d3, h0, h1, h2, h3, hd⟩ := k.2 i t' hi
    refine ⟨d0, d1, d2, d3, by rw [List.getElem?_append_left (by omega)]; exact h0, by rw [List.getElem?_append_left (by omega)]; exact h1, by rw [List.getElem?_append_left (by omega)]; exact h2, by rw [List.getElem?_append_left (by omega)]; exact h3, ?_⟩
    have hd3 := hd.mono (gt_trans (gt_trans g1 g2 (.inl rfl)) g3 (.inl rfl))
    have hd4 := hd3.keep (.grownRow g4 (fun b hb' hB => hB.2.2 hb'))
    refine hd4.weak fun b hB => ⟨hB.1, by have := hB.2.1; omega, fun e => ?_⟩
    injection e with e
    subst e
    rcases hg with hg | hg
    · exact hB.2.2 hg
    · have := hB.2.1; omega
  · rw [List.getElem?_append_right (by omega)] at hi
    obtain ⟨hz, he⟩ := List.getElem?_eq_some_iff.1 hi
    have hil : i = ts.length := by simp at hz; omega
    subst hil
    simp at he
    subst he
    refine ⟨c0, c1, c2, c3, by rw [List.getElem?_append_right (by omega)]; simp [hcl], by rw [List.getElem?_append_right (by omega), hcl]; simp, by rw [List.getElem?_append_right (by omega), hcl]; simp, by rw [List.getElem?_append_right (by omega), hcl]; simp, ?_⟩
    have hd4 := (hk.mono g3).keep (.grownRow g4 (fun b hb' hB => by have := (hlt b hb').2; have := hB.1; omega))
    refine hd4.weak fun b hB => ⟨by have := hB.1; omega, by have := hB.2; omega, fun e => ?_⟩
    injection e with e
    subst e
    rcases hg with hg | hg
    · have := (hlt _ hg).2; have := hB.1; omega
    · have := hB.2; omega
/-- A geometry out of its numbers and its row of parts. -/
theorem KRow.kd {base h : Nat} {W : World} {B : Nat → Prop} {x : Value} {ts : List Raw} {cs : List Value} (kr : KRow base h W x ts cs) {k d : Int} {p : Option Addr} {n cap : Nat} {f : Nat → Nat} (hf : FVal W p n f) (h1 : n ≤ cap) (h2 : cap ≤ maxLen) (h3 : p = none → cap = 0)
    (hp : ∀ a, p = some a → B a.block) (hB : ∀ b, base ≤ b → b < W.heap.size → B b) : KD B (h + 1) W (.agg #[.int .i64 k, .int .i64 d, .slice p n cap, x]) (.mk k d n f ts) := by
  obtain ⟨q, c, rfl, hl1, hl2, hl3, hob⟩ := own_form kr.1
  have hlt := kr.1.lt
  refine ⟨p, cap, q, c, rfl, hf, h1, h2, h3, hl1, hl2, hl3, fun a ha i t hi => ?_, hp, fun a ha => ?_⟩
  · obtain ⟨c0, c1, c2, c3, e0, e1, e2, e3, hk⟩ := kr.2 i t hi
    obtain ⟨_, hat⟩ := own_at4 kr.1
    exact ⟨c0, c1, c2, c3, hk.weak (fun b hb => hB b hb.1 hb.2.1), hat a ha i 0 _ e0, hat a ha i 1 _ e1, hat a ha i 2 _ e2, hat a ha i 3 _ e3⟩
  · have := hlt _ (hob a ha)
    exact hB _ this.1 this.2
theorem infoG : (Tryz.prog.info? 33).map (fun i => (i.zero, i.size, i.bytes)) = some (some (.agg #[.int .i64 0, .int .i64 0, .slice none 0 0, .slice none 0 0]), 4, 64) := by kernel_rfl

/-- What a call that fills a geometry of its own (block W.heap.size + 2; the result's block is the one ahead) has come to: the numbers stand, the parts ts are collected in x. -/
structure OutInv (W wr : World) (h : Nat) (k d : Int) (p : Option Addr) (n c : Nat) (f : Nat → Nat) (x : Value) (ts : List Raw) (cs : List Value) : Prop where
  g : W.grownBy wr none
  big : W.heap.size + 3 ≤ wr.heap.size
  o0 : wr.cell? ⟨W.heap.size + 1 + 1, 0, none⟩ = some (.int .i64 k)
  o1 : wr.cell? ⟨W.heap.size + 1 + 1, 1, none⟩ = some (.int .i64 d)
  o2 : wr.cell? ⟨W.heap.size + 1 + 1, 2, none⟩ = some (.slice p n c)
  o3 : wr.cell? ⟨W.heap.size + 1 + 1, 3, none⟩ = some x
  of_ : ∀ j, wr.frozen? ⟨W.heap.size + 1 + 1, j, none⟩ = false
  r0 : wr.cell? ⟨W.heap.size + 1, 0, none⟩ = some (.int .i64 0)
  r1 : wr.cell? ⟨W.heap.size + 1, 1, none⟩ = some (.int .i64 0)
  r2 : wr.cell? ⟨W.heap.size + 1, 2, none⟩ = some (.slice none 0 0)
  r3 : wr.cell? ⟨W.heap.size + 1, 3, none⟩ = some (.slice none 0 0)
  rf : ∀ j, wr.frozen? ⟨W.heap.size + 1, j, none⟩ = false
  nums : FVal wr p n f
  n1 : n ≤ c
  n2 : c ≤ maxLen
  n3 : p = none → c = 0
  nb : ∀ a, p = some a → W.heap.size + 3 ≤ a.block ∧ a.block < wr.heap.size ∧ x.ownBlock ≠ some a.block
  kr : KRow (W.heap.size + 3) h wr x ts cs
section
variable {W wr w' : World} {h : Nat} {k d : Int} {p : Option Addr} {n c : Nat} {f : Nat → Nat} {x : Value} {ts : List Raw} {cs : List Value}
theorem OutInv.kept (i : OutInv W wr h k d p n c f x ts cs) (g : wr.grownBy w' none) : OutInv W w' h k d p n c f x ts cs := by
  have hb := i.big
  have hf : ∀ b j, b < wr.heap.size → w'.frozen? ⟨b, j, none⟩ = wr.frozen? ⟨b, j, none⟩ := fun b j hlt => World.frozen?_of_block (g.block b hlt (by simp))
  exact ⟨gt_trans i.g g (.inl rfl), Nat.le_trans i.big g.size, g.cell i.o0 (by simp), g.cell i.o1 (by simp), g.cell i.o2 (by simp), g.cell i.o3 (by simp), fun j => by rw [hf _ _ (by omega)]; exact i.of_ j,
    g.cell i.r0 (by simp), g.cell i.r1 (by simp), g.cell i.r2 (by simp), g.cell i.r3 (by simp), fun j => by rw [hf _ _ (by omega)]; exact i.rf j, i.nums.mono g, i.n1, i.n2, i.n3,
    fun a ha => ⟨(i.nb a ha).1, Nat.lt_of_lt_of_le (i.nb a ha).2.1 g.size, (i.nb a ha).2.2⟩, i.kr.kept g⟩
/-- A part more: found in w2 by a call made in w1, appended in w3 (which gave w4), stored. -/
theorem OutInv.snoc {w1 w2 w3 w4 : World} (i : OutInv W wr h k d p n c f x ts cs) (g1 : wr.grownBy w1 none) (g2 : w1.grownBy w2 none) (g3 : w2.grownBy w3 none) {c0 c1 c2 c3 : Value} {t : Raw} (hk : KD (Fr w1 w2) h w2 (.agg #[c0, c1, c2, c3]) t) {gg cap : Nat}
    (hown : w4.ownsRow (W.heap.size + 3) 33 4 (.slice (some ⟨gg, 0, none⟩) (ts.length + 1) cap) (ts.length + 1) (cs ++ [c0, c1, c2, c3])) (g4 : w3.grownBy w4 x.ownBlock) (hg : x.ownBlock = some gg ∨ gg = w3.heap.size) :
    OutInv W (w4.setCell ⟨W.heap.size + 1 + 1, 3, none⟩ (.slice (some ⟨gg, 0, none⟩) (ts.length + 1) cap)) h k d p n c f (.slice (some ⟨gg, 0, none⟩) (ts.length + 1) cap) (ts ++ [t]) (cs ++ [c0, c1, c2, c3]) := by
  have hsn := i.kr.snoc i.big g1 g2 g3 hk hown g4 hg
  have j := ((i.kept g1).kept g2).kept g3
  have hlt := i.kr.1.lt
  have hb := i.big
  have s1 := g1.size
  have s2 := g2.size
  have s3 := g3.size
  have s4 := g4.size
  have hne : ∀ b, b < W.heap.size + 3 → x.ownBlock ≠ some b := fun b hlt' e => by have := (hlt b e).1; omega
  have cell : ∀ b o v, b < W.heap.size + 3 → w3.cell? ⟨b, o, none⟩ = some v → w4.cell? ⟨b, o, none⟩ = some v := fun b o v hb' hv => g4.cell hv (fun e => hne b hb' e.symm)
  have fro : ∀ b o, b < W.heap.size + 3 → w4.frozen? ⟨b, o, none⟩ = w3.frozen? ⟨b, o, none⟩ := fun b o hb' => World.frozen?_of_block (g4.block b (by omega) (fun e => hne b hb' e.symm))
  have hsz : (w4.setCell ⟨W.heap.size + 1 + 1, 3, none⟩ (.slice (some ⟨gg, 0, none⟩) (ts.length + 1) cap)).heap.size = w4.heap.size := by simp [World.setCell]
  have hgW : W.grownBy w4 none := gt_trans j.g g4 (by
    cases hx : x.ownBlock with
    | none => exact .inl rfl
    | some b => exact .inr (.inr ⟨b, rfl, by have := (hlt b hx).1; omega⟩))
  have z3 := World.cell?_setCell_same (v := .slice (some ⟨gg, 0, none⟩) (ts.length + 1) cap) (h := cell _ _ _ (by omega) j.o3)
  refine ⟨gt_set_r hgW _ _ (by show W.heap.size ≤ W.heap.size + 1 + 1; omega), by rw [hsz]; omega, ?_, ?_, ?_, z3, fun l => ?_, ?_, ?_, ?_, ?_, fun l => ?_, ?_, i.n1, i.n2, i.n3, ?_, hsn.set (by show W.heap.size + 1 + 1 < W.heap.size + 3; omega) _⟩
  · rw [World.cell?_setCell_other (h := by simp)]; exact cell _ _ _ (by omega) j.o0
  · rw [World.cell?_setCell_other (h := by simp)]; exact cell _ _ _ (by omega) j.o1
  · rw [World.cell?_setCell_other (h := by simp)]; exact cell _ _ _ (by omega) j.o2
  · rw [World.frozen?_setCell, fro _ _ (by omega)]; exact j.of_ l
  · rw [World.cell?_setCell_other (h := by simp)]; exact cell _ _ _ (by omega) j.r0
  · rw [World.cell?_setCell_other (h := by simp)]; exact cell _ _ _ (by omega) j.r1
  · rw [World.cell?_setCell_other (h := by simp)]; exact cell _ _ _ (by omega) j.r2
  · rw [World.cell?_setCell_other (h := by simp)]; exact cell _ _ _ (by omega) j.r3
  · rw [World.frozen?_setCell, fro _ _ (by omega)]; exact j.rf l
  · have h1 := j.nums.keep (B := fun b => W.heap.size + 3 ≤ b ∧ b < w3.heap.size ∧ x.ownBlock ≠ some b) (.grownRow g4 (fun b hb' hB => hB.2.2 hb')) j.nb
    exact h1.keep (B := fun b => W.heap.size + 3 ≤ b ∧ b < w3.heap.size ∧ x.ownBlock ≠ some b) (.set (fun hB => by have h2 : W.heap.size + 3 ≤ W.heap.size + 1 + 1 := hB.1; omega) _) j.nb
  · intro a ha
    obtain ⟨b1, b2, b3⟩ := j.nb a ha
    refine ⟨b1, by rw [hsz]; omega, fun e => ?_⟩
    have e' : gg = a.block := by injection e
    rcases hg with hg | hg
    · exact b3 (by rw [hg, e'])
    · omega
end

theorem cell_new_at' (X : World) (cs : Array Value) (e b j : Nat) (hb : b = X.heap.size) : (X.alloc (.cells cs e)).cell? ⟨b, j, none⟩ = cs[j]? := by
  subst hb
  exact World.cell?_alloc_new _ cs e j
theorem frozen_new_at' (X : World) (cs : Array Value) (e b j : Nat) (hb : b = X.heap.size) : (X.alloc (.cells cs e)).frozen? ⟨b, j, none⟩ = false := by
  subst hb
  simp
/-- Three new blocks: the argument's, the result's, the geometry's own. -/
def W3 (W : World) (g0 g1 g2 g3 : Value) (k d : Int) (T : Nat) : World := ((W.alloc (.cells #[g0, g1, g2, g3] T)).alloc (.cells #[.int .i64 0, .int .i64 0, .slice none 0 0, .slice none 0 0] T)).alloc (.cells #[.int .i64 k, .int .i64 d, .slice none 0 0, .slice none 0 0] T)
theorem W3_grown (W : World) (g0 g1 g2 g3 : Value) (k d : Int) (T : Nat) : W.grownBy (W3 W g0 g1 g2 g3 k d T) none := gt_alloc_r (gt_alloc_r (World.grownBy_alloc W _ none) _) _
theorem W3_size (W : World) (g0 g1 g2 g3 : Value) (k d : Int) (T : Nat) : (W3 W g0 g1 g2 g3 k d T).heap.size = W.heap.size + 3 := by simp [W3]
structure Pre (W w2 : World) (g0 g1 g2 g3 : Value) (k d : Int) : Prop where
  g : W.grownBy w2 none
  big : W.heap.size + 3 ≤ w2.heap.size
  a0 : w2.cell? ⟨W.heap.size, 0, none⟩ = some g0
  a1 : w2.cell? ⟨W.heap.size, 1, none⟩ = some g1
  a2 : w2.cell? ⟨W.heap.size, 2, none⟩ = some g2
  a3 : w2.cell? ⟨W.heap.size, 3, none⟩ = some g3
  o0 : w2.cell? ⟨W.heap.size + 1 + 1, 0, none⟩ = some (.int .i64 k)
  o1 : w2.cell? ⟨W.heap.size + 1 + 1, 1, none⟩ = some (.int .i64 d)
  o2 : w2.cell? ⟨W.heap.size + 1 + 1, 2, none⟩ = some (.slice none 0 0)
  o3 : w2.cell? ⟨W.heap.size + 1 + 1, 3, none⟩ = some (.slice none 0 0)
  of_ : ∀ j, w2.frozen? ⟨W.heap.size + 1 + 1, j, none⟩ = false
  r0 : w2.cell? ⟨W.heap.size + 1, 0, none⟩ = some (.int .i64 0)
  r1 : w2.cell? ⟨W.heap.size + 1, 1, none⟩ = some (.int .i64 0)
  r2 : w2.cell? ⟨W.heap.size + 1, 2, none⟩ = some (.slice none 0 0)
  r3 : w2.cell? ⟨W.heap.size + 1, 3, none⟩ = some (.slice none 0 0)
  rf : ∀ j, w2.frozen? ⟨W.heap.size + 1, j, none⟩ = false
theorem Pre.of (W w2 : World) (g0 g1 g2 g3 : Value) (k d : Int) (T : Nat) (g : (W3 W g0 g1 g2 g3 k d T).grownBy w2 none) : Pre W w2 g0 g1 g2 g3 k d := by
  have hs := W3_size W g0 g1 g2 g3 k d T
  have ga := gt_trans (gt_alloc_r (World.grownBy_alloc (W.alloc (.cells #[g0, g1, g2, g3] T)) (.cells #[.int .i64 0, .int .i64 0, .slice none 0 0, .slice none 0 0] T) none) (.cells #[.int .i64 k, .int .i64 d, .slice none 0 0, .slice none 0 0] T)) g (.inl rfl)
  have gr := gt_trans (World.grownBy_alloc ((W.alloc (.cells #[g0, g1, g2, g3] T)).alloc (.cells #[.int .i64 0, .int .i64 0, .slice none 0 0, .slice none 0 0] T)) (.cells #[.int .i64 k, .int .i64 d, .slice none 0 0, .slice none 0 0] T) none) g (.inl rfl)
  have ca : ∀ j v, #[g0, g1, g2, g3][j]? = some v → w2.cell? ⟨W.heap.size, j, none⟩ = some v := fun j v hv => ga.cell ((cell_new_at' W #[g0, g1, g2, g3] T W.heap.size j rfl).trans hv) (by simp)
  have cr : ∀ j v, #[Value.int .i64 0, .int .i64 0, .slice none 0 0, .slice none 0 0][j]? = some v → w2.cell? ⟨W.heap.size + 1, j, none⟩ = some v := fun j v hv => gr.cell ((cell_new_at' (W.alloc (.cells #[g0, g1, g2, g3] T)) _ T (W.heap.size + 1) j (by simp)).trans hv) (by simp)
  have co : ∀ j v, #[Value.int .i64 k, .int .i64 d, .slice none 0 0, .slice none 0 0][j]? = some v → w2.cell? ⟨W.heap.size + 1 + 1, j, none⟩ = some v := fun j v hv => g.cell ((cell_new_at' ((W.alloc (.cells #[g0, g1, g2, g3] T)).alloc (.cells #[.int .i64 0, .int .i64 0, .slice none 0 0, .slice none 0 0] T)) _ T (W.heap.size + 1 + 1) j (by simp)).trans hv) (by simp)
  refine ⟨gt_trans (W3_grown ..) g (.inl rfl), by have := g.size; omega, ca 0 _ rfl, ca 1 _ rfl, ca 2 _ rfl, ca 3 _ rfl, co 0 _ rfl, co 1 _ rfl, co 2 _ rfl, co 3 _ rfl, fun j => ?_, cr 0 _ rfl, cr 1 _ rfl, cr 2 _ rfl, cr 3 _ rfl, fun j => ?_⟩
  · rw [World.frozen?_of_block (g.block (W.heap.size + 1 + 1) (by omega) (by simp))]
    exact frozen_new_at' _ _ _ _ j (by simp)
  · rw [World.frozen?_of_block (gr.block (W.heap.size + 1) (by simp) (by simp))]
    exact frozen_new_at' _ _ _ _ j (by simp)
theorem Pre.kept {W w w' : World} {g0 g1 g2 g3 : Value} {k d : Int} (i : Pre W w g0 g1 g2 g3 k d) (g : w.grownBy w' none) : Pre W w' g0 g1 g2 g3 k d := by
  have hb := i.big
  have hf : ∀ b j, b < w.heap.size → w'.frozen? ⟨b, j, none⟩ = w.frozen? ⟨b, j, none⟩ := fun b j hlt => World.frozen?_of_block (g.block b hlt (by simp))
  exact ⟨gt_trans i.g g (.inl rfl), Nat.le_trans i.big g.size, g.cell i.a0 (by simp), g.cell i.a1 (by simp), g.cell i.a2 (by simp), g.cell i.a3 (by simp), g.cell i.o0 (by simp), g.cell i.o1 (by simp), g.cell i.o2 (by simp), g.cell i.o3 (by simp), fun j => by rw [hf _ _ (by omega)]; exact i.of_ j,
    g.cell i.r0 (by simp), g.cell i.r1 (by simp), g.cell i.r2 (by simp), g.cell i.r3 (by simp), fun j => by rw [hf _ _ (by omega)]; exact i.rf j⟩
/-- The numbers stored, no parts yet. -/
theorem Pre.start {W w2 : World} {g0 g1 g2 g3 : Value} {k d : Int} (i : Pre W w2 g0 g1 g2 g3 k d) (h : Nat) {p : Option Addr} {n c : Nat} {f : Nat → Nat} (hf : FVal w2 p n f) (n1 : n ≤ c) (n2 : c ≤ maxLen) (n3 : p = none → c = 0) (nb : ∀ a, p = some a → W.heap.size + 3 ≤ a.block ∧ a.block < w2.heap.size) :
    OutInv W (w2.setCell ⟨W.heap.size + 1 + 1, 2, none⟩ (.slice p n c)) h k d p n c f (.slice none 0 0) [] [] := by
  have hsz : (w2.setCell ⟨W.heap.size + 1 + 1, 2, none⟩ (.slice p n c)).heap.size = w2.heap.size := by simp [World.setCell]
  have hb := i.big
  refine ⟨gt_set_r i.g _ _ (by show W.heap.size ≤ W.heap.size + 1 + 1; omega), by rw [hsz]; omega, ?_, ?_, World.cell?_setCell_same (v := .slice p n c) (h := i.o2), ?_, fun l => ?_, ?_, ?_, ?_, ?_, fun l => ?_, ?_, n1, n2, n3, fun a ha => ⟨(nb a ha).1, by rw [hsz]; exact (nb a ha).2, by simp [Value.ownBlock]⟩, KRow.nil _ _ _⟩
  · rw [World.cell?_setCell_other (h := by simp)]; exact i.o0
  · rw [World.cell?_setCell_other (h := by simp)]; exact i.o1
  · rw [World.cell?_setCell_other (h := by simp)]; exact i.o3
  · rw [World.frozen?_setCell]; exact i.of_ l
  · rw [World.cell?_setCell_other (h := by simp)]; exact i.r0
  · rw [World.cell?_setCell_other (h := by simp)]; exact i.r1
  · rw [World.cell?_setCell_other (h := by simp)]; exact i.r2
  · rw [World.cell?_setCell_other (h := by simp)]; exact i.r3
  · rw [World.frozen?_setCell]; exact i.rf l
  · exact hf.keep (B := fun b => W.heap.size + 3 ≤ b) (.set (fun hB => by have h2 : W.heap.size + 3 ≤ W.heap.size + 1 + 1 := hB; omega) _) (fun a ha => (nb a ha).1)
/-- No numbers, no parts yet. -/
theorem Pre.start0 {W w2 : World} {g0 g1 g2 g3 : Value} {k d : Int} (i : Pre W w2 g0 g1 g2 g3 k d) (h : Nat) {f : Nat → Nat} (hf : ∀ i, f i < 18446744073709551616) : OutInv W w2 h k d none 0 0 f (.slice none 0 0) [] [] :=
  ⟨i.g, i.big, i.o0, i.o1, i.o2, i.o3, i.of_, i.r0, i.r1, i.r2, i.r3, i.rf, ⟨fun h => by omega, (fun a ha => by cases ha), hf⟩, Nat.le_refl _, by decide, fun _ => rfl, (fun a ha => by cases ha), KRow.nil _ _ _⟩
/-- The whole geometry, read out of its block and laid into the result's. -/
theorem OutInv.kd {W wr : World} {h : Nat} {k d : Int} {p : Option Addr} {n c : Nat} {f : Nat → Nat} {x : Value} {ts : List Raw} {cs : List Value} (i : OutInv W wr h k d p n c f x ts cs) : KD (fun b => W.heap.size + 3 ≤ b ∧ b < wr.heap.size) (h + 1) wr (.agg #[.int .i64 k, .int .i64 d, .slice p n c, x]) (.mk k d n f ts) :=
  i.kr.kd i.nums i.n1 i.n2 i.n3 (fun a ha => ⟨(i.nb a ha).1, (i.nb a ha).2.1⟩) (fun _ h1 h2 => ⟨h1, h2⟩)
theorem OutInv.end_ {W wr : World} {h : Nat} {k d : Int} {p : Option Addr} {n c : Nat} {f : Nat → Nat} {x : Value} {ts : List Raw} {cs : List Value} (i : OutInv W wr h k d p n c f x ts cs) :
    KD (Fr W ((((wr.setCell ⟨W.heap.size + 1, 0, none⟩ (.int .i64 k)).setCell ⟨W.heap.size + 1, 1, none⟩ (.int .i64 d)).setCell ⟨W.heap.size + 1, 2, none⟩ (.slice p n c)).setCell ⟨W.heap.size + 1, 3, none⟩ x)) (h + 1) ((((wr.setCell ⟨W.heap.size + 1, 0, none⟩ (.int .i64 k)).setCell ⟨W.heap.size + 1, 1, none⟩ (.int .i64 d)).setCell ⟨W.heap.size + 1, 2, none⟩ (.slice p n c)).setCell ⟨W.heap.size + 1, 3, none⟩ x) (.agg #[.int .i64 k, .int .i64 d, .slice p n c, x]) (.mk k d n f ts) ∧
    W.grownBy ((((wr.setCell ⟨W.heap.size + 1, 0, none⟩ (.int .i64 k)).setCell ⟨W.heap.size + 1, 1, none⟩ (.int .i64 d)).setCell ⟨W.heap.size + 1, 2, none⟩ (.slice p n c)).setCell ⟨W.heap.size + 1, 3, none⟩ x) none := by
  have ks : ∀ (w : World) (j : Nat) (y : Value), Kept (fun b => W.heap.size + 3 ≤ b ∧ b < wr.heap.size) w (w.setCell ⟨W.heap.size + 1, j, none⟩ y) := fun w j y => .set (fun hB => by have h2 : W.heap.size + 3 ≤ W.heap.size + 1 := hB.1; omega) y
  have gs : ∀ (w : World) (j : Nat) (y : Value), W.grownBy w none → W.grownBy (w.setCell ⟨W.heap.size + 1, j, none⟩ y) none := fun w j y g => gt_set_r g _ _ (Nat.le_succ _)
  refine ⟨((((i.kd.keep (ks _ _ _)).keep (ks _ _ _)).keep (ks _ _ _)).keep (ks _ _ _)).weak fun b hb => ⟨by have := hb.1; omega, by simp [World.setCell]; exact hb.2⟩, gs _ _ _ (gs _ _ _ (gs _ _ _ (gs _ _ _ i.g)))⟩
theorem one4 (a b : Int) (p q : Option Addr) (n c m c2 : Nat) : ∀ u ∈ (#[.int .i64 a, .int .i64 b, .slice p n c, .slice q m c2] : Array Value).toList, u.oneCell' = true := by
  intro u hu
  simp at hu
  rcases hu with rfl | rfl | rfl | rfl <;> rfl
end Go.Proofs.YtlpaecafpbbbkaaGreatDoor
namespace Go.Proofs.YtlpaecafpbbbkaaGreatDoor
open Go.RowKit

section
variable {e size base : Nat} {w0 W : World} {v0 v : Value} {n : Nat} {xs : List Value}
variable {P : Program} {ops : Array Oper} {o : Oper} {a : Act} {K : Act → World → Prop} {Q : Exit → Act → World → Prop} {E : Prop}
/-- The same, one new element or more; what comes of it is written out. -/
theorem app_cells2_step (hgd : o.guard = none) (s x : Operand) (t : TypeId) (ho : o.op = .call { callee := .builtin .append, args := #[s, x], argTypes := #[t, t] })
    (ht : P.underlying t = some (.slice e)) (z : Value) (bytes : Nat) (hinfo : (P.info? e).map (fun i => (i.zero, i.size, i.bytes)) = some (some z, size, bytes)) (hzs : z.cells.size = size) (hsz : 0 < size)
    (hs : a.eval s = v) {k m c : Nat} (hx : a.eval x = .slice (some ⟨k, 0, none⟩) m c) (hk : k = W.heap.size) (cs : Array Value) (hown : (W.alloc (.cells cs e)).ownsRow base e size v n xs) (hcl : cs.size = m * size) (h1 : ∀ u ∈ cs.toList, u.oneCell' = true)
    (hm : 0 < m) (hbase : base ≤ (W.alloc (.cells cs e)).heap.size) (hl : (n + m) * bytes ≤ 140737488355328) (hl2 : n + m ≤ 140737488355328)
    (h : ∀ g cap w', w'.ownsRow base e size (.slice (some ⟨g, 0, none⟩) (n + m) cap) (n + m) (xs ++ cs.toList) → (W.alloc (.cells cs e)).grownBy w' v.ownBlock → (v.ownBlock = some g ∨ g = (W.alloc (.cells cs e)).heap.size) → K (a.put o.dst (.slice (some ⟨g, 0, none⟩) (n + m) cap)) w') :
    if Region.wanted o (yielded ops a.tmps) = true then Oper.wp P o a (W.alloc (.cells cs e)) K Q else E := by
  have hw : Region.wanted o (yielded ops a.tmps) = true := by simp [Region.wanted, hgd]
  rw [if_pos hw]
  subst hk
  obtain ⟨i0, hi, hzz⟩ := Option.map_eq_some_iff.1 hinfo
  simp only [Prod.mk.injEq] at hzz
  obtain ⟨hz0, hz1, hz2⟩ := hzz
  obtain ⟨v', w', hr, r1, r2, _, r4⟩ := run_append_own_at (P := P) (W.alloc (.cells cs e)) base t o.type e i0 z size bytes ht hi hz0 hz1 hz2 hzs hsz v n xs hown ⟨W.heap.size, 0, none⟩ m c cs.toList (by simpa using hcl)
    (fun j u hj => by
      by_cases h0 : j = 0
      · subst h0; simp [Addr.add]; simpa using hj
      · simp [Addr.add, h0]; simpa using hj) h1 (by simp only [maxLen]; omega) hl hbase
  unfold Oper.wp execOp
  simp only [ho, resolve, invoke, builtin, Sem.run_bind, Sem.run_pure, Result.andThen_ok, List.map_toArray, List.map_cons, List.map_nil, hs, hx, hr]
  rcases r1.2 with ⟨_, h0⟩ | ⟨g, cap, cur, rfl, hrest⟩
  · omega
  · have hob : (Value.slice (some ⟨g, 0, none⟩) (n + m) cap).ownBlock = some g := rfl
    rw [hob] at r4
    refine h g cap w' r1 r2 ?_
    rcases r4 with hat | hat
    · exact .inl hat.symm
    · injection hat with hat; exact .inr hat
theorem AppV.set (h : AppV e size base w0 v0 W v n xs) {q : Addr} (hq : w0.heap.size ≤ q.block) (hv : v.ownBlock ≠ some q.block) (y : Value) : AppV e size base w0 v0 (W.setCell q y) v n xs := by
  refine ⟨h.own.kept (grown_set W q y) ?_, gt_set_r h.grown _ _ hq, h.at_⟩
  cases hx : v.ownBlock with
  | none => exact .inl rfl
  | some b => exact .inr fun e => hv (by rw [hx, e])
end
end Go.Proofs.YtlpaecafpbbbkaaGreatDoor
namespace Go.Proofs.YtlpaecafpbbbkaaGreatDoor
open Go.RowKit

/-- What holds of the world while a geometry is filled in block ob: W the call's world at its start, W1 the world in which the filling began, base its size: what lay below base stands, but ob. -/
structure Und (W W1 : World) (base ob : Nat) (wr : World) : Prop where
  g : W.grownBy wr none
  lo : W.heap.size ≤ ob
  lt : ob < base
  big : base ≤ wr.heap.size
  keep : ∀ a x, a.block < base → a.block ≠ ob → W1.cell? a = some x → wr.cell? a = some x
  kf : ∀ b j, b < base → b ≠ ob → wr.frozen? ⟨b, j, none⟩ = W1.frozen? ⟨b, j, none⟩
  of_ : ∀ j, wr.frozen? ⟨ob, j, none⟩ = false
section
variable {W W1 wr w w1 w2 : World} {base ob : Nat}
theorem Und.start (g : W.grownBy W1 none) (lo : W.heap.size ≤ ob) (lt : ob < W1.heap.size) (hf : ∀ j, W1.frozen? ⟨ob, j, none⟩ = false) : Und W W1 W1.heap.size ob W1 :=
  ⟨g, lo, lt, Nat.le_refl _, fun _ _ _ _ h => h, fun _ _ _ _ => rfl, hf⟩
theorem Und.grow (i : Und W W1 base ob wr) {r : Option Nat} (g : wr.grownBy w r) (hr : ∀ b, r = some b → base ≤ b) : Und W W1 base ob w := by
  have hb := i.big
  have hlo := i.lo
  have hlt := i.lt
  have hne : ∀ b, b < base → some b ≠ r := fun b h e => by have := hr b e.symm; omega
  refine ⟨gt_trans i.g g ?_, i.lo, i.lt, Nat.le_trans i.big g.size, fun a x h1 h2 h3 => g.cell (i.keep a x h1 h2 h3) (hne _ h1), fun b j h1 h2 => ?_, fun j => ?_⟩
  · cases hx : r with
    | none => exact .inl rfl
    | some b => exact .inr (.inr ⟨b, rfl, by have := hr b hx; omega⟩)
  · rw [World.frozen?_of_block (g.block b (by omega) (hne b h1))]; exact i.kf b j h1 h2
  · rw [World.frozen?_of_block (g.block ob (by omega) (hne ob hlt))]; exact i.of_ j
theorem Und.kept (i : Und W W1 base ob wr) (g : wr.grownBy w none) : Und W W1 base ob w := i.grow g (fun b e => by cases e)
theorem Und.set (i : Und W W1 base ob wr) (j : Nat) (y : Value) : Und W W1 base ob (wr.setCell ⟨ob, j, none⟩ y) := by
  have hsz : (wr.setCell ⟨ob, j, none⟩ y).heap.size = wr.heap.size := by simp [World.setCell]
  refine ⟨gt_set_r i.g _ _ i.lo, i.lo, i.lt, by rw [hsz]; exact i.big, fun a x h1 h2 h3 => ?_, fun b l h1 h2 => ?_, fun l => ?_⟩
  · rw [World.cell?_setCell_other (h := fun e => by subst e; exact h2 rfl)]; exact i.keep a x h1 h2 h3
  · rw [World.frozen?_setCell]; exact i.kf b l h1 h2
  · rw [World.frozen?_setCell]; exact i.of_ l
/-- The numbers grow; no parts yet. -/
structure NumB (W W1 : World) (base ob : Nat) (wr : World) (k d : Int) (x : Value) (n : Nat) (xs : List Value) : Prop where
  u : Und W W1 base ob wr
  o0 : wr.cell? ⟨ob, 0, none⟩ = some (.int .i64 k)
  o1 : wr.cell? ⟨ob, 1, none⟩ = some (.int .i64 d)
  o2 : wr.cell? ⟨ob, 2, none⟩ = some x
  o3 : wr.cell? ⟨ob, 3, none⟩ = some (.slice none 0 0)
  own : wr.ownsRow base 26 1 x n xs
variable {k d : Int} {x : Value} {n : Nat} {xs : List Value}
theorem NumB.kept (i : NumB W W1 base ob wr k d x n xs) (g : wr.grownBy w none) : NumB W W1 base ob w k d x n xs :=
  ⟨i.u.kept g, g.cell i.o0 (by simp), g.cell i.o1 (by simp), g.cell i.o2 (by simp), g.cell i.o3 (by simp), i.own.kept g (by cases x.ownBlock <;> simp)⟩
theorem NumB.app (i : NumB W W1 base ob wr k d x n xs) (g1 : wr.grownBy w1 none) (g2 : w1.grownBy w2 x.ownBlock) {x' : Value} {n' : Nat} {ys : List Value} (hown : w2.ownsRow base 26 1 x' n' ys) : NumB W W1 base ob (w2.setCell ⟨ob, 2, none⟩ x') k d x' n' ys := by
  have j := i.kept g1
  have hlt := j.own.lt
  have hb := j.u.lt
  have hr : ∀ b, x.ownBlock = some b → base ≤ b := fun b e => (hlt b e).1
  have hne : some ob ≠ x.ownBlock := fun e => by have := hr ob e.symm; omega
  have u2 := j.u.grow g2 hr
  have z2 := World.cell?_setCell_same (v := x') (h := g2.cell j.o2 hne)
  refine ⟨u2.set 2 x', ?_, ?_, z2, ?_, hown.kept (grown_set w2 ⟨ob, 2, none⟩ x') ?_⟩
  · rw [World.cell?_setCell_other (h := by simp)]; exact g2.cell j.o0 hne
  · rw [World.cell?_setCell_other (h := by simp)]; exact g2.cell j.o1 hne
  · rw [World.cell?_setCell_other (h := by simp)]; exact g2.cell j.o3 hne
  · cases hx : x'.ownBlock with
    | none => exact .inl rfl
    | some b => exact .inr fun e => by injection e with e; have := (hown.lt b hx).1; have e2 : b = ob := e; omega
/-- Floats as cells. -/
def flC (f : Nat → Nat) (n : Nat) : List Value := (List.range n).map fun i => .float .f64 (f i)
theorem flC_len (f : Nat → Nat) (n : Nat) : (flC f n).length = n := by simp [flC]
theorem flC_at (f : Nat → Nat) (n i : Nat) (h : i < n) : (flC f n)[i]? = some (.float .f64 (f i)) := by simp [flC, h]
/-- The numbers stand; the parts grow. -/
structure KidB (W W1 : World) (base ob : Nat) (wr : World) (h : Nat) (k d : Int) (p : Option Addr) (n c : Nat) (f : Nat → Nat) (y : Value) (ts : List Raw) (cs : List Value) : Prop where
  u : Und W W1 base ob wr
  o0 : wr.cell? ⟨ob, 0, none⟩ = some (.int .i64 k)
  o1 : wr.cell? ⟨ob, 1, none⟩ = some (.int .i64 d)
  o2 : wr.cell? ⟨ob, 2, none⟩ = some (.slice p n c)
  o3 : wr.cell? ⟨ob, 3, none⟩ = some y
  nums : FVal wr p n f
  n1 : n ≤ c
  n2 : c ≤ maxLen
  n3 : p = none → c = 0
  nb : ∀ a, p = some a → base ≤ a.block ∧ a.block < wr.heap.size ∧ y.ownBlock ≠ some a.block
  kr : KRow base h wr y ts cs
theorem KidB.of_num {f : Nat → Nat} (i : NumB W W1 base ob wr k d x n (flC f n)) (h : Nat) (hf : ∀ i, f i < 18446744073709551616) : ∃ p c, x = .slice p n c ∧ KidB W W1 base ob wr h k d p n c f (.slice none 0 0) [] [] := by
  obtain ⟨q, c, hx, hl1, hl2, hl3, hob⟩ := own_form i.own
  subst hx
  obtain ⟨s1, s2⟩ := own_at i.own
  refine ⟨q, c, rfl, i.u, i.o0, i.o1, i.o2, i.o3, ⟨s1, fun a ha j hj => s2 a ha j _ (flC_at f n j hj), hf⟩, hl1, hl2, hl3, fun a ha => ?_, KRow.nil _ _ _⟩
  have := i.own.lt a.block (hob a ha)
  exact ⟨this.1, this.2, by simp [Value.ownBlock]⟩
variable {p : Option Addr} {c h : Nat} {f : Nat → Nat} {y : Value} {ts : List Raw} {cs : List Value}
theorem KidB.kept (i : KidB W W1 base ob wr h k d p n c f y ts cs) (g : wr.grownBy w none) : KidB W W1 base ob w h k d p n c f y ts cs :=
  ⟨i.u.kept g, g.cell i.o0 (by simp), g.cell i.o1 (by simp), g.cell i.o2 (by simp), g.cell i.o3 (by simp), i.nums.mono g, i.n1, i.n2, i.n3, fun a ha => ⟨(i.nb a ha).1, Nat.lt_of_lt_of_le (i.nb a ha).2.1 g.size, (i.nb a ha).2.2⟩, i.kr.kept g⟩
theorem KidB.snoc {w1 w2 w3 w4 : World} (i : KidB W W1 base ob wr h k d p n c f y ts cs) (g1 : wr.grownBy w1 none) (g2 : w1.grownBy w2 none) (g3 : w2.grownBy w3 none) {c0 c1 c2 c3 : Value} {t : Raw} (hk : KD (Fr w1 w2) h w2 (.agg #[c0, c1, c2, c3]) t) {gg cap : Nat}
    (hown : w4.ownsRow base 33 4 (.slice (some ⟨gg, 0, none⟩) (ts.length + 1) cap) (ts.length + 1) (cs ++ [c0, c1, c2, c3])) (g4 : w3.grownBy w4 y.ownBlock) (hg : y.ownBlock = some gg ∨ gg = w3.heap.size) :
    KidB W W1 base ob (w4.setCell ⟨ob, 3, none⟩ (.slice (some ⟨gg, 0, none⟩) (ts.length + 1) cap)) h k d p n c f (.slice (some ⟨gg, 0, none⟩) (ts.length + 1) cap) (ts ++ [t]) (cs ++ [c0, c1, c2, c3]) := by
  have hsn := i.kr.snoc i.u.big g1 g2 g3 hk hown g4 hg
  have j := ((i.kept g1).kept g2).kept g3
  have hlt := i.kr.1.lt
  have hb := i.u.big
  have hlo := i.u.lt
  have s1 := g1.size
  have s2 := g2.size
  have s3 := g3.size
  have s4 := g4.size
  have hr : ∀ b, y.ownBlock = some b → base ≤ b := fun b e => (hlt b e).1
  have hne : some ob ≠ y.ownBlock := fun e => by have := hr ob e.symm; omega
  have hsz : (w4.setCell ⟨ob, 3, none⟩ (.slice (some ⟨gg, 0, none⟩) (ts.length + 1) cap)).heap.size = w4.heap.size := by simp [World.setCell]
  have z3 := World.cell?_setCell_same (v := .slice (some ⟨gg, 0, none⟩) (ts.length + 1) cap) (h := g4.cell j.o3 hne)
  refine ⟨(j.u.grow g4 hr).set 3 _, ?_, ?_, ?_, z3, ?_, i.n1, i.n2, i.n3, ?_, hsn.set (by show ob < base; omega) _⟩
  · rw [World.cell?_setCell_other (h := by simp)]; exact g4.cell j.o0 hne
  · rw [World.cell?_setCell_other (h := by simp)]; exact g4.cell j.o1 hne
  · rw [World.cell?_setCell_other (h := by simp)]; exact g4.cell j.o2 hne
  · have h1 := j.nums.keep (B := fun b => base ≤ b ∧ b < w3.heap.size ∧ y.ownBlock ≠ some b) (.grownRow g4 (fun b hb' hB => hB.2.2 hb')) j.nb
    exact h1.keep (B := fun b => base ≤ b ∧ b < w3.heap.size ∧ y.ownBlock ≠ some b) (.set (fun hB => by have h2 : base ≤ ob := hB.1; omega) _) j.nb
  · intro a ha
    obtain ⟨b1, b2, b3⟩ := j.nb a ha
    refine ⟨b1, by rw [hsz]; omega, fun e => ?_⟩
    have e' : gg = a.block := by injection e
    rcases hg with hg | hg
    · exact b3 (by rw [hg, e'])
    · omega
theorem KidB.kd (i : KidB W W1 base ob wr h k d p n c f y ts cs) : KD (fun b => base ≤ b ∧ b < wr.heap.size) (h + 1) wr (.agg #[.int .i64 k, .int .i64 d, .slice p n c, y]) (.mk k d n f ts) :=
  i.kr.kd i.nums i.n1 i.n2 i.n3 (fun a ha => ⟨(i.nb a ha).1, (i.nb a ha).2.1⟩) (fun _ h1 h2 => ⟨h1, h2⟩)
/-- The whole geometry, laid into the result's block. -/
theorem KidB.end_ (i : KidB W W1 base ob wr h k d p n c f y ts cs) (rb : Nat) (hr : W.heap.size ≤ rb) (hr2 : rb < base) :
    KD (Fr W ((((wr.setCell ⟨rb, 0, none⟩ (.int .i64 k)).setCell ⟨rb, 1, none⟩ (.int .i64 d)).setCell ⟨rb, 2, none⟩ (.slice p n c)).setCell ⟨rb, 3, none⟩ y)) (h + 1) ((((wr.setCell ⟨rb, 0, none⟩ (.int .i64 k)).setCell ⟨rb, 1, none⟩ (.int .i64 d)).setCell ⟨rb, 2, none⟩ (.slice p n c)).setCell ⟨rb, 3, none⟩ y) (.agg #[.int .i64 k, .int .i64 d, .slice p n c, y]) (.mk k d n f ts) ∧
    W.grownBy ((((wr.setCell ⟨rb, 0, none⟩ (.int .i64 k)).setCell ⟨rb, 1, none⟩ (.int .i64 d)).setCell ⟨rb, 2, none⟩ (.slice p n c)).setCell ⟨rb, 3, none⟩ y) none := by
  have hlo := i.u.lo
  have hlt := i.u.lt
  have ks : ∀ (w : World) (j : Nat) (y : Value), Kept (fun b => base ≤ b ∧ b < wr.heap.size) w (w.setCell ⟨rb, j, none⟩ y) := fun w j y => .set (fun hB => by have h2 : base ≤ rb := hB.1; omega) y
  have gs : ∀ (w : World) (j : Nat) (y : Value), W.grownBy w none → W.grownBy (w.setCell ⟨rb, j, none⟩ y) none := fun w j y g => gt_set_r g _ _ hr
  refine ⟨((((i.kd.keep (ks _ _ _)).keep (ks _ _ _)).keep (ks _ _ _)).keep (ks _ _ _)).weak fun b hb => ⟨by have := hb.1; omega, by simp [World.setCell]; exact hb.2⟩, gs _ _ _ (gs _ _ _ (gs _ _ _ (gs _ _ _ i.u.g)))⟩
end
end Go.Proofs.YtlpaecafpbbbkaaGreatDoor
namespace Go.Proofs.YtlpaecafpbbbkaaGreatDoor
open Go.RowKit

/-- The writer's state in block rb: what it has written, x, holds the bytes l; what it has written lies in blocks newer than V. -/
structure WS (V W : World) (rb : Nat) (x : Value) (l : List UInt8) : Prop where
  g : V.grownBy W none
  lo : V.heap.size ≤ rb
  c0 : W.cell? ⟨rb, 0, none⟩ = some x
  c1 : W.cell? ⟨rb, 1, none⟩ = some (.slice none 0 0)
  fz : ∀ j, W.frozen? ⟨rb, j, none⟩ = false
  own : W.ownsRow V.heap.size 5 1 x l.length (Bs l)
  ne : x.ownBlock ≠ some rb
/-- All stands but what lies in the blocks rb and ob. -/
structure Two (W w : World) (rb : Nat) (ob : Option Nat) : Prop where
  os : w.os = W.os
  tape : w.tape = W.tape
  output : w.output = W.output
  size : W.heap.size ≤ w.heap.size
  block : ∀ i, i < W.heap.size → i ≠ rb → some i ≠ ob → w.heap[i]? = W.heap[i]?
/-- From state x the writer has come to x', which holds the bytes l. -/
structure WT (V W w : World) (rb : Nat) (x x' : Value) (l : List UInt8) : Prop where
  s : WS V w rb x' l
  t : Two W w rb x.ownBlock
  at_ : x'.ownBlock = x.ownBlock ∨ ∃ b, x'.ownBlock = some b ∧ W.heap.size ≤ b
section
variable {V W w w1 w2 w3 : World} {rb : Nat} {x x' x1 x2 : Value} {l l1 l2 : List UInt8}
theorem WS.lt (h : WS V W rb x l) : rb < W.heap.size := World.block_lt_of_cell? W _ h.c0
theorem WS.kept (h : WS V W rb x l) (g : W.grownBy w none) : WS V w rb x l :=
  ⟨gt_trans h.g g (.inl rfl), h.lo, g.cell h.c0 (by simp), g.cell h.c1 (by simp), fun j => by rw [World.frozen?_of_block (g.block rb h.lt (by simp))]; exact h.fz j, h.own.kept g (by cases x.ownBlock <;> simp), h.ne⟩
theorem Two.refl (W : World) (rb : Nat) (ob : Option Nat) : Two W W rb ob := ⟨rfl, rfl, rfl, Nat.le_refl _, fun _ _ _ _ => rfl⟩
theorem Two.grow (h : Two W w rb x.ownBlock) (g : w.grownBy w1 none) : Two W w1 rb x.ownBlock :=
  ⟨g.os.trans h.os, g.tape.trans h.tape, g.output.trans h.output, Nat.le_trans h.size g.size, fun i hi h1 h2 => (g.block i (Nat.lt_of_lt_of_le hi h.size) (by simp)).trans (h.block i hi h1 h2)⟩
theorem WT.start (h : WS V W rb x l) : WT V W W rb x x l := ⟨h, .refl _ _ _, .inl rfl⟩
theorem WT.trans (h : WT V W w rb x x1 l1) (k : WT V w w2 rb x1 x2 l2) : WT V W w2 rb x x2 l2 := by
  refine ⟨k.s, ⟨k.t.os.trans h.t.os, k.t.tape.trans h.t.tape, k.t.output.trans h.t.output, Nat.le_trans h.t.size k.t.size, fun i hi h1 h2 => ?_⟩, ?_⟩
  · refine (k.t.block i (Nat.lt_of_lt_of_le hi h.t.size) h1 (fun e => ?_)).trans (h.t.block i hi h1 h2)
    rcases h.at_ with ha | ⟨b, ha, hb⟩
    · exact h2 (e.trans ha)
    · rw [ha] at e; injection e with e; omega
  · rcases k.at_ with k' | ⟨b, k', hb⟩
    · rcases h.at_ with h' | ⟨b, h', hb⟩
      · exact .inl (k'.trans h')
      · exact .inr ⟨b, k'.trans h', hb⟩
    · exact .inr ⟨b, k', Nat.le_trans h.t.size hb⟩
/-- Something grows beside, ahead of what is written or behind it. -/
theorem WT.kept (h : WT V W w rb x x1 l1) (g : w.grownBy w1 none) : WT V W w1 rb x x1 l1 := ⟨h.s.kept g, h.t.grow g, h.at_⟩
theorem WT.ahead (h : WS V W rb x l) (g : W.grownBy w none) (k : WT V w w1 rb x x1 l1) : WT V W w1 rb x x1 l1 := ((WT.start h).kept g).trans k
/-- What lies in another block stands, and is no part of what is written. -/
theorem WT.other (h : WT V W w rb x x' l) {b : Nat} (hb : b < W.heap.size) (h1 : b ≠ rb) (h2 : some b ≠ x.ownBlock) : w.heap[b]? = W.heap[b]? ∧ some b ≠ x'.ownBlock ∧ b < w.heap.size := by
  refine ⟨h.t.block b hb h1 h2, fun e => ?_, Nat.lt_of_lt_of_le hb h.t.size⟩
  rcases h.at_ with ha | ⟨c, ha, hc⟩
  · exact h2 (e.trans ha)
  · rw [ha] at e; injection e with e; omega
theorem WT.cell (h : WT V W w rb x x' l) {b j : Nat} {y : Value} (h1 : b ≠ rb) (h2 : some b ≠ x.ownBlock) (hc : W.cell? ⟨b, j, none⟩ = some y) : w.cell? ⟨b, j, none⟩ = some y := by
  have hb := World.block_lt_of_cell? W _ hc
  exact (World.cell?_of_block (h.other hb h1 h2).1).trans hc
/-- A block newer than the writer's state is no part of it. -/
theorem WS.new (h : WS V W rb x l) {b : Nat} (hb : W.heap.size ≤ b) : b ≠ rb ∧ some b ≠ x.ownBlock := by
  have := h.lt
  refine ⟨by omega, fun e => ?_⟩
  have := (h.own.lt b e.symm).2
  omega
/-- A row of bytes that is put behind what is written. -/
theorem WS.app (h : WS V W rb x l) (g1 : W.grownBy w1 none) {m gg cap : Nat} {cs : List UInt8} (hown : w2.ownsRow V.heap.size 5 1 (.slice (some ⟨gg, 0, none⟩) (l.length + m) cap) (l.length + m) (Bs l ++ Bs cs)) (hm : cs.length = m) (hg : w1.grownBy w2 x.ownBlock) (hat : x.ownBlock = some gg ∨ gg = w1.heap.size) :
    WT V W (w2.setCell ⟨rb, 0, none⟩ (.slice (some ⟨gg, 0, none⟩) (l.length + m) cap)) rb x (.slice (some ⟨gg, 0, none⟩) (l.length + m) cap) (l ++ cs) := by
  have k := h.kept g1
  have hlt := k.own.lt
  have hrb := h.lt
  have hs1 := g1.size
  have hne : some rb ≠ x.ownBlock := fun e => h.ne e.symm
  have hob : (Value.slice (some ⟨gg, 0, none⟩) (l.length + m) cap).ownBlock = some gg := rfl
  have hgr : gg ≠ rb := by
    rcases hat with e | e
    · exact fun e2 => hne (by rw [e, e2])
    · omega
  have z := World.cell?_setCell_same (v := .slice (some ⟨gg, 0, none⟩) (l.length + m) cap) (h := hg.cell k.c0 hne)
  have hl : (l ++ cs).length = l.length + m := by rw [List.length_append, hm]
  refine ⟨⟨?_, h.lo, z, ?_, fun j => ?_, ?_, ?_⟩, ⟨?_, ?_, ?_, ?_, fun i hi h1 h2 => ?_⟩, ?_⟩
  · refine gt_set_r (gt_trans (gt_trans h.g g1 (.inl rfl)) hg ?_) _ _ h.lo
    cases hx : x.ownBlock with
    | none => exact .inl rfl
    | some b => exact .inr (.inr ⟨b, rfl, (hlt b hx).1⟩)
  · rw [World.cell?_setCell_other (h := by simp)]; exact hg.cell k.c1 hne
  · rw [World.frozen?_setCell, World.frozen?_of_block (hg.block rb (by omega) hne)]; exact k.fz j
  · rw [hl, Bs_append]
    refine hown.kept (grown_set w2 ⟨rb, 0, none⟩ _) (.inr ?_)
    rw [hob]; exact fun e => by injection e with e; exact hgr e
  · rw [hob]; exact fun e => by injection e with e; exact hgr e
  · exact (hg.os.trans g1.os)
  · exact (hg.tape.trans g1.tape)
  · exact (hg.output.trans g1.output)
  · exact Nat.le_trans (Nat.le_trans hs1 hg.size) (by simp [World.setCell])
  · refine (Below.heap_setCell w2 ⟨rb, 0, none⟩ _ i h1).trans ((hg.block i (by omega) h2).trans (g1.block i hi (by simp)))
  · rw [hob]
    rcases hat with e | e
    · exact .inl e.symm
    · exact .inr ⟨gg, rfl, by omega⟩
end
theorem leBytes_snoc : ∀ (k v : Nat), Lib.leBytes (k + 1) v = Lib.leBytes k v ++ [(v / 256 ^ k % 256).toUInt8]
  | 0, v => by simp [Lib.leBytes]
  | k + 1, v => by
    show (v % 256).toUInt8 :: Lib.leBytes (k + 1) (v / 256) = (v % 256).toUInt8 :: (Lib.leBytes k (v / 256) ++ _)
    rw [leBytes_snoc k (v / 256), Nat.div_div_eq_div_mul, Nat.pow_succ, Nat.mul_comm 256]
theorem toU8 (v : Nat) (h : v < 256) : (v.toUInt8).toNat = v := by
  have := Lib.toUInt8_mod v
  rwa [Nat.mod_eq_of_lt h] at this
end Go.Proofs.YtlpaecafpbbbkaaGreatDoor
