/- The reference's place in GeoJSON: the same text as the package's. -/
import Derived.Test.YthcjnadceambgaaGreatDoorU
namespace Go.Proofs.YthcjnadceambgaaGreatDoor
open Go.RowKit

def sCells (s : Nat → List UInt8) (k : Nat) : List Value := (List.range k).map fun i => .string ⟨(s i).toArray⟩
theorem sCells_succ (s : Nat → List UInt8) (k : Nat) : sCells s (k + 1) = sCells s k ++ [.string ⟨(s k).toArray⟩] := by simp [sCells, List.range_succ]
theorem own_at {w : World} {base n c : Nat} {e : TypeId} {p : Option Addr} {xs : List Value} (h : w.ownsRow base e 1 (.slice p n c) n xs) : (0 < n → ∃ a, p = some a) ∧ ∀ a, p = some a → ∀ i v, xs[i]? = some v → w.cell? (a.add i) = some v := by
  refine ⟨fun hn => ?_, fun a ha i v hv => ?_⟩
  · rcases h.2 with h' | ⟨g, cap, cur, hv, _⟩
    · omega
    · injection hv with h1; exact ⟨_, h1⟩
  · rcases h.2 with h' | ⟨g, cap, cur, hv', _⟩
    · have := h'.1; rw [ha] at this; cases this
    · injection hv' with h1 h2 h3
      subst h3
      rw [h1] at ha h
      injection ha with ha
      subst ha
      exact h.cells rfl i v hv
theorem AppV.srow {e base : Nat} {w0 w : World} {v0 : Value} {p : Option Addr} {n c : Nat} {s : Nat → List UInt8} (h : AppV e 1 base w0 v0 w (.slice p n c) n (sCells s n)) : SRow w p n s := by
  obtain ⟨h1, h2⟩ := own_at h.own
  refine ⟨h1, fun a ha i hi => h2 a ha i _ ?_⟩
  simp [sCells, hi]
theorem AppV.fval {e base : Nat} {w0 w : World} {v0 : Value} {p : Option Addr} {n c : Nat} {f : Nat → Nat} (hf : ∀ i, f i < 18446744073709551616) {xs : List Value} (hx : ∀ i, i < n → xs[i]? = some (.float .f64 (f i))) (h : AppV e 1 base w0 v0 w (.slice p n c) n xs) : FVal w p n f := by
  obtain ⟨h1, h2⟩ := own_at h.own
  exact ⟨h1, fun a ha i hi => h2 a ha i _ (hx i hi), hf⟩
theorem infoS : (Tryz.prog.info? 9).map (fun i => (i.zero, i.size, i.bytes)) = some (some (.string ⟨#[]⟩), 1, 16) := by kernel_rfl

set_option maxRecDepth 100000 in
set_option maxHeartbeats 2000000 in
theorem jsonPlace_in (T : Nat → Int) (hT : ∀ i, U64 (T i)) (x y z m r : Nat) (bi : Int) (c : Nat) (hc : c ≤ 3) (f : Nat → Nat) (hf : ∀ i, f i < 18446744073709551616) (xs : List Value) (hxs : ∀ i, i < c → xs[i]? = some (.float .f64 (f i)))
    (hB : bits .and .i64 (r : Int) 1 = bi)
    (hN : ∀ (W' : World) (p : Option Addr), PRow W' p 1 (fun _ => x) (fun _ => y) (fun _ => z) (fun _ => m) → Calls Tryz.prog 60 #[.slice p 1 1, .int .i64 bi] W' fun e w' => ∃ v, e = .returned v ∧ AppV 60 1 W'.heap.size W' (.slice none 0 0) w' v c xs)
    (W : World) (ht : Tabs T W) :
    Calls Tryz.prog 85 #[.agg #[.float .f64 x, .float .f64 y, .float .f64 z, .float .f64 m], .int .i64 r] W fun e w' => e = .returned (.string ⟨([91] ++ cTo (fun i => decT T (f i)) c ++ [93]).toArray⟩) ∧ W.grownBy w' none := by
  have hsf := run_store_flt Tryz.prog
  have HG := Lib.hid (gt_alloc_r (World.grownBy_alloc W (.cells #[.float .f64 x, .float .f64 y, .float .f64 z, .float .f64 m] 92) none) (.cells #[.float .f64 x, .float .f64 y, .float .f64 z, .float .f64 m] 92))
  have HT := Lib.hid (fun w (g : W.grownBy w none) => ht.mono g (by simp) (by simp))
  have HN := Lib.hid (fun W' (h0 : W'.cell? ⟨W.heap.size + 1, 0, none⟩ = some (.float .f64 x)) (h1 : W'.cell? ⟨W.heap.size + 1, 1, none⟩ = some (.float .f64 y)) (h2 : W'.cell? ⟨W.heap.size + 1, 2, none⟩ = some (.float .f64 z)) (h3 : W'.cell? ⟨W.heap.size + 1, 3, none⟩ = some (.float .f64 m)) =>
    hN W' (some ⟨W.heap.size + 1, 0, none⟩) ⟨fun _ => ⟨_, rfl⟩, fun a ha i hi => by
      injection ha with ha; subst ha; obtain rfl : i = 0 := by omega
      exact ⟨h0, h1, h2, h3⟩⟩)
  have HW := Lib.hid (fun i w (g : W.grownBy w none) => WriteNumber_any T hT (f i) (hf i) w (ht.mono g (by simp) (by simp)))
  have hlen : Hid ((cTo (fun i => decT T (f i)) c).length ≤ 30000000) := by
    have h0 := decT_len T (f 0)
    have h1 := decT_len T (f 1)
    have h2 := decT_len T (f 2)
    have h3 := cTo_le (fun i => decT T (f i)) 3 c hc
    have e : (cTo (fun i => decT T (f i)) 3).length ≤ 12002 := by simp only [cTo, List.length_append, List.length_cons, List.length_nil]; simp; omega
    show _ ≤ _
    omega
  have HL := Lib.hid (fun p cap w (h : SRow w p c (fun i => decT T (f i))) => jsonList_any p c cap (fun i => decT T (f i)) hlen.out (by omega) w h)
  have HFV : Hid (∀ (w0 w : World) (p : Option Addr) (cc : Nat), AppV 60 1 w0.heap.size w0 (.slice none 0 0) w (.slice p c cc) c xs → FVal w p c f) := fun w0 w p cc h => h.fval hf hxs
  obtain ⟨J, hJ⟩ : ∃ J : ByteArray, J = ⟨([91] ++ cTo (fun i => decT T (f i)) c ++ [93]).toArray⟩ := ⟨_, rfl⟩
  rw [← hJ] at HL ⊢
  obtain ⟨s, hs⟩ : ∃ s : Nat → List UInt8, s = fun i => decT T (f i) := ⟨_, rfl⟩
  have hs' : ∀ i, decT T (f i) = s i := fun i => by rw [hs]
  simp only [hs'] at HW
  rw [← hs] at HL
  clear hJ hs hs' hN ht hlen hxs
  go_enter Tryz.func85, Tryz.ntmps85
  go_wp2_with (first
    | (go_at_call 60; refine (HN.out _ (by simp) (by simp) (by simp) (by simp)).mono ?_; rintro e w' ⟨v, rfl, hv⟩; obtain ⟨p, cc, rfl⟩ := hv.slice))
  have hfv := HFV.out _ _ _ _ hv
  have HGN := Lib.hid (gt_trans HG.out hv.grown0 (.inl rfl))
  clear hv
  rename_i wN
  go_loopw [5, 14] (fun x i wr => ∃ k : Nat, k ≤ c ∧ i = .int .i64 k ∧ AppV 9 1 w'.heap.size w' (.slice none 0 0) wr x k (sCells s k)) (fun _ i _ => c - (intOf i).toNat)
  case atStart => exact ⟨0, by omega, rfl, AppV.nil _ _ _ _⟩
  case round =>
    obtain ⟨k, hk, rfl, H⟩ := hrel
    rename World => wr
    by_cases hkn : k < c
    · obtain ⟨a, rfl⟩ := hfv.some_ (by omega)
      have q := (hfv.mono H.grown0).at_ a rfl k hkn
      have HWk := Lib.hid (HW.out k wr (gt_trans HGN.out H.grown0 (.inl rfl)))
      go_wp2_with (first
        | (go_at_call 118; refine HWk.out.mono ?_; rintro e w'' ⟨rfl, hb⟩; have H1 := H.beside (gt_below hb none); clear H; have H := H1; clear H1)
        | (at_builtin; refine app_cells rfl _ _ _ rfl Tryz.underlying36 (.string ⟨#[]⟩) 16 infoS rfl (by omega) H rfl rfl (by first | rfl | simp) _ (by first | rfl | simp) (by simp [Value.oneCell']) (Nat.le_refl _) (by omega) (by omega) ?_; intro v1 w1 H1; clear H; have H := H1; clear H1))
      refine ⟨⟨k + 1, by omega, by go_num, ?_⟩, by simp [intOf]; omega⟩
      rw [sCells_succ]
      simpa using H
    · obtain rfl : k = c := by omega
      obtain ⟨p2, c2, rfl⟩ := H.slice
      have HLk := Lib.hid (HL.out p2 c2 wr H.srow)
      go_wp2_with (first
        | (go_at_call 86; refine HLk.out.mono ?_; rintro e w'' ⟨rfl, rfl⟩))
      go_ret
      exact ⟨rfl, gt_trans HGN.out H.grown0 (.inl rfl)⟩
end Go.Proofs.YthcjnadceambgaaGreatDoor
