/- The package's GeoJSON objects of points, lines, several points. The package's GeoJSON object of several points. impl.WriteJSON of every kind; the reference's WriteJSON of the kinds that have a GeoJSON. FnJSONSame, walked whole: whatever the geometry, it answers true. What was handed in reads as it did, behind a call that only makes new memory. The two tables of strconv, out of what a row lists. -/
import Derived.RegionTactic
import Derived.ChangeAlike
import Derived.Test.YthcjnadceambgaaGreatDoorRows
import Derived.ReadAgain
import Derived.Below
import Derived.ChangeBears
import Derived.ChangeReads
import Derived.Lib.LaidU8
import Derived.OpenShut
import Derived.ProofKit
import Derived.Test.YthcjnadceambgaaGreatDoorJST23
namespace Go.Proofs.YthcjnadceambgaaGreatDoor
open Go.RowKit

set_option maxRecDepth 100000 in
set_option maxHeartbeats 1000000 in
theorem PtCo_any (x y z m r : Nat) (b : Bool) (W : World) : Calls Tryz.prog 79 #[.agg #[.float .f64 x, .float .f64 y, .float .f64 z, .float .f64 m, .int .u8 r, .bool b]] W fun e w' => e = .returned (.tuple #[.agg #[.float .f64 x, .float .f64 y, .float .f64 z, .float .f64 m, .int .u8 r], .bool b]) ∧ W.grownBy w' none := by
  have hsf := run_store_flt Tryz.prog
  go_enter Tryz.func79, Tryz.ntmps79
  go_wp2_with fail
  go_region
  all_goals
    go_wp2_with fail
    go_returns
    exact ⟨rfl, gt_below (by go_grown) none⟩
theorem AppB.toV {e base : Nat} {w0 w : World} {v0 v : Value} {l : List UInt8} (h : AppB e base w0 v0 w v l) : AppV e 1 base w0 v0 w v l.length (Bs l) := ⟨h.own, h.grown, h.at_⟩
theorem AppV.toB2 {e base : Nat} {w0 w : World} {v0 v : Value} {l : List UInt8} (h : AppV e 1 base w0 v0 w v (l.length + 2) (Bs l ++ [.int .u8 91, .int .u8 93])) : AppB e base w0 v0 w v (l ++ [91, 93]) :=
  ⟨by have := h.own; rw [Bs_append, List.length_append]; exact this, h.grown, h.at_⟩
theorem jb_pt (T : Nat → Int) (r n : Nat) (f : Nat → Nat) (kids : List Raw) : jbT T (.mk 1 (r : Nat) n f kids) = if n / widN r = 0 then [91, 93] else jsonPl T (plX r f 0) (plY r f 0) (plZ r f 0) r := by unfold jbT; rw [Int.toNat_natCast, if_pos rfl]

set_option maxRecDepth 100000 in
set_option maxHeartbeats 2000000 in
theorem LineMarshalC (T : Nat → Int) (hT : ∀ i, U64 (T i)) : JMC DLine 43 T 2 := by
  intro B W v t hd hok hpl hB ht
  obtain ⟨r, p, n, c, rfl⟩ := DLine.form2 hd
  have hlen := jbT_len T t
  have HG := Lib.hid (World.grownBy_alloc W (.cells #[.int .u8 r, .slice p n c] 45) none)
  have H : AppB 5 W.heap.size (W.alloc (.cells #[.int .u8 r, .slice p n c] 45)) (.slice none 0 0) (W.alloc (.cells #[.int .u8 r, .slice p n c] 45)) (.slice none 0 0) [] := AppB.nil _ _ _
  have hbase0 : W.heap.size ≤ (W.alloc (.cells #[.int .u8 r, .slice p n c] 45)).heap.size := by simp
  have HC : Hid (∀ w v' l', AppB 5 W.heap.size (W.alloc (.cells #[.int .u8 r, .slice p n c] 45)) (.slice none 0 0) w v' l' → w.cell? ⟨W.heap.size, 0, none⟩ = some (.int .u8 r) ∧ w.cell? ⟨W.heap.size, 1, none⟩ = some (.slice p n c)) := fun w v' l' h => by
    refine ⟨?_, ?_⟩ <;> (rw [h.cell (by simp) (by simp [Value.ownBlock])]; simp)
  have HA : Hid (∀ w v' l', AppB 5 W.heap.size (W.alloc (.cells #[.int .u8 r, .slice p n c] 45)) (.slice none 0 0) w v' l' → l'.length ≤ 1000 → Calls Tryz.prog 74 #[v', .agg #[.int .u8 r, .slice p n c]] w (AppEnd 5 W.heap.size w v' (l' ++ jbT T t))) := fun w v' l' h hl => by
    have g0 : W.grownBy w none := gt_trans HG.out h.grown (.inl rfl)
    refine SeqQC T hT B w _ t l' W.heap.size v' (DLine.dk.mono g0 hd) hok h.own ((⟨ht, ht.lt3, ht.lt2, Nat.le_refl _⟩ : Bsd T W.heap.size W).mono g0 (fun b e => by cases e)) (by omega) (fun b hb => ?_)
    have hlt := h.own.lt
    have := hB b hb
    exact ⟨Nat.lt_of_lt_of_le this g0.size, fun e => by have := (hlt b e).1; omega⟩
  generalize jbT T t = tx at HA hlen ⊢
  have htx : tx.length ≤ 48300000 := by omega
  clear hd hok hpl hB ht hlen
  go_enter Tryz.func43, Tryz.ntmps43
  go_wp2_with (first
    | (at_builtin; refine app_str rfl _ _ _ _ rfl Tryz.underlying33 Tryz.underlying9 infoB H rfl _ rfl hbase0 (by simp [ByteArray.size]) ?_; intro v1 w1 H1; clear H; have H := H1; clear H1; obtain ⟨k0, k1⟩ := HC.out _ _ _ H)
    | (go_at_call 74; refine (HA.out _ _ _ H (by simp)).mono ?_; rintro e w' ⟨v', rfl, H'⟩; have H1 := H.trans H'; clear H H'; have H := H1; clear H1)
    | (at_builtin; refine app_byte rfl _ _ _ rfl Tryz.underlying33 infoB H rfl _ 125 rfl rfl (by first | rfl | simp) hbase0 (by (try simp only [List.length_append, List.length_cons, List.length_nil]); omega) ?_; intro v1 w1 H1; clear H; have H := H1; clear H1))
  have H2 := ((AppB.nil W 5 W.heap.size).beside HG.out).trans H
  go_returns
  refine ⟨v1, rfl, ?_⟩
  have hh : jHead 2 = jHead2 := by simp [jHead]
  rw [hh]
  simpa only [jHead2, List.append_assoc, List.nil_append, List.cons_append] using H2

set_option maxRecDepth 100000 in
set_option maxHeartbeats 2000000 in
theorem PtMarshal_true (T : Nat → Int) (hT : ∀ i, U64 (T i)) (x y z m r : Nat) (W : World) (hx : x < 18446744073709551616) (hy : y < 18446744073709551616) (hz : z < 18446744073709551616) (hr : r < 4) (ht : Tabs T W) : Calls Tryz.prog 42 #[.agg #[.float .f64 x, .float .f64 y, .float .f64 z, .float .f64 m, .int .u8 r, .bool true]] W fun e w' => ∃ v', e = .returned (.tuple #[v', .nilIface]) ∧ AppB 5 W.heap.size W (.slice none 0 0) w' v' (jHead 1 ++ jsonPl T x y z r ++ [125]) := by
  have HG := Lib.hid (World.grownBy_alloc W (.cells #[.float .f64 x, .float .f64 y, .float .f64 z, .float .f64 m, .int .u8 r, .bool true] 71) none)
  have H : AppB 5 W.heap.size (W.alloc (.cells #[.float .f64 x, .float .f64 y, .float .f64 z, .float .f64 m, .int .u8 r, .bool true] 71)) (.slice none 0 0) (W.alloc (.cells #[.float .f64 x, .float .f64 y, .float .f64 z, .float .f64 m, .int .u8 r, .bool true] 71)) (.slice none 0 0) [] := AppB.nil _ _ _
  have hbase0 : W.heap.size ≤ (W.alloc (.cells #[.float .f64 x, .float .f64 y, .float .f64 z, .float .f64 m, .int .u8 r, .bool true] 71)).heap.size := by simp
  have HC : Hid (∀ w v' l', AppB 5 W.heap.size (W.alloc (.cells #[.float .f64 x, .float .f64 y, .float .f64 z, .float .f64 m, .int .u8 r, .bool true] 71)) (.slice none 0 0) w v' l' → w.cell? ⟨W.heap.size, 0, none⟩ = some (.float .f64 x) ∧ w.cell? ⟨W.heap.size, 1, none⟩ = some (.float .f64 y) ∧ w.cell? ⟨W.heap.size, 2, none⟩ = some (.float .f64 z) ∧ w.cell? ⟨W.heap.size, 3, none⟩ = some (.float .f64 m) ∧ w.cell? ⟨W.heap.size, 4, none⟩ = some (.int .u8 r) ∧ w.cell? ⟨W.heap.size, 5, none⟩ = some (.bool true)) := fun w v' l' h => by
    refine ⟨?_, ?_, ?_, ?_, ?_, ?_⟩ <;> (rw [h.cell (by simp) (by simp [Value.ownBlock])]; simp)
  have HA : Hid (∀ w v' l', AppB 5 W.heap.size (W.alloc (.cells #[.float .f64 x, .float .f64 y, .float .f64 z, .float .f64 m, .int .u8 r, .bool true] 71)) (.slice none 0 0) w v' l' → l'.length ≤ 1000 → Calls Tryz.prog 73 #[v', .agg #[.float .f64 x, .float .f64 y, .float .f64 z, .float .f64 m, .int .u8 r]] w (AppEnd 5 W.heap.size w v' (l' ++ jsonPl T x y z r))) := fun w v' l' h hl => by
    have g0 : W.grownBy w none := gt_trans HG.out h.grown (.inl rfl)
    exact appendGeoJSONCoordinate_any T hT x y z m r hx hy hz (by omega) (by omega) W.heap.size v' l' w h.own g0.size (by omega) (ht.mono g0 (by simp) (by simp)) ht.lt3 ht.lt2
  have hlen := jsonPl_len T x y z r
  generalize jsonPl T x y z r = tx at HA hlen ⊢
  clear hx hy hz ht hr
  have hsf := run_store_flt Tryz.prog
  go_enter Tryz.func42, Tryz.ntmps42
  go_wp2_with (first
    | (at_builtin; refine app_str rfl _ _ _ _ rfl Tryz.underlying33 Tryz.underlying9 infoB H rfl _ rfl hbase0 (by simp [ByteArray.size]) ?_; intro v1 w1 H1; clear H; have H := H1; clear H1; obtain ⟨k0, k1, k2, k3, k4, k5⟩ := HC.out _ _ _ H)
    | (go_at_call 73; refine (HA.out _ _ _ H (by simp)).mono ?_; rintro e w' ⟨v', rfl, H'⟩; have H1 := H.trans H'; clear H H'; have H := H1; clear H1)
    | (at_builtin; refine app_byte rfl _ _ _ rfl Tryz.underlying33 infoB H rfl _ 125 rfl rfl (by first | rfl | simp) hbase0 (by (try simp only [List.length_append, List.length_cons, List.length_nil]); omega) ?_; intro v1 w1 H1; clear H; have H := H1; clear H1))
  have H2 := ((AppB.nil W 5 W.heap.size).beside HG.out).trans H
  go_returns
  refine ⟨v1, rfl, ?_⟩
  have hh : jHead 1 = jHead1 := by simp [jHead]
  rw [hh]
  simpa only [jHead1, List.append_assoc, List.nil_append, List.cons_append] using H2

set_option maxRecDepth 100000 in
set_option maxHeartbeats 2000000 in
theorem PtMarshal_false (T : Nat → Int) (hT : ∀ i, U64 (T i)) (x y z m r : Nat) (W : World) (ht : Tabs T W) : Calls Tryz.prog 42 #[.agg #[.float .f64 x, .float .f64 y, .float .f64 z, .float .f64 m, .int .u8 r, .bool false]] W fun e w' => ∃ v', e = .returned (.tuple #[v', .nilIface]) ∧ AppB 5 W.heap.size W (.slice none 0 0) w' v' (jHead 1 ++ [91, 93] ++ [125]) := by
  have HG := Lib.hid (World.grownBy_alloc W (.cells #[.float .f64 x, .float .f64 y, .float .f64 z, .float .f64 m, .int .u8 r, .bool false] 71) none)
  have H : AppB 5 W.heap.size (W.alloc (.cells #[.float .f64 x, .float .f64 y, .float .f64 z, .float .f64 m, .int .u8 r, .bool false] 71)) (.slice none 0 0) (W.alloc (.cells #[.float .f64 x, .float .f64 y, .float .f64 z, .float .f64 m, .int .u8 r, .bool false] 71)) (.slice none 0 0) [] := AppB.nil _ _ _
  have hbase0 : W.heap.size ≤ (W.alloc (.cells #[.float .f64 x, .float .f64 y, .float .f64 z, .float .f64 m, .int .u8 r, .bool false] 71)).heap.size := by simp
  have HC : Hid (∀ w v' l', AppB 5 W.heap.size (W.alloc (.cells #[.float .f64 x, .float .f64 y, .float .f64 z, .float .f64 m, .int .u8 r, .bool false] 71)) (.slice none 0 0) w v' l' → w.cell? ⟨W.heap.size, 0, none⟩ = some (.float .f64 x) ∧ w.cell? ⟨W.heap.size, 1, none⟩ = some (.float .f64 y) ∧ w.cell? ⟨W.heap.size, 2, none⟩ = some (.float .f64 z) ∧ w.cell? ⟨W.heap.size, 3, none⟩ = some (.float .f64 m) ∧ w.cell? ⟨W.heap.size, 4, none⟩ = some (.int .u8 r) ∧ w.cell? ⟨W.heap.size, 5, none⟩ = some (.bool false)) := fun w v' l' h => by
    refine ⟨?_, ?_, ?_, ?_, ?_, ?_⟩ <;> (rw [h.cell (by simp) (by simp [Value.ownBlock])]; simp)
  clear ht
  have hsf := run_store_flt Tryz.prog
  go_enter Tryz.func42, Tryz.ntmps42
  go_wp2_with (first
    | (at_builtin; refine app_str rfl _ _ _ _ rfl Tryz.underlying33 Tryz.underlying9 infoB H rfl _ rfl hbase0 (by simp [ByteArray.size]) ?_; intro v1 w1 H1; clear H; have H := H1; clear H1; obtain ⟨k0, k1, k2, k3, k4, k5⟩ := HC.out _ _ _ H)
    | (at_builtin; refine app_cells rfl _ _ _ rfl Tryz.underlying33 (.int .u8 0) 1 infoB rfl (by omega) H.toV rfl rfl (by first | rfl | simp) _ (by first | rfl | simp) (by simp [Value.oneCell']) hbase0 (by (try simp only [List.length_append, List.length_cons, List.length_nil]); omega) (by (try simp only [List.length_append, List.length_cons, List.length_nil]); omega) ?_; intro v1 w1 H1; clear H; have H := AppV.toB2 H1; clear H1)
    | (at_builtin; refine app_byte rfl _ _ _ rfl Tryz.underlying33 infoB H rfl _ 125 rfl rfl (by first | rfl | simp) hbase0 (by (try simp only [List.length_append, List.length_cons, List.length_nil]); omega) ?_; intro v1 w1 H1; clear H; have H := H1; clear H1))
  have H2 := ((AppB.nil W 5 W.heap.size).beside HG.out).trans H
  go_returns
  refine ⟨v1, rfl, ?_⟩
  have hh : jHead 1 = jHead1 := by simp [jHead]
  rw [hh]
  simpa only [jHead1, List.append_assoc, List.nil_append, List.cons_append] using H2

theorem PointMarshalC (T : Nat → Int) (hT : ∀ i, U64 (T i)) : JMC DPoint 42 T 1 := by
  intro B W v t hd hok hpl hB ht
  obtain ⟨⟨r, n, f, rfl, hr, hn, hf⟩, hv⟩ := hd
  have hw := widN_le r hr
  rw [hv, ptR_of hr, jb_pt]
  rcases hn with rfl | rfl
  · have e1 : ptOf r 0 f = ptE r := by unfold ptOf; rw [if_pos (Nat.zero_div _)]
    rw [e1, if_pos (Nat.zero_div _)]
    exact PtMarshal_false T hT 0 0 0 0 r W ht
  · have e0 : ¬ widN r / widN r = 0 := by rw [Nat.div_self (by omega)]; omega
    have e2 : ptOf r (widN r) f = ⟨plX r f 0, plY r f 0, plZ r f 0, plM r f 0, r, true⟩ := by unfold ptOf; rw [if_neg e0]
    rw [e2, if_neg e0]
    have hz : plZ r f 0 < 18446744073709551616 := by
      unfold plZ
      split
      · exact hf _
      · omega
    exact PtMarshal_true T hT _ _ _ _ r W (hf _) (hf _) hz hr ht
end Go.Proofs.YthcjnadceambgaaGreatDoor
namespace Go.Proofs.YthcjnadceambgaaGreatDoor
open Go.RowKit

theorem jJ_skip (T : Nat → Int) (kids : List Raw) (k : Nat) (t : Raw) (h : kids[k]? = some t) (hn : noPt t = true) : jbTs T (kids.take (k + 1)) = jbTs T (kids.take k) := by
  obtain ⟨hlt, rfl⟩ := List.getElem?_eq_some_iff.1 h
  rw [List.take_succ_eq_append_getElem hlt, jbTs_snoc, hn]
  exact List.append_nil _
theorem jJ_add (T : Nat → Int) (kids : List Raw) (k : Nat) (t : Raw) (h : kids[k]? = some t) (hn : noPt t = false) : jbTs T (kids.take (k + 1)) = jbTs T (kids.take k) ++ [jbT T t] := by
  obtain ⟨hlt, rfl⟩ := List.getElem?_eq_some_iff.1 h
  rw [List.take_succ_eq_append_getElem hlt, jbTs_snoc, hn]
  rfl
def mptHead : List UInt8 := [123, 34, 116, 121, 112, 101, 34, 58, 34, 77, 117, 108, 116, 105, 80, 111, 105, 110, 116, 34, 44, 34, 99, 111, 111, 114, 100, 105, 110, 97, 116, 101, 115, 34, 58, 91]
set_option maxRecDepth 100000 in
set_option maxHeartbeats 4000000 in
theorem MultiPointMarshalC (T : Nat → Int) (hT : ∀ i, U64 (T i)) : JMC DMpt 46 T 4 := by
  intro B W v t hd hok hpl hB ht
  obtain ⟨r, f, kids, p, c, rfl, hr, hpt, rfl, hpr, hpb⟩ := hd
  obtain ⟨n, hn⟩ : ∃ n, kids.length = n := ⟨_, rfl⟩
  have hn2 : n ≤ 2000 := by rw [← hn]; unfold okT at hok; exact hok.2.1
  rw [pl_node0] at hpl
  rw [node_jb T 4 r f kids (by decide), hn]
  have HG := Lib.hid (World.grownBy_alloc W (.cells #[.slice p n c, .int .u8 r] 53) none)
  have H : AppB 5 W.heap.size (W.alloc (.cells #[.slice p n c, .int .u8 r] 53)) (.slice none 0 0) (W.alloc (.cells #[.slice p n c, .int .u8 r] 53)) (.slice none 0 0) [] := AppB.nil _ _ _
  have hbase0 : W.heap.size ≤ (W.alloc (.cells #[.slice p n c, .int .u8 r] 53)).heap.size := by simp
  have HC : Hid (∀ w v' l', AppB 5 W.heap.size (W.alloc (.cells #[.slice p n c, .int .u8 r] 53)) (.slice none 0 0) w v' l' → w.cell? ⟨W.heap.size, 0, none⟩ = some (.slice p n c)) := fun w v' l' h => by
    rw [h.cell (by simp) (by simp [Value.ownBlock])]; simp
  have HA : Hid (∀ w v' l' x y z m (er : Nat), AppB 5 W.heap.size (W.alloc (.cells #[.slice p n c, .int .u8 r] 53)) (.slice none 0 0) w v' l' → x < 18446744073709551616 → y < 18446744073709551616 → z < 18446744073709551616 → er < 4 → l'.length ≤ 35000000000000 → Calls Tryz.prog 73 #[v', .agg #[.float .f64 x, .float .f64 y, .float .f64 z, .float .f64 m, .int .u8 er]] w (AppEnd 5 W.heap.size w v' (l' ++ jsonPl T x y z er))) := fun w v' l' x y z m er h hx hy hz her hl => by
    have g0 : W.grownBy w none := gt_trans HG.out h.grown (.inl rfl)
    exact appendGeoJSONCoordinate_any T hT x y z m er hx hy hz (by omega) (by omega) W.heap.size v' l' w h.own g0.size (by omega) (ht.mono g0 (by simp) (by simp)) ht.lt3 ht.lt2
  obtain ⟨C, hC⟩ : ∃ C : Nat → Nat, C = fun k => (jbTs T (kids.take k)).length := ⟨_, rfl⟩
  obtain ⟨S, hS⟩ : ∃ S : Nat → List UInt8, S = jJ T kids := ⟨_, rfl⟩
  have hSl : ∀ k, (S k).length ≤ 48300000 := fun k => by
    have h3 := jJ_len T kids k
    have h5 := pls_tk_le kids k
    rw [hS]; omega
  have HSl := Lib.hid hSl
  have hSn := hSl n
  have hC0 : C 0 = 0 := by rw [hC]; show (jbTs T (kids.take 0)).length = 0; rw [List.take_zero]; unfold jbTs; rfl
  have hS0 : S 0 = [] := by rw [hS]; exact jJ_zero T kids
  have HRow : Hid (∀ w, W.grownBy w none → ∀ k, k < n → ∃ (a : Addr) (x y z m er : Nat) (eb : Bool), p = some a ∧ w.cell? (a.add (k * 6)) = some (.float .f64 x) ∧ w.cell? ⟨(a.add (k * 6)).block, (a.add (k * 6)).off + 1, none⟩ = some (.float .f64 y) ∧ w.cell? ⟨(a.add (k * 6)).block, (a.add (k * 6)).off + 2, none⟩ = some (.float .f64 z) ∧ w.cell? ⟨(a.add (k * 6)).block, (a.add (k * 6)).off + 3, none⟩ = some (.float .f64 m) ∧ w.cell? ⟨(a.add (k * 6)).block, (a.add (k * 6)).off + 4, none⟩ = some (.int .u8 er) ∧ w.cell? ⟨(a.add (k * 6)).block, (a.add (k * 6)).off + 5, none⟩ = some (.bool eb) ∧ x < 18446744073709551616 ∧ y < 18446744073709551616 ∧ z < 18446744073709551616 ∧ er < 4 ∧ (eb = false → S (k + 1) = S k ∧ C (k + 1) = C k) ∧ (eb = true → S (k + 1) = S k ++ (if 0 < C k then [44] else []) ++ jsonPl T x y z (er : Nat) ∧ C (k + 1) = C k + 1)) := fun w g k hk => by
    have hpr2 := hpr.mono g
    have hi : kids[k]? = some (kids[k]'(by omega)) := List.getElem?_eq_getElem (by omega)
    obtain ⟨a, ha⟩ := hpr2.some_ (by rw [List.length_map]; omega)
    obtain ⟨q0, q1, q2, q3, q4, q5⟩ := hpr2.at_ a ha k (ptR (kids[k]'(by omega))) (by rw [List.getElem?_map, hi]; rfl)
    obtain ⟨r1, n1, f1, he, hr1, hn1, hf1⟩ := hpt _ (List.mem_of_getElem? hi)
    have hw := widN_le r1 hr1
    generalize kids[k]'(by omega) = t at hi q0 q1 q2 q3 q4 q5 he
    subst he
    have hok := PtT.ok (s := .mk 1 (r1 : Nat) n1 f1 []) ⟨r1, n1, f1, rfl, hr1, hn1, hf1⟩
    rw [ptR_of hr1] at q0 q1 q2 q3 q4 q5
    refine ⟨a, _, _, _, _, _, _, ha, q0, q1, q2, q3, q4, q5, ?_⟩
    rcases hn1 with rfl | rfl
    · have e1 : ptOf r1 0 f1 = ptE r1 := by unfold ptOf; rw [if_pos (Nat.zero_div _)]
      have e9 := jJ_skip T kids k _ hi (by rfl)
      rw [e1]
      refine ⟨by simp [ptE], by simp [ptE], by simp [ptE], by simpa [ptE] using hr1, fun _ => ⟨by rw [hS]; unfold jJ; rw [e9], by rw [hC]; show (jbTs T (kids.take (k + 1))).length = _; rw [e9]⟩, fun h => by simp [ptE] at h⟩
    · have e0 : ¬ widN r1 / widN r1 = 0 := by rw [Nat.div_self (by omega)]; omega
      have e2 : ptOf r1 (widN r1) f1 = ⟨plX r1 f1 0, plY r1 f1 0, plZ r1 f1 0, plM r1 f1 0, r1, true⟩ := by unfold ptOf; rw [if_neg e0]
      have e9 := jJ_add T kids k _ hi (by have : ¬ widN r1 = 0 := by omega
                                          show (decide ((1 : Int) = 1) && decide (widN r1 = 0)) = false
                                          simp [this])
      rw [jb_pt, if_neg e0] at e9
      rw [e2]
      have hz : plZ r1 f1 0 < 18446744073709551616 := by
        unfold plZ
        split
        · exact hf1 _
        · omega
      refine ⟨hf1 _, hf1 _, hz, hr1, fun h => (by cases h), fun _ => ⟨by rw [hS, hC]; unfold jJ; rw [e9, joinC_snoc], by rw [hC]; show (jbTs T (kids.take (k + 1))).length = _; rw [e9]; simp⟩⟩
  have HSF : Hid (∀ w' v', AppB 5 W.heap.size (W.alloc (.cells #[.slice p n c, .int .u8 r] 53)) (.slice none 0 0) w' v' ([] ++ mptHead ++ S n ++ [93, 125]) → AppB 5 W.heap.size W (.slice none 0 0) w' v' (jHead 4 ++ ([91] ++ jJ T kids n ++ [93]) ++ [125])) := fun w' v' H => by
    have H2 := ((AppB.nil W 5 W.heap.size).beside HG.out).trans H
    have hh : jHead 4 = jHead4 := by simp [jHead]
    rw [hh, ← hS]
    simpa only [jHead4, mptHead, List.append_assoc, List.nil_append, List.cons_append] using H2
  generalize jJ T kids n = JN at HSF ⊢
  have hsf := run_store_flt Tryz.prog
  clear hok hpl hB ht hpr hpb hpt hS hC hn
  go_enter Tryz.func46, Tryz.ntmps46
  go_wp2_with (first
    | (at_builtin; refine app_str rfl _ _ _ _ rfl Tryz.underlying33 Tryz.underlying9 infoB H rfl _ rfl hbase0 (by simp [ByteArray.size]) ?_; intro v1 w1 H1; clear H; have H := H1; clear H1; have k0 := HC.out _ _ _ H))
  go_loopw [4, 5, 15] (fun x fl i wr => ∃ (k : Nat) (fb : Bool), k ≤ n ∧ i = .int .i64 k ∧ fl = .bool fb ∧ fb = decide (C k = 0) ∧ AppB 5 W.heap.size (W.alloc (.cells #[.slice p n c, .int .u8 r] 53)) (.slice none 0 0) wr x ([] ++ mptHead ++ S k)) (fun _ _ i _ => n - (intOf i).toNat)
  case atStart => exact ⟨0, true, by omega, rfl, rfl, by rw [hC0]; rfl, by rw [hS0, List.append_nil]; exact H⟩
  case round =>
    clear H k0
    obtain ⟨k, fb, hk, rfl, rfl, hfb, H⟩ := hrel
    rename World => wr
    by_cases hkL : k < n
    · obtain ⟨a, x, y, z, m, er, eb, rfl, q0, q1, q2, q3, q4, q5, hx, hy, hz, her, he0, he1⟩ := HRow.out wr (gt_trans HG.out H.grown (.inl rfl)) k hkL
      have hSk := HSl.out k
      cases eb
      · obtain ⟨e1, e2⟩ := he0 rfl
        have E1 := Lib.hid e1
        have E2 := Lib.hid e2
        have HFb := Lib.hid hfb
        clear he0 he1 e1 e2 hfb hSk
        go_wp2_with (first
          | (go_at_call 79; refine (PtCo_any _ _ _ _ _ _ _).mono ?_; rintro e w2 ⟨rfl, hg2⟩; have H9 := H.beside (gt_trans (World.grownBy_alloc _ _ _) hg2 (.inl rfl)); clear H hg2; have H := H9; clear H9; have hlt := H.own.lt))
        exact ⟨⟨k + 1, fb, by omega, by go_num, rfl, by rw [E2.out]; exact HFb.out, by rw [E1.out]; exact H.beside (World.grownBy_alloc _ _ _)⟩, by simp [intOf]; omega⟩
      · obtain ⟨e1, e2⟩ := he1 rfl
        by_cases hc0 : C k = 0
        · have hft : fb = true := by rw [hfb, hc0]; rfl
          rw [if_neg (by omega), List.append_nil] at e1
          subst hft
          have E1 := Lib.hid e1
          have E2 := Lib.hid e2
          clear he0 he1 e1 e2 hfb hc0
          have hml : mptHead.length = 36 := rfl
          go_wp2_with (first
            | (go_at_call 79; refine (PtCo_any _ _ _ _ _ _ _).mono ?_; rintro e w2 ⟨rfl, hg2⟩; have H9 := H.beside (gt_trans (World.grownBy_alloc _ _ _) hg2 (.inl rfl)); clear H hg2; have H := H9; clear H9; have hlt := H.own.lt)
            | (go_at_call 73; refine (HA.out _ _ _ _ _ _ _ _ (H.beside (World.grownBy_alloc _ _ _)) hx hy hz her (by (try simp only [List.length_append, List.length_cons, List.length_nil]); omega)).mono ?_; rintro e w' ⟨v', rfl, H'⟩; have H1 := (H.beside (World.grownBy_alloc _ _ _)).trans H'; clear H H'; have H := H1; clear H1))
          exact ⟨⟨k + 1, false, by omega, by go_num, rfl, by rw [E2.out, decide_eq_false (by omega)], by rw [E1.out]; simpa only [List.append_assoc] using H⟩, by simp [intOf]; omega⟩
        · have hft : fb = false := by rw [hfb, decide_eq_false hc0]
          rw [if_pos (by omega)] at e1
          subst hft
          have E1 := Lib.hid e1
          have E2 := Lib.hid e2
          clear he0 he1 e1 e2 hfb hc0
          have hml : mptHead.length = 36 := rfl
          go_wp2_with (first
            | (go_at_call 79; refine (PtCo_any _ _ _ _ _ _ _).mono ?_; rintro e w2 ⟨rfl, hg2⟩; have H9 := H.beside (gt_trans (World.grownBy_alloc _ _ _) hg2 (.inl rfl)); clear H hg2; have H := H9; clear H9; have hlt := H.own.lt)
            | (at_builtin; refine app_byte rfl _ _ _ rfl Tryz.underlying33 infoB (AppB.start (H.own.alloc _)) rfl _ 44 rfl rfl (by first | rfl | simp) (by have := H.based hbase0; simp; omega) (by (try simp only [List.length_append, List.length_cons, List.length_nil]); omega) ?_; intro v1 w1 H1; have z0 : w1.cell? ⟨w2.heap.size, 0, none⟩ = some (.float .f64 x) := by { rw [H1.cell (by simp) (fun e => Nat.lt_irrefl w2.heap.size (hlt _ e).2)]; simp };  have z1 : w1.cell? ⟨w2.heap.size, 1, none⟩ = some (.float .f64 y) := by { rw [H1.cell (by simp) (fun e => Nat.lt_irrefl w2.heap.size (hlt _ e).2)]; simp };  have z2 : w1.cell? ⟨w2.heap.size, 2, none⟩ = some (.float .f64 z) := by { rw [H1.cell (by simp) (fun e => Nat.lt_irrefl w2.heap.size (hlt _ e).2)]; simp };  have z3 : w1.cell? ⟨w2.heap.size, 3, none⟩ = some (.float .f64 m) := by { rw [H1.cell (by simp) (fun e => Nat.lt_irrefl w2.heap.size (hlt _ e).2)]; simp };  have z4 : w1.cell? ⟨w2.heap.size, 4, none⟩ = some (.int .u8 er) := by { rw [H1.cell (by simp) (fun e => Nat.lt_irrefl w2.heap.size (hlt _ e).2)]; simp }; have H2 := (H.beside (World.grownBy_alloc _ _ _)).trans H1; clear H H1; have H := H2; clear H2)
            | (go_at_call 73; refine (HA.out _ _ _ _ _ _ _ _ (H) hx hy hz her (by (try simp only [List.length_append, List.length_cons, List.length_nil]); omega)).mono ?_; rintro e w' ⟨v', rfl, H'⟩; have H1 := (H).trans H'; clear H H'; have H := H1; clear H1))
          exact ⟨⟨k + 1, false, by omega, by go_num, rfl, by rw [E2.out, decide_eq_false (by omega)], by rw [E1.out]; simpa only [List.append_assoc] using H⟩, by simp [intOf]; omega⟩
    · obtain rfl : k = n := by omega
      have hml : mptHead.length = 36 := rfl
      go_wp2_with (first
        | (at_builtin; refine app_str rfl _ _ _ _ rfl Tryz.underlying33 Tryz.underlying9 infoB H rfl _ rfl hbase0 (by have hbs : (⟨#[93, 125]⟩ : ByteArray).size = 2 := rfl; rw [hbs]; simp only [List.length_append, List.length_nil]; omega) ?_; intro v1 w1 H1; clear H; have H := H1; clear H1))
      go_returns
      exact ⟨v1, rfl, by simpa only [List.append_assoc, List.cons_append, List.nil_append] using HSF.out _ _ H⟩
end Go.Proofs.YthcjnadceambgaaGreatDoor
namespace Go.Proofs.YthcjnadceambgaaGreatDoor
open Go.RowKit

set_option maxRecDepth 100000 in
set_option maxHeartbeats 2000000 in
theorem implJSON1 (T : Nat → Int) (hT : ∀ i, U64 (T i)) (h : Nat) (B : Nat → Prop) (W : World) (d : Int) (p q : Option Addr) (n cap m c2 : Nat) (t : Raw) (hk : KD B h W (.agg #[.int .i64 1, .int .i64 d, .slice p n cap, .slice q m c2]) t) (hw : wt t ≤ 2000) (hkd : kindOf t = 1) (ht : Tabs T W) :
    Calls Tryz.prog 18 #[.agg #[.int .i64 1, .int .i64 d, .slice p n cap, .slice q m c2]] W fun e w' => ∃ v', e = .returned (.tuple #[v', .bool true]) ∧ (∃ w0, W.grownBy w0 none ∧ AppB 5 w0.heap.size w0 (.slice none 0 0) w' v' (jHead 1 ++ jbT T (newT t) ++ [125])) ∧ W.grownBy w' none := by
  have HG := Lib.hid (World.grownBy_alloc W (.cells #[.int .i64 1, .int .i64 d, .slice p n cap, .slice q m c2] 25) none)
  have HB := Lib.hid (fun w (g : W.grownBy w none) => PointBC h B w _ t (hk.mono g) hw hkd)
  have HM := Lib.hid (fun v w0 w (g : W.grownBy w none) (hv : DPoint (Fr w0 w) w v (newT t)) => PointMarshalC T hT (Fr w0 w) w v (newT t) hv (new_ok t hw) (Nat.le_trans (Nat.le_trans (pl_new t) hw) (by decide)) (fun b hb => hb.2) (ht.mono g (by simp) (by simp)))
  have HF : Hid (∀ (B : Nat → Prop) (W : World) (x : Value) (t : Raw), DPoint B W x t → ∃ (fx fy fz fm er : Nat) (eb : Bool), x = .agg #[.float .f64 fx, .float .f64 fy, .float .f64 fz, .float .f64 fm, .int .u8 er, .bool eb]) := fun B W x t h => by
    obtain ⟨a1, a2, a3, a4, a5, a6, e⟩ := DPoint.form6 h; exact ⟨a1, a2, a3, a4, a5, a6, e⟩
  generalize jHead 1 ++ jbT T (newT t) ++ [125] = L at HM ⊢
  generalize newT t = tn at HB HM
  clear hk hw hkd ht
  go_enter Tryz.func18, Tryz.ntmps18
  go_wp2_with (first
    | (go_at_call 41; refine (HB.out _ HG.out).mono ?_; rintro e w' ⟨v, rfl, hv, hg1⟩; have Hv := Lib.hid hv; obtain ⟨fx, fy, fz, fm, er, eb, rfl⟩ := HF.out _ _ _ _ hv; clear hv)
    | (go_at_call 42; refine (HM.out _ _ _ (gt_trans HG.out hg1 (.inl rfl)) Hv.out).mono ?_; rintro e w'' ⟨v', rfl, hb⟩)
    | (go_at_call 40; refine (json_any _ _ hb.slice).mono ?_; rintro e w3 ⟨rfl, rfl⟩))
  go_returns
  exact ⟨_, rfl, ⟨_, gt_trans HG.out hg1 (.inl rfl), hb⟩, gt_trans (gt_trans HG.out hg1 (.inl rfl)) hb.grown (.inl rfl)⟩

set_option maxRecDepth 100000 in
set_option maxHeartbeats 2000000 in
theorem implJSON2 (T : Nat → Int) (hT : ∀ i, U64 (T i)) (h : Nat) (B : Nat → Prop) (W : World) (d : Int) (p q : Option Addr) (n cap m c2 : Nat) (t : Raw) (hk : KD B h W (.agg #[.int .i64 2, .int .i64 d, .slice p n cap, .slice q m c2]) t) (hw : wt t ≤ 2000) (hkd : kindOf t = 2) (ht : Tabs T W) :
    Calls Tryz.prog 18 #[.agg #[.int .i64 2, .int .i64 d, .slice p n cap, .slice q m c2]] W fun e w' => ∃ v', e = .returned (.tuple #[v', .bool true]) ∧ (∃ w0, W.grownBy w0 none ∧ AppB 5 w0.heap.size w0 (.slice none 0 0) w' v' (jHead 2 ++ jbT T (newT t) ++ [125])) ∧ W.grownBy w' none := by
  have HG := Lib.hid (World.grownBy_alloc W (.cells #[.int .i64 2, .int .i64 d, .slice p n cap, .slice q m c2] 25) none)
  have HB := Lib.hid (fun w (g : W.grownBy w none) => LineBC h B w _ t (hk.mono g) hw hkd)
  have HM := Lib.hid (fun v w0 w (g : W.grownBy w none) (hv : DLine (Fr w0 w) w v (newT t)) => LineMarshalC T hT (Fr w0 w) w v (newT t) hv (new_ok t hw) (Nat.le_trans (Nat.le_trans (pl_new t) hw) (by decide)) (fun b hb => hb.2) (ht.mono g (by simp) (by simp)))
  have HF : Hid (∀ (B : Nat → Prop) (W : World) (x : Value) (t : Raw), DLine B W x t → ∃ (er : Nat) (ep : Option Addr) (en ec : Nat), x = .agg #[.int .u8 er, .slice ep en ec]) := fun B W x t h => by
    obtain ⟨a1, a2, a3, a4, e⟩ := DLine.form2 h; exact ⟨a1, a2, a3, a4, e⟩
  generalize jHead 2 ++ jbT T (newT t) ++ [125] = L at HM ⊢
  generalize newT t = tn at HB HM
  clear hk hw hkd ht
  go_enter Tryz.func18, Tryz.ntmps18
  go_wp2_with (first
    | (go_at_call 24; refine (HB.out _ HG.out).mono ?_; rintro e w' ⟨v, rfl, hv, hg1⟩; have Hv := Lib.hid hv; obtain ⟨er, ep, en, ec, rfl⟩ := HF.out _ _ _ _ hv; clear hv)
    | (go_at_call 43; refine (HM.out _ _ _ (gt_trans HG.out hg1 (.inl rfl)) Hv.out).mono ?_; rintro e w'' ⟨v', rfl, hb⟩)
    | (go_at_call 40; refine (json_any _ _ hb.slice).mono ?_; rintro e w3 ⟨rfl, rfl⟩))
  go_returns
  exact ⟨_, rfl, ⟨_, gt_trans HG.out hg1 (.inl rfl), hb⟩, gt_trans (gt_trans HG.out hg1 (.inl rfl)) hb.grown (.inl rfl)⟩

set_option maxRecDepth 100000 in
set_option maxHeartbeats 2000000 in
theorem implJSON3 (T : Nat → Int) (hT : ∀ i, U64 (T i)) (h : Nat) (B : Nat → Prop) (W : World) (d : Int) (p q : Option Addr) (n cap m c2 : Nat) (t : Raw) (hk : KD B h W (.agg #[.int .i64 3, .int .i64 d, .slice p n cap, .slice q m c2]) t) (hw : wt t ≤ 2000) (hkd : kindOf t = 3) (ht : Tabs T W) :
    Calls Tryz.prog 18 #[.agg #[.int .i64 3, .int .i64 d, .slice p n cap, .slice q m c2]] W fun e w' => ∃ v', e = .returned (.tuple #[v', .bool true]) ∧ (∃ w0, W.grownBy w0 none ∧ AppB 5 w0.heap.size w0 (.slice none 0 0) w' v' (jHead 3 ++ jbT T (newT t) ++ [125])) ∧ W.grownBy w' none := by
  have HG := Lib.hid (World.grownBy_alloc W (.cells #[.int .i64 3, .int .i64 d, .slice p n cap, .slice q m c2] 25) none)
  have HB := Lib.hid (fun w (g : W.grownBy w none) => PgBC h B w _ t (hk.mono g) hw hkd)
  have HM := Lib.hid (fun v w0 w (g : W.grownBy w none) (hv : DPg (Fr w0 w) w v (newT t)) => PgMarshal T hT (Fr w0 w) w v (newT t) hv (new_ok t hw) (Nat.le_trans (Nat.le_trans (pl_new t) hw) (by decide)) (fun b hb => hb.2) (ht.mono g (by simp) (by simp)))
  have HF : Hid (∀ (B : Nat → Prop) (W : World) (x : Value) (t : Raw), DPg B W x t → ∃ (ep : Option Addr) (en ec er : Nat), x = .agg #[.slice ep en ec, .int .u8 er]) := fun B W x t h => by
    obtain ⟨a1, a2, a3, a4, e⟩ := DNode.form h; exact ⟨a1, a2, a3, a4, e⟩
  generalize jHead 3 ++ jbT T (newT t) ++ [125] = L at HM ⊢
  generalize newT t = tn at HB HM
  clear hk hw hkd ht
  go_enter Tryz.func18, Tryz.ntmps18
  go_wp2_with (first
    | (go_at_call 44; refine (HB.out _ HG.out).mono ?_; rintro e w' ⟨v, rfl, hv, hg1⟩; have Hv := Lib.hid hv; obtain ⟨ep, en, ec, er, rfl⟩ := HF.out _ _ _ _ hv; clear hv)
    | (go_at_call 45; refine (HM.out _ _ _ (gt_trans HG.out hg1 (.inl rfl)) Hv.out).mono ?_; rintro e w'' ⟨v', rfl, hb⟩)
    | (go_at_call 40; refine (json_any _ _ hb.slice).mono ?_; rintro e w3 ⟨rfl, rfl⟩))
  go_returns
  exact ⟨_, rfl, ⟨_, gt_trans HG.out hg1 (.inl rfl), hb⟩, gt_trans (gt_trans HG.out hg1 (.inl rfl)) hb.grown (.inl rfl)⟩

set_option maxRecDepth 100000 in
set_option maxHeartbeats 2000000 in
theorem implJSON4 (T : Nat → Int) (hT : ∀ i, U64 (T i)) (h : Nat) (B : Nat → Prop) (W : World) (d : Int) (p q : Option Addr) (n cap m c2 : Nat) (t : Raw) (hk : KD B h W (.agg #[.int .i64 4, .int .i64 d, .slice p n cap, .slice q m c2]) t) (hw : wt t ≤ 2000) (hkd : kindOf t = 4) (ht : Tabs T W) :
    Calls Tryz.prog 18 #[.agg #[.int .i64 4, .int .i64 d, .slice p n cap, .slice q m c2]] W fun e w' => ∃ v', e = .returned (.tuple #[v', .bool true]) ∧ (∃ w0, W.grownBy w0 none ∧ AppB 5 w0.heap.size w0 (.slice none 0 0) w' v' (jHead 4 ++ jbT T (newT t) ++ [125])) ∧ W.grownBy w' none := by
  have HG := Lib.hid (World.grownBy_alloc W (.cells #[.int .i64 4, .int .i64 d, .slice p n cap, .slice q m c2] 25) none)
  have HB := Lib.hid (fun w (g : W.grownBy w none) => MptBC h B w _ t (hk.mono g) hw hkd)
  have HM := Lib.hid (fun v w0 w (g : W.grownBy w none) (hv : DMpt (Fr w0 w) w v (newT t)) => MultiPointMarshalC T hT (Fr w0 w) w v (newT t) hv (new_ok t hw) (Nat.le_trans (Nat.le_trans (pl_new t) hw) (by decide)) (fun b hb => hb.2) (ht.mono g (by simp) (by simp)))
  have HF : Hid (∀ (B : Nat → Prop) (W : World) (x : Value) (t : Raw), DMpt B W x t → ∃ (ep : Option Addr) (en ec er : Nat), x = .agg #[.slice ep en ec, .int .u8 er]) := fun B W x t h => by
    obtain ⟨a1, a2, a3, a4, e⟩ := DMpt.form h; exact ⟨a1, a2, a3, a4, e⟩
  generalize jHead 4 ++ jbT T (newT t) ++ [125] = L at HM ⊢
  generalize newT t = tn at HB HM
  clear hk hw hkd ht
  go_enter Tryz.func18, Tryz.ntmps18
  go_wp2_with (first
    | (go_at_call 33; refine (HB.out _ HG.out).mono ?_; rintro e w' ⟨v, rfl, hv, hg1⟩; have Hv := Lib.hid hv; obtain ⟨ep, en, ec, er, rfl⟩ := HF.out _ _ _ _ hv; clear hv)
    | (go_at_call 46; refine (HM.out _ _ _ (gt_trans HG.out hg1 (.inl rfl)) Hv.out).mono ?_; rintro e w'' ⟨v', rfl, hb⟩)
    | (go_at_call 40; refine (json_any _ _ hb.slice).mono ?_; rintro e w3 ⟨rfl, rfl⟩))
  go_returns
  exact ⟨_, rfl, ⟨_, gt_trans HG.out hg1 (.inl rfl), hb⟩, gt_trans (gt_trans HG.out hg1 (.inl rfl)) hb.grown (.inl rfl)⟩

set_option maxRecDepth 100000 in
set_option maxHeartbeats 2000000 in
theorem implJSON5 (T : Nat → Int) (hT : ∀ i, U64 (T i)) (h : Nat) (B : Nat → Prop) (W : World) (d : Int) (p q : Option Addr) (n cap m c2 : Nat) (t : Raw) (hk : KD B h W (.agg #[.int .i64 5, .int .i64 d, .slice p n cap, .slice q m c2]) t) (hw : wt t ≤ 2000) (hkd : kindOf t = 5) (ht : Tabs T W) :
    Calls Tryz.prog 18 #[.agg #[.int .i64 5, .int .i64 d, .slice p n cap, .slice q m c2]] W fun e w' => ∃ v', e = .returned (.tuple #[v', .bool true]) ∧ (∃ w0, W.grownBy w0 none ∧ AppB 5 w0.heap.size w0 (.slice none 0 0) w' v' (jHead 5 ++ jbT T (newT t) ++ [125])) ∧ W.grownBy w' none := by
  have HG := Lib.hid (World.grownBy_alloc W (.cells #[.int .i64 5, .int .i64 d, .slice p n cap, .slice q m c2] 25) none)
  have HB := Lib.hid (fun w (g : W.grownBy w none) => MlBC h B w _ t (hk.mono g) hw hkd)
  have HM := Lib.hid (fun v w0 w (g : W.grownBy w none) (hv : DMl (Fr w0 w) w v (newT t)) => MlMarshal T hT (Fr w0 w) w v (newT t) hv (new_ok t hw) (Nat.le_trans (Nat.le_trans (pl_new t) hw) (by decide)) (fun b hb => hb.2) (ht.mono g (by simp) (by simp)))
  have HF : Hid (∀ (B : Nat → Prop) (W : World) (x : Value) (t : Raw), DMl B W x t → ∃ (ep : Option Addr) (en ec er : Nat), x = .agg #[.slice ep en ec, .int .u8 er]) := fun B W x t h => by
    obtain ⟨a1, a2, a3, a4, e⟩ := DNode.form h; exact ⟨a1, a2, a3, a4, e⟩
  generalize jHead 5 ++ jbT T (newT t) ++ [125] = L at HM ⊢
  generalize newT t = tn at HB HM
  clear hk hw hkd ht
  go_enter Tryz.func18, Tryz.ntmps18
  go_wp2_with (first
    | (go_at_call 47; refine (HB.out _ HG.out).mono ?_; rintro e w' ⟨v, rfl, hv, hg1⟩; have Hv := Lib.hid hv; obtain ⟨ep, en, ec, er, rfl⟩ := HF.out _ _ _ _ hv; clear hv)
    | (go_at_call 48; refine (HM.out _ _ _ (gt_trans HG.out hg1 (.inl rfl)) Hv.out).mono ?_; rintro e w'' ⟨v', rfl, hb⟩)
    | (go_at_call 40; refine (json_any _ _ hb.slice).mono ?_; rintro e w3 ⟨rfl, rfl⟩))
  go_returns
  exact ⟨_, rfl, ⟨_, gt_trans HG.out hg1 (.inl rfl), hb⟩, gt_trans (gt_trans HG.out hg1 (.inl rfl)) hb.grown (.inl rfl)⟩

set_option maxRecDepth 100000 in
set_option maxHeartbeats 2000000 in
theorem implJSON6 (T : Nat → Int) (hT : ∀ i, U64 (T i)) (h : Nat) (B : Nat → Prop) (W : World) (d : Int) (p q : Option Addr) (n cap m c2 : Nat) (t : Raw) (hk : KD B h W (.agg #[.int .i64 6, .int .i64 d, .slice p n cap, .slice q m c2]) t) (hw : wt t ≤ 2000) (hkd : kindOf t = 6) (ht : Tabs T W) :
    Calls Tryz.prog 18 #[.agg #[.int .i64 6, .int .i64 d, .slice p n cap, .slice q m c2]] W fun e w' => ∃ v', e = .returned (.tuple #[v', .bool true]) ∧ (∃ w0, W.grownBy w0 none ∧ AppB 5 w0.heap.size w0 (.slice none 0 0) w' v' (jHead 6 ++ jbT T (newT t) ++ [125])) ∧ W.grownBy w' none := by
  have HG := Lib.hid (World.grownBy_alloc W (.cells #[.int .i64 6, .int .i64 d, .slice p n cap, .slice q m c2] 25) none)
  have HB := Lib.hid (fun w (g : W.grownBy w none) => MpBC h B w _ t (hk.mono g) hw hkd)
  have HM := Lib.hid (fun v w0 w (g : W.grownBy w none) (hv : DMp (Fr w0 w) w v (newT t)) => MpMarshal T hT (Fr w0 w) w v (newT t) hv (new_ok t hw) (Nat.le_trans (Nat.le_trans (pl_new t) hw) (by decide)) (fun b hb => hb.2) (ht.mono g (by simp) (by simp)))
  have HF : Hid (∀ (B : Nat → Prop) (W : World) (x : Value) (t : Raw), DMp B W x t → ∃ (ep : Option Addr) (en ec er : Nat), x = .agg #[.slice ep en ec, .int .u8 er]) := fun B W x t h => by
    obtain ⟨a1, a2, a3, a4, e⟩ := DNode.form h; exact ⟨a1, a2, a3, a4, e⟩
  generalize jHead 6 ++ jbT T (newT t) ++ [125] = L at HM ⊢
  generalize newT t = tn at HB HM
  clear hk hw hkd ht
  go_enter Tryz.func18, Tryz.ntmps18
  go_wp2_with (first
    | (go_at_call 35; refine (HB.out _ HG.out).mono ?_; rintro e w' ⟨v, rfl, hv, hg1⟩; have Hv := Lib.hid hv; obtain ⟨ep, en, ec, er, rfl⟩ := HF.out _ _ _ _ hv; clear hv)
    | (go_at_call 49; refine (HM.out _ _ _ (gt_trans HG.out hg1 (.inl rfl)) Hv.out).mono ?_; rintro e w'' ⟨v', rfl, hb⟩)
    | (go_at_call 40; refine (json_any _ _ hb.slice).mono ?_; rintro e w3 ⟨rfl, rfl⟩))
  go_returns
  exact ⟨_, rfl, ⟨_, gt_trans HG.out hg1 (.inl rfl), hb⟩, gt_trans (gt_trans HG.out hg1 (.inl rfl)) hb.grown (.inl rfl)⟩

set_option maxRecDepth 100000 in
set_option maxHeartbeats 1000000 in
theorem implJSON_other (k d : Int) (p q : Option Addr) (n cap m c2 : Nat) (W : World) (h1 : k ≠ 1) (h2 : k ≠ 2) (h3 : k ≠ 3) (h4 : k ≠ 4) (h5 : k ≠ 5) (h6 : k ≠ 6) :
    Calls Tryz.prog 18 #[.agg #[.int .i64 k, .int .i64 d, .slice p n cap, .slice q m c2]] W fun e w' => e = .returned (.tuple #[.slice none 0 0, .bool false]) ∧ W.grownBy w' none := by
  have b1 : (k == 1) = false := by rw [beq_eq_false_iff_ne]; exact h1
  have b2 : (k == 2) = false := by rw [beq_eq_false_iff_ne]; exact h2
  have b3 : (k == 3) = false := by rw [beq_eq_false_iff_ne]; exact h3
  have b4 : (k == 4) = false := by rw [beq_eq_false_iff_ne]; exact h4
  have b5 : (k == 5) = false := by rw [beq_eq_false_iff_ne]; exact h5
  have b6 : (k == 6) = false := by rw [beq_eq_false_iff_ne]; exact h6
  clear h1 h2 h3 h4 h5 h6
  go_enter Tryz.func18, Tryz.ntmps18
  go_wp2_with fail
  go_returns
  exact ⟨rfl, World.grownBy_alloc _ _ _⟩
theorem implJSON_any (T : Nat → Int) (hT : ∀ i, U64 (T i)) (h : Nat) (B : Nat → Prop) (W : World) (k d : Int) (p q : Option Addr) (n cap m c2 : Nat) (t : Raw) (hk6 : 1 ≤ k ∧ k ≤ 6) (hk : KD B h W (.agg #[.int .i64 k, .int .i64 d, .slice p n cap, .slice q m c2]) t) (hw : wt t ≤ 2000) (hkd : kindOf t = k) (ht : Tabs T W) :
    Calls Tryz.prog 18 #[.agg #[.int .i64 k, .int .i64 d, .slice p n cap, .slice q m c2]] W fun e w' => ∃ v', e = .returned (.tuple #[v', .bool true]) ∧ (∃ w0, W.grownBy w0 none ∧ AppB 5 w0.heap.size w0 (.slice none 0 0) w' v' (jHead k ++ jbT T (newT t) ++ [125])) ∧ W.grownBy w' none := by
  rcases (by omega : k = 1 ∨ k = 2 ∨ k = 3 ∨ k = 4 ∨ k = 5 ∨ k = 6) with rfl | rfl | rfl | rfl | rfl | rfl
  · exact implJSON1 T hT h B W d p q n cap m c2 t hk hw hkd ht
  · exact implJSON2 T hT h B W d p q n cap m c2 t hk hw hkd ht
  · exact implJSON3 T hT h B W d p q n cap m c2 t hk hw hkd ht
  · exact implJSON4 T hT h B W d p q n cap m c2 t hk hw hkd ht
  · exact implJSON5 T hT h B W d p q n cap m c2 t hk hw hkd ht
  · exact implJSON6 T hT h B W d p q n cap m c2 t hk hw hkd ht
theorem specJSON_any (T : Nat → Int) (hT : ∀ i, U64 (T i)) (h : Nat) (B : Nat → Prop) (W : World) (v : Value) (t : Raw) (k : Int) (hk6 : 1 ≤ k ∧ k ≤ 6) (hk : KD B h W v t) (hd : dimsOk t) (hp : pl t ≤ 2000) (hkd : kindOf t = k) (ht : Tabs T W) :
    Calls Tryz.prog 19 #[v] W fun e w' => ∃ v', e = .returned (.tuple #[v', .bool true]) ∧ BVal w' v' (jHead k ++ jbT T t ++ [125]) ∧ W.grownBy w' none := by
  have hl := jbT_len T t
  have hj := fun w (g : W.grownBy w none) => jbOk T hT h B w v t (hk.mono g) hd hp (ht.mono g (by simp) (by simp))
  cases h with
  | zero => exact hk.elim
  | succ h =>
  obtain ⟨k', d, n, f, kids⟩ := t
  obtain ⟨p, cap, q, c2, rfl, _⟩ := hk
  have hkk : k' = k := hkd
  subst hkk
  rcases (by omega : k' = 1 ∨ k' = 2 ∨ k' = 3 ∨ k' = 4 ∨ k' = 5 ∨ k' = 6) with rfl | rfl | rfl | rfl | rfl | rfl
  · have hh : jHead 1 = jHead1 := by simp [jHead]
    rw [hh]
    exact specJSON1 W d _ _ _ _ _ _ _ (by omega) hj
  · have hh : jHead 2 = jHead2 := by simp [jHead]
    rw [hh]
    exact specJSON2 W d _ _ _ _ _ _ _ (by omega) hj
  · have hh : jHead 3 = jHead3 := by simp [jHead]
    rw [hh]
    exact specJSON3 W d _ _ _ _ _ _ _ (by omega) hj
  · have hh : jHead 4 = jHead4 := by simp [jHead]
    rw [hh]
    exact specJSON4 W d _ _ _ _ _ _ _ (by omega) hj
  · have hh : jHead 5 = jHead5 := by simp [jHead]
    rw [hh]
    exact specJSON5 W d _ _ _ _ _ _ _ (by omega) hj
  · have hh : jHead 6 = jHead6 := by simp [jHead]
    rw [hh]
    exact specJSON6 W d _ _ _ _ _ _ _ (by omega) hj
end Go.Proofs.YthcjnadceambgaaGreatDoor
namespace Go.Proofs.YthcjnadceambgaaGreatDoor
open Go.RowKit

set_option maxRecDepth 100000 in
set_option maxHeartbeats 4000000 in
theorem FnJSONSame_any (T : Nat → Int) (hT : ∀ i, U64 (T i)) (h : Nat) (B : Nat → Prop) (W : World) (v : Value) (t : Raw) (hk : KD B h W v t) (ht : Tabs T W) :
    Calls Tryz.prog 6 #[v] W fun e w' => e = .returned (.bool true) ∧ W.grownBy w' none := by
  cases h with
  | zero => exact hk.elim
  | succ h =>
  have hk0 := hk
  obtain ⟨k, d, n, f, kids⟩ := t
  obtain ⟨p, cap, q, c2, rfl, hf, h1, h2, h3, _⟩ := hk
  obtain ⟨m, hm⟩ : ∃ m, kids.length = m := ⟨_, rfl⟩
  rw [hm] at hk0 ⊢
  obtain ⟨t, htt⟩ : ∃ t, t = Raw.mk k d n f kids := ⟨_, rfl⟩
  have hkd : kindOf t = k := by rw [htt]; rfl
  rw [← htt] at hk0
  obtain ⟨W1, hW1⟩ : ∃ W1, W1 = (W.alloc (.cells #[.int .i64 k, .int .i64 d, .slice p n cap, .slice q m c2] 25)) := ⟨_, rfl⟩
  have hg1 : W.grownBy W1 none := by rw [hW1]; exact World.grownBy_alloc _ _ _
  have HZ := Lib.hid (fun w => zzFits2_any w k d p q n cap m c2)
  have HS : Hid (∀ W', W1.grownBy W' none → W'.cell? ⟨W.heap.size, 0, none⟩ = some (.int .i64 k) ∧ W'.cell? ⟨W.heap.size, 1, none⟩ = some (.int .i64 d) ∧ W'.cell? ⟨W.heap.size, 2, none⟩ = some (.slice p n cap) ∧ W'.cell? ⟨W.heap.size, 3, none⟩ = some (.slice q m c2)) := fun W' g => by
    rw [hW1] at g
    exact ⟨g.cell (by simp) (by simp), g.cell (by simp) (by simp), g.cell (by simp) (by simp), g.cell (by simp) (by simp)⟩
  have HG1 := Lib.hid hg1
  have HW1 := Lib.hid hW1
  have IS := Lib.hid (fun W' b (g : W.grownBy W' none) (k0 : W'.cell? ⟨b, 0, none⟩ = some (.int .i64 k)) (k1 : W'.cell? ⟨b, 0 + 1, none⟩ = some (.int .i64 d)) (k2 : W'.cell? ⟨b, 0 + 2, none⟩ = some (.slice p n cap)) (k3 : W'.cell? ⟨b, 0 + 3, none⟩ = some (.slice q m c2)) =>
    gSmallD1 (h + 1) W' ⟨b, 0, none⟩ _ _ _ _ t (hk0.mono g) k0 k1 k2 k3)
  have IA := Lib.hid (fun W' (g : W1.grownBy W' none) => gAllD (h + 1) B W' _ t (hk0.mono (gt_trans hg1 g (.inl rfl))))
  obtain ⟨s, hs⟩ : ∃ s, s = decide (wt t ≤ 2000) := ⟨_, rfl⟩
  rw [← hs] at IS
  have hbx : True := trivial
  cases s
  · clear hk0 hs hf ht hkd htt hm IA hg1 hW1 h1 h2 h3
    go_enter Tryz.func6, Tryz.ntmps6
    go_wp2_with (first
      | (go_at_call 8; refine (HZ.out _).mono ?_; rintro e w1 ⟨b1, rfl, _, hg⟩; rw [← HW1.out] at hg; obtain ⟨x0, x1, x2, x3⟩ := HS.out _ hg; have hg0 := gt_trans HG1.out hg (.inl rfl))
      | (go_at_call 15; refine (IS.out _ _ (gt_trans hg0 (World.grownBy_alloc _ _ _) (.inl rfl)) (by simp) (by simp) (by simp) (by simp)).mono ?_; rintro e w2 ⟨rfl, hg2⟩; have G2 := gt_trans hg (gt_trans (World.grownBy_alloc _ _ _) hg2 (.inl rfl)) (.inl rfl); obtain ⟨x0, x1, x2, x3⟩ := HS.out _ G2))
    all_goals first
      | (go_ret; exact ⟨rfl, hg0⟩)
      | (go_ret; exact ⟨rfl, gt_trans HG1.out G2 (.inl rfl)⟩)
      | (go_wp2_with (first | (go_at_call 15; refine (IS.out _ _ (gt_trans hg0 (World.grownBy_alloc _ _ _) (.inl rfl)) (by simp) (by simp) (by simp) (by simp)).mono ?_; rintro e w2 ⟨rfl, hg2⟩; have G2 := gt_trans hg (gt_trans (World.grownBy_alloc _ _ _) hg2 (.inl rfl)) (.inl rfl); obtain ⟨x0, x1, x2, x3⟩ := HS.out _ G2)); go_ret; exact ⟨rfl, gt_trans HG1.out G2 (.inl rfl)⟩)
  have hw : wt t ≤ 2000 := by simpa using hs.symm
  obtain ⟨al, hal⟩ : ∃ al, al = allT t := ⟨_, rfl⟩
  rw [← hal] at IA
  cases al
  · clear hk0 hs hf ht hkd htt hm hg1 hW1 h1 h2 h3 hw hal
    go_enter Tryz.func6, Tryz.ntmps6
    go_wp2_with (first
      | (go_at_call 8; refine (HZ.out _).mono ?_; rintro e w1 ⟨b1, rfl, _, hg⟩; rw [← HW1.out] at hg; obtain ⟨x0, x1, x2, x3⟩ := HS.out _ hg; have hg0 := gt_trans HG1.out hg (.inl rfl))
      | (go_at_call 15; refine (IS.out _ _ (gt_trans hg0 (World.grownBy_alloc _ _ _) (.inl rfl)) (by simp) (by simp) (by simp) (by simp)).mono ?_; rintro e w2 ⟨rfl, hg2⟩; have G2 := gt_trans hg (gt_trans (World.grownBy_alloc _ _ _) hg2 (.inl rfl)) (.inl rfl); obtain ⟨x0, x1, x2, x3⟩ := HS.out _ G2)
      | (go_at_call 16; refine (IA.out _ G2).mono ?_; rintro e w3 ⟨rfl, hg3⟩; have G3 := gt_trans G2 hg3 (.inl rfl); obtain ⟨x0, x1, x2, x3⟩ := HS.out _ G3))
    all_goals first
      | (go_ret; exact ⟨rfl, hg0⟩)
      | (go_ret; exact ⟨rfl, gt_trans HG1.out G3 (.inl rfl)⟩)
      | (go_wp2_with (first | (go_at_call 15; refine (IS.out _ _ (gt_trans hg0 (World.grownBy_alloc _ _ _) (.inl rfl)) (by simp) (by simp) (by simp) (by simp)).mono ?_; rintro e w2 ⟨rfl, hg2⟩; have G2 := gt_trans hg (gt_trans (World.grownBy_alloc _ _ _) hg2 (.inl rfl)) (.inl rfl); obtain ⟨x0, x1, x2, x3⟩ := HS.out _ G2) | (go_at_call 16; refine (IA.out _ G2).mono ?_; rintro e w3 ⟨rfl, hg3⟩; have G3 := gt_trans G2 hg3 (.inl rfl); obtain ⟨x0, x1, x2, x3⟩ := HS.out _ G3)); go_ret; exact ⟨rfl, gt_trans HG1.out G3 (.inl rfl)⟩)
  have HN := Lib.hid (fun w (g : W1.grownBy w none) => (NewD (h + 1) B w _ _ (hk0.mono (gt_trans hg1 g (.inl rfl))) hw).mono (fun e w' ⟨v', he, hk', hg⟩ => (⟨v', he, hk', hg⟩ : ∃ v', e = Ending.returned v' ∧ KD (Fr w w') (h + 1) w' v' (newT t) ∧ w.grownBy w' none)))
  have HFO : Hid (∀ (B : Nat → Prop) (W : World) (v : Value), KD B (h + 1) W v (newT t) → ∃ d p q n cap m c2, v = .agg #[.int .i64 (kindN k), .int .i64 d, .slice p n cap, .slice q m c2]) := fun B W v hk => by
    have hkn := kindOf_new t
    rw [hkd] at hkn
    generalize newT t = tn at hk hkn
    obtain ⟨k', d, n, f, kids⟩ := tn
    obtain ⟨p, cap, q, c2, rfl, _⟩ := hk
    have : k' = kindN k := hkn
    exact ⟨d, p, q, n, cap, _, c2, by rw [this]⟩
  by_cases hk6 : 1 ≤ k ∧ k ≤ 6
  · have hkn : kindN k = k := by unfold kindN; rw [if_neg (by omega)]
    rw [hkn] at HFO
    have HI := Lib.hid (fun w (g : W1.grownBy w none) => implJSON_any T hT (h + 1) B w k d p q n cap m c2 t hk6 (hk0.mono (gt_trans hg1 g (.inl rfl))) hw hkd (ht.mono (gt_trans hg1 g (.inl rfl)) (by simp) (by simp)))
    have HSp := Lib.hid (fun B' w v' (g : W1.grownBy w none) (hk' : KD B' (h + 1) w v' (newT t)) => specJSON_any T hT (h + 1) B' w v' (newT t) k hk6 hk' (dims_new t) (Nat.le_trans (pl_new t) hw) (by rw [kindOf_new, hkd, hkn]) (ht.mono (gt_trans hg1 g (.inl rfl)) (by simp) (by simp)))
    generalize jHead k ++ jbT T (newT t) ++ [125] = LL at HI HSp
    generalize newT t = tn at HN HFO HSp
    clear hk0 hs hf ht hkd htt hm hg1 hW1 h1 h2 h3 hw hal hk6 hkn
    go_enter Tryz.func6, Tryz.ntmps6
    go_wp2_with (first
      | (go_at_call 8; refine (HZ.out _).mono ?_; rintro e w1 ⟨b1, rfl, _, hg⟩; rw [← HW1.out] at hg; obtain ⟨x0, x1, x2, x3⟩ := HS.out _ hg; have hg0 := gt_trans HG1.out hg (.inl rfl))
      | (go_at_call 15; refine (IS.out _ _ (gt_trans hg0 (World.grownBy_alloc _ _ _) (.inl rfl)) (by simp) (by simp) (by simp) (by simp)).mono ?_; rintro e w2 ⟨rfl, hg2⟩; have G2 := gt_trans hg (gt_trans (World.grownBy_alloc _ _ _) hg2 (.inl rfl)) (.inl rfl); obtain ⟨x0, x1, x2, x3⟩ := HS.out _ G2)
      | (go_at_call 16; refine (IA.out _ G2).mono ?_; rintro e w3 ⟨rfl, hg3⟩; have G3 := gt_trans G2 hg3 (.inl rfl); obtain ⟨x0, x1, x2, x3⟩ := HS.out _ G3)
      | (go_at_call 18; refine (HI.out _ G3).mono ?_; rintro e w4 ⟨v4, rfl, ⟨w0, hw0, hb⟩, hg4⟩; have G4 := gt_trans G3 hg4 (.inl rfl); have Hb := Lib.hid hb; obtain ⟨p4, n4, c4, rfl⟩ := hb.slice; obtain ⟨x0, x1, x2, x3⟩ := HS.out _ G4; clear hb)
      | (go_at_call 12; refine (HN.out _ G4).mono ?_; rintro e w5 ⟨v5, rfl, hk5, hg5⟩; have G5 := gt_trans G4 hg5 (.inl rfl); have Hk5 := Lib.hid hk5; obtain ⟨d5, p5, q5, n5, cap5, m5, c5, rfl⟩ := HFO.out _ _ _ hk5; clear hk5)
      | (go_at_call 19; refine (HSp.out _ _ _ G5 Hk5.out).mono ?_; rintro e w6 ⟨v6, rfl, hbv, hg6⟩; have G6 := gt_trans G5 hg6 (.inl rfl); have hcv1 := own_str (P := Tryz.prog) (src := 33) (dst := 9) (et := 5) Tryz.underlying33 Tryz.underlying5 Tryz.underlying9 (Hb.out.beside (gt_trans hg5 hg6 (.inl rfl))).own; have hcv2 := hbv.str (P := Tryz.prog) (src := 33) (dst := 9) (et := 5) Tryz.underlying33 Tryz.underlying5 Tryz.underlying9; obtain ⟨g6, cap6, rfl, _⟩ := hbv))
    all_goals first
      | (go_ret; exact ⟨rfl, hg0⟩)
      | (go_wp2_with fail; go_ret; exact ⟨rfl, gt_trans HG1.out G6 (.inl rfl)⟩)
      | (go_ret; exact ⟨rfl, gt_trans HG1.out G6 (.inl rfl)⟩)
  · have hkn : kindN k = 0 := by unfold kindN; split <;> omega
    rw [hkn] at HFO
    have HI := Lib.hid (fun w => implJSON_other k d p q n cap m c2 w (by omega) (by omega) (by omega) (by omega) (by omega) (by omega))
    have HSp := Lib.hid (fun d p q n cap m c2 w => specJSON0 w d p q n cap m c2)
    generalize newT t = tn at HN HFO
    clear hk0 hs hf ht hkd htt hm hg1 hW1 h1 h2 h3 hw hal hk6 hkn
    go_enter Tryz.func6, Tryz.ntmps6
    go_wp2_with (first
      | (go_at_call 8; refine (HZ.out _).mono ?_; rintro e w1 ⟨b1, rfl, _, hg⟩; rw [← HW1.out] at hg; obtain ⟨x0, x1, x2, x3⟩ := HS.out _ hg; have hg0 := gt_trans HG1.out hg (.inl rfl))
      | (go_at_call 15; refine (IS.out _ _ (gt_trans hg0 (World.grownBy_alloc _ _ _) (.inl rfl)) (by simp) (by simp) (by simp) (by simp)).mono ?_; rintro e w2 ⟨rfl, hg2⟩; have G2 := gt_trans hg (gt_trans (World.grownBy_alloc _ _ _) hg2 (.inl rfl)) (.inl rfl); obtain ⟨x0, x1, x2, x3⟩ := HS.out _ G2)
      | (go_at_call 16; refine (IA.out _ G2).mono ?_; rintro e w3 ⟨rfl, hg3⟩; have G3 := gt_trans G2 hg3 (.inl rfl); obtain ⟨x0, x1, x2, x3⟩ := HS.out _ G3)
      | (go_at_call 18; refine (HI.out _).mono ?_; rintro e w4 ⟨rfl, hg4⟩; have G4 := gt_trans G3 hg4 (.inl rfl); obtain ⟨x0, x1, x2, x3⟩ := HS.out _ G4)
      | (go_at_call 12; refine (HN.out _ G4).mono ?_; rintro e w5 ⟨v5, rfl, hk5, hg5⟩; have G5 := gt_trans G4 hg5 (.inl rfl); obtain ⟨d5, p5, q5, n5, cap5, m5, c5, rfl⟩ := HFO.out _ _ _ hk5; clear hk5)
      | (go_at_call 19; refine (HSp.out _ _ _ _ _ _ _ _).mono ?_; rintro e w6 ⟨rfl, hg6⟩; have G6 := gt_trans G5 hg6 (.inl rfl)))
    all_goals first
      | (go_ret; exact ⟨rfl, hg0⟩)
      | (go_wp2_with fail; go_ret; exact ⟨rfl, gt_trans HG1.out G6 (.inl rfl)⟩)
      | (go_ret; exact ⟨rfl, gt_trans HG1.out G6 (.inl rfl)⟩)
end Go.Proofs.YthcjnadceambgaaGreatDoor
namespace Go.Proofs.YthcjnadceambgaaGreatDoor
open Go.Joins Go.ChangeShapes Go.WideShapes Go.RowKit Go.Deep Go.ChangeAt

theorem kids_all : Kids Tryz.prog (· < Tryz.prog.types.size) := kids_rows (by kernel_rfl) (by kernel_rfl)
theorem full_all : ∀ t e, t < Tryz.prog.types.size → Tryz.prog.underlying t = some (.slice e) → 0 < Tryz.prog.cellsOf e := slices_full_of Tryz.prog (by kernel_rfl)

section
variable {H : Type} {enc : TypeId × Value → H} {P : Program} {W W' : World} {base : Nat} {spare : Nat → Bool} {held : Bool}
theorem trodAll_carry : ∀ {ts : List TypeId} {vs : List Value} {ds : List (DataW H)} {ps : List MemPlace}, DataW.TrodAll enc P W base spare held ts vs ds ps → (∀ p ∈ ps, W.sameAt W' p) → DataW.TrodAll enc P W' base spare held ts vs ds ps
  | [], [], [], _, h, _ => h
  | _ :: _, _ :: _, _ :: _, _, ⟨p, q, ⟨n, h1⟩, h2, e⟩, hs =>
    ⟨p, q, ⟨n, DataW.trod_carry n _ _ _ h1 (fun x hx => hs x (by rw [e]; exact List.mem_append_left _ hx))⟩, trodAll_carry h2 (fun x hx => hs x (by rw [e]; exact List.mem_append_right _ hx)), e⟩
end
section
variable {H : Type} {enc : TypeId × Value → H} {W W' : World}
theorem args_below {ts : List TypeId} {vs : List Value} {ds : List (DataW H)} {ps : List MemPlace} (hts : ∀ t ∈ ts, t < Tryz.prog.types.size) (hA : DataW.TrodAll enc Tryz.prog W 0 (fun _ => true) true ts vs ds ps) (hb : Below W.heap.size W W') :
    DataW.TrodAll enc Tryz.prog W' 0 (fun b => decide (b < W.heap.size)) true ts vs ds ps :=
  (trodAll_carry hA fun p hp => hb.same (hA.lt p hp)).respare kids_all full_all hts fun p hp => by simpa using hA.lt p hp
end
end Go.Proofs.YthcjnadceambgaaGreatDoor
namespace Go.Proofs.YthcjnadceambgaaGreatDoor
open Go.RowKit Go.ChangeShapes

def pval : Option Value → Int
  | some (.int _ n) => n
  | _ => 0

theorem p10_of_reads {W : World} (h : Lib.VarReads Tryz.prog W "internal/strconv.pow10Tab" Go.Pinned.pow10Tab) : ∃ T : Nat → Int, (∀ i, U64 (T i)) ∧ P10 T W := by
  obtain ⟨g, t, cs, fuel, p, h1, h2, h3, h4⟩ := h
  obtain rfl : g = 3 := Option.some.inj (h1.symm.trans (by kernel_rfl))
  obtain rfl : t = 208 := Option.some.inj (h2.symm.trans (by kernel_rfl))
  obtain ⟨xs, m, _, _, hl, _, hall⟩ := DataW.trod_array (n := 696) (e := 207) (by kernel_rfl) h4
  have hc2 : Tryz.prog.cellsOf 207 = 2 := by kernel_rfl
  have hlen : cs.toList.length = 1392 := hl.trans (by kernel_rfl)
  have key : ∀ i : Nat, i < 1392 → ∃ n : Int, cs[i]? = some (.int .u64 n) ∧ U64 n := by
    intro i hi
    have hj := hall (i / 2) (by omega)
    rw [hc2] at hj
    have hx : ∃ x, xs[i / 2]? = some x := ⟨xs[i / 2]'(by omega), List.getElem?_eq_getElem (by omega)⟩
    obtain ⟨x, hx⟩ := hx
    rw [hx] at hj
    obtain ⟨y0, y1, n, _, _, ha, hb⟩ := trod_struct2 Tryz.underlying207 hj
    have hu : Tryz.prog.underlying 137 = some (.int .u64) := by kernel_rfl
    obtain ⟨a, hca, _, wa⟩ := DataW.trod_int hu ha
    obtain ⟨b, hcb, _, wb⟩ := DataW.trod_int hu hb
    have hca' := congrArg (·[0]?) hca
    have hcb' := congrArg (·[0]?) hcb
    have hcu : Tryz.prog.cellsOf 137 = 1 := by kernel_rfl
    simp only [hcu, List.drop_zero, List.getElem?_take, List.getElem?_drop, List.getElem?_cons_zero, Nat.zero_lt_one, if_true, Nat.add_zero] at hca' hcb'
    rcases Nat.mod_two_eq_zero_or_one i with e | e
    · refine ⟨a, ?_, .of_wf wa⟩
      simp at hca'
      rw [show i / 2 * 2 = i by omega] at hca'
      exact hca'
    · refine ⟨b, ?_, .of_wf wb⟩
      simp at hcb'
      rw [show i / 2 * 2 + 1 = i by omega] at hcb'
      exact hcb'
  refine ⟨fun i => pval cs[i]?, fun i => ?_, fun i hi => ?_⟩
  · by_cases hi : i < 1392
    · obtain ⟨n, hn, hu⟩ := key i hi
      show U64 (pval cs[i]?)
      rw [hn]; exact hu
    · have : cs[i]? = none := Array.getElem?_eq_none (by simpa using (by omega : cs.toList.length ≤ i))
      show U64 (pval cs[i]?)
      rw [this]; exact ⟨by decide, by decide⟩
  · obtain ⟨n, hn, hu⟩ := key i hi
    have e : W.cell? ⟨3, i, none⟩ = cs[i]? := World.var?_cell h1 h3 i
    show W.cell? ⟨3, i, none⟩ = some (.int .u64 (pval cs[i]?))
    rw [e, hn]
    rfl

theorem u10_of_reads {W : World} (h : Lib.VarReads Tryz.prog W "internal/strconv.uint64pow10" Rows.laid_internal_strconv_uint64pow10) : Lib.TabIs Tryz.prog W "internal/strconv.uint64pow10" .u64 Lib.pow10Tab := by
  obtain ⟨g, t, cs, fuel, p, h1, h2, h3, h4⟩ := h
  obtain rfl : t = 199 := by
    obtain rfl : g = 2 := Option.some.inj (h1.symm.trans (by kernel_rfl))
    exact Option.some.inj (h2.symm.trans (by kernel_rfl))
  have hd : (Rows.laid_internal_strconv_uint64pow10 : DataW Unit) = Lib.tabData .u64 Lib.pow10Tab := by kernel_rfl
  rw [hd] at h4
  have := Lib.cells_of_tab (n := 20) (e := 137) (by kernel_rfl) (by kernel_rfl) (by kernel_rfl) (by kernel_rfl) h4
  unfold Lib.TabIs
  rw [h3, ← this]

/-- The facts of the tables, out of the row's condition. -/
theorem tabs_of_laid {W : World} {laid : List (String × DataW Unit)} (hL : laidMet Tryz.prog laid W) (m1 : ("internal/strconv.pow10Tab", Go.Pinned.pow10Tab) ∈ laid) (m2 : ("internal/strconv.uint64pow10", Rows.laid_internal_strconv_uint64pow10) ∈ laid) :
    ∃ T : Nat → Int, (∀ i, U64 (T i)) ∧ Tabs T W := by
  obtain ⟨T, hT, hp⟩ := p10_of_reads (Lib.laidMet.reads hL m1)
  exact ⟨T, hT, hp, u10_of_reads (Lib.laidMet.reads hL m2)⟩
end Go.Proofs.YthcjnadceambgaaGreatDoor
