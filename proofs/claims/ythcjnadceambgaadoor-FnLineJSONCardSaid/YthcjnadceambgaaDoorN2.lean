/- The package's GeoJSON of a line string: MarshalJSON, LineJSON. -/
import Derived.Test.YthcjnadceambgaaDoorN
namespace Go.Proofs.YthcjnadceambgaaDoor
open Go.RowKit

def jsonHead : List UInt8 := [123, 34, 116, 121, 112, 101, 34, 58, 34, 76, 105, 110, 101, 83, 116, 114, 105, 110, 103, 34, 44, 34, 99, 111, 111, 114, 100, 105, 110, 97, 116, 101, 115, 34, 58]
noncomputable def lineJ (T : Nat → Int) (r : Nat) (f : Nat → Nat) (n : Nat) : List UInt8 := jsonHead ++ [91] ++ seqTo T r f (n / widN r) ++ [93] ++ [125]

set_option maxRecDepth 100000 in
set_option maxHeartbeats 2000000 in
theorem LineMarshal_any (T : Nat → Int) (hT : ∀ i, U64 (T i)) (r n : Nat) (f : Nat → Nat) (hr : r < 4) (hn : n ≤ 2000) (v : Value) (W : World) (hv : SeqIs W v r n f) (ht : Tabs T W) :
    Calls Tryd.prog 20 #[v] W fun e w' => ∃ v', e = .returned (.tuple #[v', .nilIface]) ∧ AppB 5 W.heap.size W (.slice none 0 0) w' v' (lineJ T r f n) := by
  obtain ⟨a, rfl, hf, hb⟩ := hv
  have hg3 := ht.lt3
  have hg2 := ht.lt2
  have H := AppB.nil (W.alloc (.cells #[.int .u8 r, .slice (some a) n n] 56)) 5 W.heap.size
  have HG := Lib.hid (World.grownBy_alloc W (.cells #[.int .u8 r, .slice (some a) n n] 56) none)
  have hbase0 : W.heap.size ≤ (W.alloc (.cells #[.int .u8 r, .slice (some a) n n] 56)).heap.size := by simp
  have HC : Hid (∀ W' v' l', AppB 5 W.heap.size (W.alloc (.cells #[.int .u8 r, .slice (some a) n n] 56)) (.slice none 0 0) W' v' l' → W'.cell? ⟨W.heap.size, 0, none⟩ = some (.int .u8 r) ∧ W'.cell? ⟨W.heap.size, 1, none⟩ = some (.slice (some a) n n)) := by
    intro W' v' l' h
    refine ⟨?_, ?_⟩ <;> (rw [h.cell (by simp) (by simp [Value.ownBlock])]; simp)
  have HF : Hid (∀ W' v' l', AppB 5 W.heap.size (W.alloc (.cells #[.int .u8 r, .slice (some a) n n] 56)) (.slice none 0 0) W' v' l' → FVal W' (some a) n f) := fun W' v' l' h => (hf.mono HG.out).kept h.grown (by simp [Value.ownBlock])
  have HT : Hid (∀ W' v' l', AppB 5 W.heap.size (W.alloc (.cells #[.int .u8 r, .slice (some a) n n] 56)) (.slice none 0 0) W' v' l' → Tabs T W') := fun W' v' l' h => (ht.mono HG.out (by simp) (by simp)).mono h.grown (by simp [Value.ownBlock]) (by simp [Value.ownBlock])
  have hSL := seqTo_len T r f (n / widN r)
  have hLb : n / widN r ≤ 2000 := Nat.le_trans (Nat.div_le_self _ _) hn
  have HSQ := Lib.hid (fun l v W' (h : W'.ownsRow W.heap.size 5 1 v l.length (Bs l)) (hw : W.heap.size ≤ W'.heap.size) (hl : l.length ≤ 1000) (t : Tabs T W') (hf : FVal W' (some a) n f) => appendGeoJSONSequence_any T hT r n a f hr hn W.heap.size v l W' hf hb h hw hl t hg3 hg2)
  obtain ⟨M, hM⟩ : ∃ M, M = seqTo T r f (n / widN r) := ⟨_, rfl⟩
  have HJ : Hid (lineJ T r f n = [] ++ jsonHead ++ [91] ++ M ++ [93] ++ [125]) := by rw [hM]; rfl
  rw [← hM] at hSL HSQ
  have hML : M.length ≤ 24022000 := by omega
  clear hM hSL hLb hf hb
  go_enter Tryd.func20, Tryd.ntmps20
  go_wp2_with (first
    | (at_builtin; refine app_str rfl _ _ _ _ rfl Tryd.underlying34 Tryd.underlying9 infoB H rfl _ rfl hbase0 (by simp [ByteArray.size]) ?_; intro v1 w1 H1; clear H; have H := H1; clear H1; obtain ⟨k0, k1⟩ := HC.out _ _ _ H)
    | (go_at_call 35; refine (HSQ.out _ _ _ H.own (H.based hbase0) (by simp) (HT.out _ _ _ H) (HF.out _ _ _ H)).mono ?_; rintro e w' ⟨v', rfl, H'⟩; have H1 := H.trans H'; clear H H'; have H := H1; clear H1)
    | (at_builtin; refine app_byte rfl _ _ _ rfl Tryd.underlying34 infoB H rfl _ 125 rfl rfl (by first | rfl | simp) hbase0 (by (try simp only [List.length_append, List.length_cons, List.length_nil]); omega) ?_; intro v1 w1 H1; clear H; have H := H1; clear H1))
  have H2 := ((AppB.nil W 5 W.heap.size).beside HG.out).trans H
  go_returns
  refine ⟨v1, rfl, ?_⟩
  rw [HJ.out]
  simpa only [jsonHead, List.append_assoc] using H2

set_option maxRecDepth 100000 in
theorem json_any (v : Value) (W : World) (hv : ∃ p n c, v = .slice p n c) : Calls Tryd.prog 18 #[v, .nilIface] W fun e w' => e = .returned (.tuple #[v, .bool true]) ∧ w' = W := by
  obtain ⟨p, n, c, rfl⟩ := hv
  go_enter Tryd.func18, Tryd.ntmps18
  go_wp2_with fail
  go_returns
  exact ⟨rfl, rfl⟩

theorem AppB.slice {e base : Nat} {w0 w : World} {v0 v : Value} {l : List UInt8} (h : AppB e base w0 v0 w v l) : ∃ p n c, v = .slice p n c := by
  rcases h.own.2 with h | ⟨g, cap, cur, hv, _⟩
  · exact ⟨_, _, _, h.1⟩
  · exact ⟨_, _, _, hv⟩

set_option maxRecDepth 100000 in
set_option maxHeartbeats 1000000 in
theorem LineJSON_any (T : Nat → Int) (hT : ∀ i, U64 (T i)) (d : Int) (r : Nat) (hr : d % 4 = r) (p q : Option Addr) (n cap m c2 : Nat) (f : Nat → Nat) (hn : n ≤ 2000) (W : World) (hf : FVal W p n f) (ht : Tabs T W) :
    Calls Tryd.prog 9 #[.agg #[.int .i64 2, .int .i64 d, .slice p n cap, .slice q m c2]] W fun e w' => ∃ v, e = .returned (.tuple #[v, .bool true]) ∧ W.grownBy w' none ∧ ∃ w0, W.grownBy w0 none ∧ AppB 5 w0.heap.size w0 (.slice none 0 0) w' v (lineJ T r f (n - n % widN r)) := by
  have HG := Lib.hid (World.grownBy_alloc W (.cells #[.int .i64 2, .int .i64 d, .slice p n cap, .slice q m c2] 31) none)
  have HL := Lib.hid (fun w (g : W.grownBy w none) => line_any d r hr p q n cap m c2 f hn w (hf.mono g))
  have HM := Lib.hid (fun v w (g : W.grownBy w none) (h : SeqIs w v r (n - n % widN r) f) => LineMarshal_any T hT r (n - n % widN r) f (by omega) (by omega) v w h (ht.mono g (by simp) (by simp)))
  generalize n - n % widN r = N at HL HM ⊢
  clear hr hf ht
  go_enter Tryd.func9, Tryd.ntmps9
  go_wp2_with (first
    | (go_at_call 19; refine (HL.out _ HG.out).mono ?_; rintro e w' ⟨v, rfl, hv, hg1⟩)
    | (go_at_call 20; refine (HM.out _ _ (gt_trans HG.out hg1 (.inl rfl)) hv).mono ?_; rintro e w'' ⟨v', rfl, hb⟩)
    | (go_at_call 18; refine (json_any _ _ hb.slice).mono ?_; rintro e w3 ⟨rfl, rfl⟩))
  go_returns
  exact ⟨_, rfl, gt_trans (gt_trans HG.out hg1 (.inl rfl)) hb.grown (.inl rfl), _, gt_trans HG.out hg1 (.inl rfl), hb⟩
end Go.Proofs.YthcjnadceambgaaDoor
