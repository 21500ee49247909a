/- FnJSONPlace's walk. -/
import Derived.Test.YthcjnadceambgaaDoorA8
import Derived.Deep.DeepCutAuto
namespace Go.Proofs.YthcjnadceambgaaDoor
open Go.RowKit

set_option maxRecDepth 100000 in
set_option maxHeartbeats 1000000 in
theorem JSONPlace_any (T : Nat → Int) (hT : ∀ i, U64 (T i)) (x y z m : Nat) (d : Int) (hx : x < 18446744073709551616) (hy : y < 18446744073709551616) (hz : z < 18446744073709551616) (h0 : 0 ≤ d) (h1 : d ≤ 3) (w : World) (ht : Tabs T w) :
    Calls Tryd.prog 6 #[.agg #[.float .f64 x, .float .f64 y, .float .f64 z, .float .f64 m, .int .i64 d]] w fun e w' => e = .returned (.string ⟨(jsonPl T x y z d).toArray⟩) ∧ Below w.heap.size w w' := by
  have hg3 := ht.lt3
  have hg2 := ht.lt2
  have HT := Lib.hid ht
  clear ht
  have HB := Lib.hid (World.grownBy_alloc w (.cells #[.float .f64 x, .float .f64 y, .float .f64 z, .float .f64 m, .int .i64 d] 24) none)
  go_enter Tryd.func6, Tryd.ntmps6
  go_wp2_with (first
    | (go_at_call 14; refine (coordinates_any x y z m d h0 h1 _).mono ?_; rintro e w1 ⟨rfl, hb⟩; have G := gt_trans HB.out (gt_below hb none) (.inr (.inl rfl)); clear hb HB; have hs := G.size)
    | (go_at_call 28; refine (appendGeoJSONCoordinate_any T hT x y z m d hx hy hz h0 h1 w.heap.size _ [] _ (World.ownsRow_nil _ _ _ _) (by simp; omega) (by simp) (HT.out.mono (gt_alloc_r G _) (by simp) (by simp)) (by omega) (by omega)).mono ?_; rintro e w2 ⟨v', rfl, H⟩; have hcv := own_str (P := Tryd.prog) Tryd.underlying34 Tryd.underlying5 Tryd.underlying9 H.own)
    | go_in)
  go_ret
  refine ⟨rfl, below_gt ?_⟩
  exact gt_trans (gt_alloc_r G _) H.grown (.inr (.inl rfl))

/-- One string behind the other, all three under names. -/
theorem cat_run (P : Program) (a b : List UInt8) (sa sb c : ByteArray) (ha : sa = ⟨a.toArray⟩) (hb : sb = ⟨b.toArray⟩) (hc : c = ⟨(a ++ b).toArray⟩) (hl : a.length + b.length ≤ 100000000) :
    ∀ W : World, (Op.stringOp .add sa sb).run P W = .ok (.string c) W := by
  intro W
  subst ha hb hc
  have e : ∀ l : List UInt8, (ByteArray.mk l.toArray).size = l.length := fun l => by simp [ByteArray.size]
  have ee : (ByteArray.mk a.toArray ++ ByteArray.mk b.toArray) = ⟨(a ++ b).toArray⟩ := by
    apply ByteArray.ext
    simp
  rw [run_string_add_sum (P := P) W _ _ (by rw [e, e]; omega), ee]

set_option maxRecDepth 100000 in
set_option maxHeartbeats 1000000 in
theorem FnJSONPlace_in (x y z m : Nat) (d : Int) (h0 : 0 ≤ d) (h1 : d ≤ 3) (w : World) (Tb : World → Prop) (ht : Tb w)
    (htm : ∀ W W' : World, W.grownBy W' none → Tb W → Tb W') (sX sY sZ s1 s2 s3 t s4 J : ByteArray)
    (hX : ∀ W, Tb W → Calls Tryd.prog 5 #[.float .f64 x] W fun e w' => e = .returned (.string sX) ∧ Below W.heap.size W w')
    (hY : ∀ W, Tb W → Calls Tryd.prog 5 #[.float .f64 y] W fun e w' => e = .returned (.string sY) ∧ Below W.heap.size W w')
    (hZ : ∀ W, Tb W → Calls Tryd.prog 5 #[.float .f64 z] W fun e w' => e = .returned (.string sZ) ∧ Below W.heap.size W w')
    (hJ : ∀ W, Tb W → Calls Tryd.prog 6 #[.agg #[.float .f64 x, .float .f64 y, .float .f64 z, .float .f64 m, .int .i64 d]] W fun e w' => e = .returned (.string J) ∧ Below W.heap.size W w')
    (c1 : ∀ W : World, (Op.stringOp .add ⟨#[91]⟩ sX).run Tryd.prog W = .ok (.string s1) W) (c2 : ∀ W : World, (Op.stringOp .add s1 ⟨#[44]⟩).run Tryd.prog W = .ok (.string s2) W)
    (c3 : ∀ W : World, (Op.stringOp .add s2 sY).run Tryd.prog W = .ok (.string s3) W)
    (c4 : d % 2 = 1 → ∀ W : World, (Op.stringOp .add ⟨#[44]⟩ sZ).run Tryd.prog W = .ok (.string t) W) (c5 : d % 2 = 1 → ∀ W : World, (Op.stringOp .add s3 t).run Tryd.prog W = .ok (.string s4) W)
    (c6 : d % 2 = 1 → ∀ W : World, (Op.stringOp .add s4 ⟨#[93]⟩).run Tryd.prog W = .ok (.string J) W) (c7 : ¬ d % 2 = 1 → ∀ W : World, (Op.stringOp .add s3 ⟨#[93]⟩).run Tryd.prog W = .ok (.string J) W) :
    Calls Tryd.prog 3 #[.agg #[.float .f64 x, .float .f64 y, .float .f64 z, .float .f64 m, .int .i64 d]] w fun e w' => e = .returned (.bool true) ∧ Below w.heap.size w w' := by
  have G := Lib.hid (World.grownBy_alloc w (.cells #[.float .f64 x, .float .f64 y, .float .f64 z, .float .f64 m, .int .i64 d] 24) none)
  have HTM := Lib.hid htm
  have HK : Hid (∀ W, (w.alloc (.cells #[.float .f64 x, .float .f64 y, .float .f64 z, .float .f64 m, .int .i64 d] 24)).grownBy W none → W.cell? ⟨w.heap.size, 0, none⟩ = some (.float .f64 x) ∧ W.cell? ⟨w.heap.size, 1, none⟩ = some (.float .f64 y) ∧ W.cell? ⟨w.heap.size, 2, none⟩ = some (.float .f64 z) ∧ W.cell? ⟨w.heap.size, 3, none⟩ = some (.float .f64 m) ∧ W.cell? ⟨w.heap.size, 4, none⟩ = some (.int .i64 d) ∧ Tb W) := by
    intro W hW
    have hb := below_gt hW
    refine ⟨?_, ?_, ?_, ?_, ?_, ?_⟩
    all_goals first | (rw [hb.cell (by simp)]; simp; done) | exact htm _ _ hW (htm _ _ G.out ht)
  have HX := Lib.hid hX
  have HY := Lib.hid hY
  have HZ := Lib.hid hZ
  have HJ := Lib.hid hJ
  clear ht htm hX hY hZ hJ
  have HS : Hid (∀ W, (w.alloc (.cells #[.float .f64 x, .float .f64 y, .float .f64 z, .float .f64 m, .int .i64 d] 24)).grownBy W none → W.cell? ⟨w.heap.size, 0, none⟩ = some (.float .f64 x) ∧ W.cell? ⟨w.heap.size, 1, none⟩ = some (.float .f64 y) ∧ (w.alloc (.cells #[.float .f64 x, .float .f64 y, .float .f64 z, .float .f64 m, .int .i64 d] 24)).grownBy W none) := fun W h => ⟨(HK.out W h).1, (HK.out W h).2.1, h⟩
  have HTS : Hid (∀ W, (W.cell? ⟨w.heap.size, 0, none⟩ = some (.float .f64 x) ∧ W.cell? ⟨w.heap.size, 1, none⟩ = some (.float .f64 y) ∧ (w.alloc (.cells #[.float .f64 x, .float .f64 y, .float .f64 z, .float .f64 m, .int .i64 d] 24)).grownBy W none) → Tb W) := fun W h => (HK.out W h.2.2).2.2.2.2.2
  go_enter Tryd.func3, Tryd.ntmps3
  go_upto_region 3 with fail
  go_cut [3] (fun v W => v = .string s3 ∧ (w.alloc (.cells #[.float .f64 x, .float .f64 y, .float .f64 z, .float .f64 m, .int .i64 d] 24)).grownBy W none)
  case first =>
    go_region_held3 (fun W => W.cell? ⟨w.heap.size, 0, none⟩ = some (.float .f64 x) ∧ W.cell? ⟨w.heap.size, 1, none⟩ = some (.float .f64 y) ∧ (w.alloc (.cells #[.float .f64 x, .float .f64 y, .float .f64 z, .float .f64 m, .int .i64 d] 24)).grownBy W none) (first | exact HS.out _ (gt_drew_r (gt_refl _ _)) | exact HS.out _ (gt_trans (by assumption) (gt_below (by assumption) none) (.inr (.inl rfl))) | exact HS.out _ (gt_trans (And.right (And.right (by assumption))) (gt_below (by assumption) none) (.inr (.inl rfl))))
      (first
        | (go_at_call_of 5 (Value.float FloatKind.f64 x); refine (HX.out _ ?_).mono ?_; (exact HTS.out _ (by assumption)); rintro e w' ⟨rfl, hb⟩)
        | (go_at_call_of 5 (Value.float FloatKind.f64 y); refine (HY.out _ ?_).mono ?_; (exact HTS.out _ (by assumption)); rintro e w' ⟨rfl, hb⟩))
    go_wp2_with fail
    go_meet
    exact ⟨rfl, And.right (And.right (by assumption))⟩
  case rest =>
    obtain ⟨rfl, G2⟩ := hcut
    rename World => W2
    obtain ⟨k0, k1, k2, k3, k4, kt⟩ := HK.out _ G2
    have KT := Lib.hid kt
    clear kt c1 c2 c3
    by_cases hd : d % 2 = 1
    · have hodd : bits BinOp.and IntKind.i64 d 1 = 1 := by rw [i64_and1]; exact hd
      have c4 := c4 hd
      have c5 := c5 hd
      have c6 := c6 hd
      clear c7
      go_wp2_with (first
        | (go_at_call 5; refine (HZ.out _ KT.out).mono ?_; rintro e w' ⟨rfl, hb⟩; have G3 := gt_trans G2 (gt_below hb none) (.inr (.inl rfl)); clear hb G2 k0 k1 k2 k3 k4 KT; obtain ⟨k0, k1, k2, k3, k4, kt⟩ := HK.out _ G3; have KT := Lib.hid kt; clear kt)
        | (go_at_call 6; refine (HJ.out _ KT.out).mono ?_; rintro e w' ⟨rfl, hb⟩; have G4 := gt_trans G3 (gt_below hb none) (.inr (.inl rfl)); clear hb))
      go_ret
      exact ⟨rfl, below_gt (gt_trans G.out G4 (.inr (.inl rfl)))⟩
    · have hodd : bits BinOp.and IntKind.i64 d 1 = 0 := by rw [i64_and1]; omega
      have c7 := c7 hd
      clear c4 c5 c6
      go_wp2_with (first
        | (go_at_call 6; refine (HJ.out _ KT.out).mono ?_; rintro e w' ⟨rfl, hb⟩; have G4 := gt_trans G2 (gt_below hb none) (.inr (.inl rfl)); clear hb))
      go_ret
      exact ⟨rfl, below_gt (gt_trans G.out G4 (.inr (.inl rfl)))⟩

set_option maxRecDepth 100000 in
set_option maxHeartbeats 1000000 in
theorem FnJSONPlace_out (x y z m : Nat) (d : Int) (h : d < 0 ∨ 3 < d) (w : World) :
    Calls Tryd.prog 3 #[.agg #[.float .f64 x, .float .f64 y, .float .f64 z, .float .f64 m, .int .i64 d]] w fun e w' => e = .returned (.bool true) ∧ Below w.heap.size w w' := by
  rcases h with h | h
  · go_enter Tryd.func3, Tryd.ntmps3
    go_wp2
    go_ret
    exact ⟨rfl, by go_grown⟩
  · have h' : ¬ d < 0 := by omega
    go_enter Tryd.func3, Tryd.ntmps3
    go_wp2
    go_ret
    exact ⟨rfl, by go_grown⟩

/-- FnJSONPlace returns true, whatever the place. -/
theorem FnJSONPlace_any (T : Nat → Int) (hT : ∀ i, U64 (T i)) (x y z m : Nat) (d : Int) (hx : x < 18446744073709551616) (hy : y < 18446744073709551616) (hz : z < 18446744073709551616) (w : World) (ht : Tabs T w) :
    Calls Tryd.prog 3 #[.agg #[.float .f64 x, .float .f64 y, .float .f64 z, .float .f64 m, .int .i64 d]] w fun e w' => e = .returned (.bool true) ∧ Below w.heap.size w w' := by
  by_cases h0 : 0 ≤ d
  · by_cases h1 : d ≤ 3
    · have lx := decT_len T x
      have ly := decT_len T y
      have lz := decT_len T z
      refine FnJSONPlace_in x y z m d h0 h1 w (Tabs T) ht (fun W W' hg h => h.mono hg (by simp) (by simp)) ⟨(decT T x).toArray⟩ ⟨(decT T y).toArray⟩ ⟨(decT T z).toArray⟩ ⟨([91] ++ decT T x).toArray⟩ ⟨([91] ++ decT T x ++ [44]).toArray⟩
        ⟨([91] ++ decT T x ++ [44] ++ decT T y).toArray⟩ ⟨([44] ++ decT T z).toArray⟩ ⟨([91] ++ decT T x ++ [44] ++ decT T y ++ ([44] ++ decT T z)).toArray⟩ ⟨(jsonPl T x y z d).toArray⟩
        (fun W h => WriteNumber_any T hT x hx W h) (fun W h => WriteNumber_any T hT y hy W h) (fun W h => WriteNumber_any T hT z hz W h) (fun W h => JSONPlace_any T hT x y z m d hx hy hz h0 h1 W h)
        (cat_run _ [91] (decT T x) _ _ _ rfl rfl rfl ?_) (cat_run _ ([91] ++ decT T x) [44] _ _ _ rfl rfl rfl ?_) (cat_run _ ([91] ++ decT T x ++ [44]) (decT T y) _ _ _ rfl rfl rfl ?_)
        (fun _ => cat_run _ [44] (decT T z) _ _ _ rfl rfl rfl ?_) (fun _ => cat_run _ ([91] ++ decT T x ++ [44] ++ decT T y) ([44] ++ decT T z) _ _ _ rfl rfl rfl ?_)
        (fun hd => cat_run _ ([91] ++ decT T x ++ [44] ++ decT T y ++ ([44] ++ decT T z)) [93] _ _ _ rfl rfl (by unfold jsonPl; rw [if_pos hd]) ?_) (fun hd => cat_run _ ([91] ++ decT T x ++ [44] ++ decT T y) [93] _ _ _ rfl rfl (by unfold jsonPl; rw [if_neg hd, List.append_nil]) ?_)
      all_goals (simp only [List.length_append, List.length_cons, List.length_nil]; omega)
    · exact FnJSONPlace_out x y z m d (.inr (by omega)) w
  · exact FnJSONPlace_out x y z m d (.inl (by omega)) w

end Go.Proofs.YthcjnadceambgaaDoor
