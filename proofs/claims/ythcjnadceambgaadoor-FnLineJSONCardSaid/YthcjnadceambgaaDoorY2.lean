/- The reference's GeoJSON of a line string, whole; its New of a line string. -/
import Derived.Test.YthcjnadceambgaaDoorY
import Derived.Test.YthcjnadceambgaaDoorN2
import Derived.Lib.ConvBytes
namespace Go.Proofs.YthcjnadceambgaaDoor
open Go.RowKit

/-- A row of bytes in memory. -/
def BVal (W : World) (v : Value) (l : List UInt8) : Prop :=
  ∃ g cap, v = .slice (some ⟨g, 0, none⟩) l.length cap ∧ ∀ i, i < l.length → W.cell? ⟨g, i, none⟩ = some (.int .u8 ((l.getD i 0).toNat : Int))
theorem BVal.mono {W W' : World} {v : Value} {l : List UInt8} (h : BVal W v l) (hg : W.grownBy W' none) : BVal W' v l := by
  obtain ⟨g, cap, rfl, h⟩ := h
  exact ⟨g, cap, rfl, fun i hi => hg.cell (h i hi) (by simp)⟩
theorem BVal.str {P : Program} {W : World} {v : Value} {l : List UInt8} {src dst et : TypeId} (hs : P.underlying src = some (.slice et)) (he : P.underlying et = some (.int .u8)) (hd : P.underlying dst = some .string)
    (h : BVal W v l) : (convert src dst v).run P W = .ok (.string ⟨l.toArray⟩) W := by
  have key : ∀ xs : List UInt8, strOfNums (xs.map fun b => (b.toNat : Int)) = ⟨xs.toArray⟩ := by
    intro xs
    simp only [strOfNums, List.map_map]
    congr 2
    refine (List.map_congr_left fun b _ => ?_).trans (List.map_id xs)
    simp
  obtain ⟨g, cap, rfl, h⟩ := h
  rw [← key l]
  refine run_convert_bytes_arg W src et hs he g 0 l.length cap (l.map fun b => (b.toNat : Int)) (by simp) (fun i hi => ?_) dst hd
  rw [Nat.zero_add, h i hi]
  simp [List.getD_eq_getElem?_getD, List.getElem?_eq_getElem hi]
theorem BVal.of_conv (W : World) (e : TypeId) (l : List UInt8) (s : ByteArray) (hs : s = ⟨l.toArray⟩) : W.grownBy (Lib.bytesWorld W e s) none ∧ BVal (Lib.bytesWorld W e s) (.slice (some ⟨W.heap.size, 0, none⟩) s.size (grownCap W s.size 0 e)) l := by
  subst hs
  refine ⟨⟨rfl, rfl, rfl, by rw [Lib.bytesWorld_size]; omega, fun i hi _ => Lib.bytesWorld_at_old W e _ i hi⟩, ?_⟩
  have hsz : (⟨l.toArray⟩ : ByteArray).size = l.length := by simp [ByteArray.size]
  refine ⟨W.heap.size, _, by rw [hsz], fun i hi => ?_⟩
  rw [Lib.bytesWorld_cell W e _ i (by rw [hsz]; exact hi)]
section
variable {P : Program} {ops : Array Oper} {rest : List Oper} {o : Oper} {a : Act} {Q : Exit → Act → World → Prop} {W : World}
/-- []byte(s). -/
theorem conv_b (hgd : o.guard = none) (src dst et : TypeId) (x : Operand) (ho : o.op = .convert src dst x) (s : ByteArray) (l : List UInt8) (hs : s = ⟨l.toArray⟩) (hx : a.eval x = .string s)
    (h1 : P.underlying src = some .string) (h2 : P.underlying dst = some (.slice et)) (h3 : P.underlying et = some (.int .u8))
    (h : ∀ v w1, W.grownBy w1 none → BVal w1 v l → wpList P ops Q rest (a.put o.dst v) w1) : wpList P ops Q (o :: rest) a W := by
  refine wpList_plain hgd fun K hK => ?_
  obtain ⟨g, b⟩ := BVal.of_conv W et l s hs
  have hr := Lib.run_convert_string_bytes (P := P) W src dst et s h1 h2 h3
  unfold Oper.wp execOp
  simp only [ho, Sem.run_bind, Sem.run_pure, Result.andThen_ok, hx, hr]
  exact hK _ _ (h _ _ g b)
end

set_option maxRecDepth 100000 in
set_option maxHeartbeats 2000000 in
theorem WriteJSON_2 (T : Nat → Int) (hT : ∀ i, U64 (T i)) (r n : Nat) (hr : r < 4) (hn : n ≤ 2000) (p : Option Addr) (cap : Nat) (f : Nat → Nat) (W : World) (hf : FVal W p n f) (ht : Tabs T W) :
    Calls Tryd.prog 10 #[.agg #[.int .i64 2, .int .i64 r, .slice p n cap, .slice none 0 0]] W fun e w' => ∃ v, e = .returned (.tuple #[v, .bool true]) ∧ BVal w' v (lineJ T r f n) ∧ W.grownBy w' none := by
  have HB := Lib.hid (World.grownBy_alloc W (.cells #[.int .i64 2, .int .i64 r, .slice p n cap, .slice none 0 0] 31) none)
  have HJB := Lib.hid (fun w (g : W.grownBy w none) => jsonBody_2 T hT r n hr hn p cap f w (hf.mono g) (ht.mono g (by simp) (by simp)))
  have hSL := seqTo_len T r f (n / widN r)
  have hLb : n / widN r ≤ 2000 := Nat.le_trans (Nat.div_le_self _ _) hn
  obtain ⟨M, hM⟩ : ∃ M, M = seqTo T r f (n / widN r) := ⟨_, rfl⟩
  have HJ : Hid (lineJ T r f n = jsonHead ++ [91] ++ M ++ [93] ++ [125]) := by rw [hM]; rfl
  rw [← hM] at hSL HJB
  obtain ⟨J, hJ⟩ : ∃ J : ByteArray, J = ⟨([91] ++ M ++ [93]).toArray⟩ := ⟨_, rfl⟩
  rw [← hJ] at HJB
  have hc1 := cat_run Tryd.prog [123, 34, 116, 121, 112, 101, 34, 58, 34] [76, 105, 110, 101, 83, 116, 114, 105, 110, 103] ⟨#[123, 34, 116, 121, 112, 101, 34, 58, 34]⟩ ⟨#[76, 105, 110, 101, 83, 116, 114, 105, 110, 103]⟩ ⟨#[123, 34, 116, 121, 112, 101, 34, 58, 34, 76, 105, 110, 101, 83, 116, 114, 105, 110, 103]⟩ rfl rfl rfl (by decide)
  obtain ⟨J1, hJ1⟩ : ∃ J1 : ByteArray, J1 = ⟨jsonHead.toArray⟩ := ⟨_, rfl⟩
  have hc2 := cat_run Tryd.prog [123, 34, 116, 121, 112, 101, 34, 58, 34, 76, 105, 110, 101, 83, 116, 114, 105, 110, 103] [34, 44, 34, 99, 111, 111, 114, 100, 105, 110, 97, 116, 101, 115, 34, 58] ⟨#[123, 34, 116, 121, 112, 101, 34, 58, 34, 76, 105, 110, 101, 83, 116, 114, 105, 110, 103]⟩ ⟨#[34, 44, 34, 99, 111, 111, 114, 100, 105, 110, 97, 116, 101, 115, 34, 58]⟩ J1 rfl rfl (by rw [hJ1]; rfl) (by decide)
  obtain ⟨J2, hJ2⟩ : ∃ J2 : ByteArray, J2 = ⟨(jsonHead ++ ([91] ++ M ++ [93])).toArray⟩ := ⟨_, rfl⟩
  have hc3 := cat_run Tryd.prog jsonHead ([91] ++ M ++ [93]) J1 J J2 hJ1 hJ hJ2 (by simp only [jsonHead, List.length_append, List.length_cons, List.length_nil]; omega)
  obtain ⟨J3, hJ3⟩ : ∃ J3 : ByteArray, J3 = ⟨(lineJ T r f n).toArray⟩ := ⟨_, rfl⟩
  have hc4 := cat_run Tryd.prog (jsonHead ++ ([91] ++ M ++ [93])) [125] J2 ⟨#[125]⟩ J3 hJ2 rfl (by rw [hJ3, HJ.out]; simp only [List.append_assoc]) (by simp only [jsonHead, List.length_append, List.length_cons, List.length_nil]; omega)
  have hcv := fun w => Lib.run_convert_string_bytes (P := Tryd.prog) w 9 34 5 J3 Tryd.underlying9 Tryd.underlying34 Tryd.underlying5
  have HBV := Lib.hid (fun w => BVal.of_conv w 5 (lineJ T r f n) J3 hJ3)
  clear hM hf ht hJ hJ1 hJ2 hJ3 HJ hSL
  go_enter Tryd.func10, Tryd.ntmps10
  go_wp2_with (fail)
  have x0 : (W.alloc (.cells #[.int .i64 2, .int .i64 r, .slice p n cap, .slice none 0 0] 31)).cell? ⟨W.heap.size, 0, none⟩ = some (.int .i64 2) := by simp
  have x1 : (W.alloc (.cells #[.int .i64 2, .int .i64 r, .slice p n cap, .slice none 0 0] 31)).cell? ⟨W.heap.size, 1, none⟩ = some (.int .i64 r) := by simp
  have x2 : (W.alloc (.cells #[.int .i64 2, .int .i64 r, .slice p n cap, .slice none 0 0] 31)).cell? ⟨W.heap.size, 2, none⟩ = some (.slice p n cap) := by simp
  have x3 : (W.alloc (.cells #[.int .i64 2, .int .i64 r, .slice p n cap, .slice none 0 0] 31)).cell? ⟨W.heap.size, 3, none⟩ = some (.slice none 0 0) := by simp
  revert HB x0 x1 x2 x3
  generalize W.alloc (.cells #[.int .i64 2, .int .i64 r, .slice p n cap, .slice none 0 0] 31) = W1
  intro HB x0 x1 x2 x3
  have HB2 := Lib.hid (gt_trans HB.out (gt_drew_r (gt_refl W1 none)) (.inl rfl))
  go_region_with (first
      | (go_at_call 21; refine (jsonName_2 _).mono ?_; rintro e w' ⟨rfl, rfl⟩)
      | (go_at_call 22; refine (HJB.out _ HB2.out).mono ?_; rintro e w' ⟨rfl, hg⟩))
  all_goals
   go_wp2_with fail
   go_returns
   obtain ⟨hg2, hv⟩ := HBV.out w'
   exact ⟨_, rfl, hv, gt_trans HB2.out (gt_trans hg hg2 (.inl rfl)) (.inl rfl)⟩
end Go.Proofs.YthcjnadceambgaaDoor
