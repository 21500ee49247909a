/- The reference's writer of well known binary: a number of n bytes, the least first. The reference's place in GeoJSON, whole; its rows of places. The reference's writer of well known binary: rows of numbers, lines. The package's text of a line string: its methods. The reference's places of a row of numbers. The reference's ForceCoordinatesType. -/
import Derived.Deep.RegionLaw
import Derived.StillTailTactics
import Derived.Test.YtlpaecafpbbbkaaGreatDoorBCT1
import Derived.Test.YtlpaecafpbbbkaaGreatDoorBCT3
set_option linter.unusedVariables false
set_option linter.unusedSimpArgs false
namespace Go.Proofs.YtlpaecafpbbbkaaGreatDoor
open Go.RowKit

theorem infoW8 : (Tryz.prog.info? 5).map (fun i => (i.zero, i.size, i.bytes)) = some (some (.int .u8 0), 1, 1) := by kernel_rfl
theorem byte_at (v k : Nat) (hv : v < 18446744073709551616) : IntKind.u8.wrap ((v : Int) / 2 ^ (8 * k)) = (((v / 256 ^ k % 256).toUInt8).toNat : Int) := by
  have e : (256 : Nat) ^ k = 2 ^ (8 * k) := by rw [Nat.pow_mul]
  have hP : ((2 : Int) ^ (8 * k)) = ((256 ^ k : Nat) : Int) := by rw [e, Int.natCast_pow]; rfl
  rw [hP, ← Int.natCast_ediv, toU8 _ (Nat.mod_lt _ (by decide)), IntKind.wrap_u8]
  omega
section
variable {e size base : Nat} {W : World} {v : Value} {n : Nat} {xs : List Value}
variable {P : Program} {ops : Array Oper} {o : Oper} {a : Act} {K : Act → World → Prop} {Q : Exit → Act → World → Prop} {E : Prop}
/-- append(v, x ..) inside a region whose draw stands behind the new elements' making. -/
theorem app_cells2_step_d (hgd : o.guard = none) (s x : Operand) (t : TypeId) (ho : o.op = .call { callee := .builtin .append, args := #[s, x], argTypes := #[t, t] })
    (ht : P.underlying t = some (.slice e)) (z : Value) (bytes : Nat) (hinfo : (P.info? e).map (fun i => (i.zero, i.size, i.bytes)) = some (some z, size, bytes)) (hzs : z.cells.size = size) (hsz : 0 < size)
    (hs : a.eval s = v) {k m c : Nat} (hx : a.eval x = .slice (some ⟨k, 0, none⟩) m c) (hk : k = W.heap.size) (cs : Array Value) (hown : (W.drew.alloc (.cells cs e)).ownsRow base e size v n xs) (hcl : cs.size = m * size) (h1 : ∀ u ∈ cs.toList, u.oneCell' = true)
    (hm : 0 < m) (hbase : base ≤ (W.drew.alloc (.cells cs e)).heap.size) (hl : (n + m) * bytes ≤ 140737488355328) (hl2 : n + m ≤ 140737488355328)
    (h : ∀ g cap w', w'.ownsRow base e size (.slice (some ⟨g, 0, none⟩) (n + m) cap) (n + m) (xs ++ cs.toList) → (W.drew.alloc (.cells cs e)).grownBy w' v.ownBlock → (v.ownBlock = some g ∨ g = (W.drew.alloc (.cells cs e)).heap.size) → K (a.put o.dst (.slice (some ⟨g, 0, none⟩) (n + m) cap)) w') :
    if Region.wanted o (yielded ops a.tmps) = true then Oper.wp P o a (W.alloc (.cells cs e)).drew K Q else E :=
  app_cells2_step (W := W.drew) hgd s x t ho ht z bytes hinfo hzs hsz hs hx hk cs hown hcl h1 hm hbase hl hl2 h
end
set_option maxRecDepth 100000 in
set_option maxHeartbeats 4000000 in
theorem wuint_any (V W : World) (rb v n : Nat) (x : Value) (l : List UInt8) (hv : v < 18446744073709551616) (hn : n ≤ 8) (hl : l.length ≤ 10000000) (h : WS V W rb x l) :
    Calls Tryz.prog 161 #[.pointer (some ⟨rb, 0, none⟩), .int .u64 v, .int .i64 n, .bool false] W fun e w' => e = .returned (.tuple #[]) ∧ ∃ x', WT V W w' rb x x' (l ++ Lib.leBytes n v) := by
  have H0 := Lib.hid h
  have hbig : V.heap.size ≤ W.heap.size := h.g.size
  clear h
  go_enter Tryz.func161, Tryz.ntmps161
  go_wp2_with fail
  go_loopw [10] (fun i wr => ∃ (k : Nat) (x1 : Value), k ≤ n ∧ i = .int .i64 k ∧ WT V W wr rb x x1 (l ++ Lib.leBytes k v)) (fun i _ => n - (intOf i).toNat)
  case atStart => exact ⟨0, x, by omega, rfl, by simpa [Lib.leBytes] using WT.start H0.out⟩
  case round =>
    obtain ⟨k, x1, hk, rfl, I⟩ := hrel
    rename World => wr
    have c0 := I.s.c0
    have f0 := I.s.fz 0
    have hlt := I.s.lt
    obtain ⟨L, hL⟩ : ∃ L, L = l ++ Lib.leBytes k v := ⟨_, rfl⟩
    rw [← hL] at I
    have hM : L.length = l.length + k := by rw [hL, List.length_append, leB_len]
    obtain ⟨p1, c1, rfl, _⟩ := own_form I.s.own
    have HI := Lib.hid I
    have hbw := I.s.g.size
    obtain ⟨M, hMM⟩ : ∃ M, M = L.length := ⟨_, rfl⟩
    rw [← hMM] at c0 hM
    by_cases hkn : k < n
    · obtain ⟨c, hc⟩ : ∃ c : UInt8, c = (v / 256 ^ k % 256).toUInt8 := ⟨_, rfl⟩
      have hby := byte_at v k hv
      rw [← hc] at hby
      obtain ⟨sh, hsh⟩ : ∃ sh, sh = 8 * k := ⟨_, rfl⟩
      have hwS : IntKind.i64.wrap (8 * (k : Int)) = (sh : Int) := by rw [IntKind.wrap_i64]; omega
      have hS0 : (0 : Int) ≤ (sh : Int) := by omega
      have hS64 : (sh : Int) ≤ 64 := by omega
      rw [← hsh] at hby
      have hsn : l ++ Lib.leBytes (k + 1) v = L ++ [c] := by rw [leBytes_snoc, hL, List.append_assoc, hc]
      have HSn := Lib.hid hsn
      have HOw : Hid (∀ w, wr.grownBy w none → w.ownsRow V.heap.size 5 1 (.slice p1 M c1) M (Bs L)) := fun w g => by
        have hh := (HI.out.s.kept g).own
        rw [← hMM] at hh
        exact hh
      have HX : Hid (∀ w6 w7, wr.grownBy w6 none → w6.grownBy w7 (Value.slice p1 M c1).ownBlock → w7.cell? ⟨rb, 0, none⟩ = some (.slice p1 M c1) ∧ w7.frozen? ⟨rb, 0, none⟩ = false ∧ rb < w7.heap.size) := fun w6 w7 g g' => by
        have hs := HI.out.s.kept g
        have hne : some rb ≠ (Value.slice p1 M c1).ownBlock := fun e => HI.out.s.ne (by rw [← hMM, ← e])
        have c0 := hs.c0
        rw [← hMM] at c0
        have := g'.size
        have := hs.lt
        exact ⟨g'.cell c0 hne, by rw [World.frozen?_of_block (g'.block rb (by omega) hne)]; exact hs.fz 0, by omega⟩
      have HAp : Hid (∀ w6 w7 gg cap, wr.grownBy w6 none → w7.ownsRow V.heap.size 5 1 (.slice (some ⟨gg, 0, none⟩) (M + 1) cap) (M + 1) (Bs L ++ [.int .u8 c.toNat]) → w6.grownBy w7 (Value.slice p1 M c1).ownBlock → ((Value.slice p1 M c1).ownBlock = some gg ∨ gg = w6.heap.size) → WT V W (w7.setCell ⟨rb, 0, none⟩ (.slice (some ⟨gg, 0, none⟩) (M + 1) cap)) rb x (.slice (some ⟨gg, 0, none⟩) (M + 1) cap) (L ++ [c])) := fun w6 w7 gg cap g1 hown hg hat => by
        have hh := HI.out.s.app g1 (m := 1) (gg := gg) (cap := cap) (cs := [c]) (w2 := w7) (by rw [← hMM]; exact hown) rfl (by rw [← hMM]; exact hg) (by rw [← hMM]; exact hat)
        rw [← hMM] at hh
        have h9 := HI.out
        rw [← hMM] at h9
        exact h9.trans hh
      have G6 := World.grownBy_alloc wr (.cells #[.int .u8 c.toNat] 5) none
      have hM9 : M ≤ 10000008 := by omega
      clear I hc hsn hMM hL hsh hM
      go_wp2_with fail
      go_region_law (first
        | (refine app_cells2_step_d (size := 1) (n := M) (xs := Bs L) (base := V.heap.size) rfl _ _ _ rfl Tryz.underlying39 (.int .u8 0) 1 infoW8 rfl (Nat.succ_pos 0) rfl rfl rfl _ (HOw.out _ (gt_alloc_r (gt_drew_r (gt_refl _ _)) _)) rfl (by simp [Value.oneCell']) (Nat.succ_pos 0) (by simp; omega) (by omega) (by omega) ?_; intro gg cap7 w7 hown7 hg7 hat7; go_loud (obtain ⟨u0, uf, uz⟩ := HX.out _ _ (gt_alloc_r (gt_drew_r (gt_refl _ _)) _) hg7; have HFin := Lib.hid (HAp.out _ _ _ _ (gt_alloc_r (gt_drew_r (gt_refl _ _)) _) hown7 hg7 hat7); clear hown7 hg7 hat7)))
      all_goals
        go_wp2_with fail
        exact ⟨⟨k + 1, _, by omega, by go_num, by rw [HSn.out]; exact HFin.out⟩, by simp [intOf]; omega⟩
    · obtain rfl : k = n := by omega
      rw [hL] at HI
      clear I
      go_wp2_with fail
      go_wp2_with fail
      first | (go_returns; exact ⟨rfl, _, HI.out⟩) | exact bodyPost_normal ⟨rfl, _, HI.out⟩ | (refine ⟨_, rfl, ?_⟩; exact ⟨rfl, _, HI.out⟩)
end Go.Proofs.YtlpaecafpbbbkaaGreatDoor
namespace Go.Proofs.YtlpaecafpbbbkaaGreatDoor
open Go.RowKit

set_option maxRecDepth 100000 in
set_option maxHeartbeats 400000 in
theorem Width_lit (x y : Int) (h : (x = 0 ∧ y = 2) ∨ (x = 1 ∧ y = 3) ∨ (x = 2 ∧ y = 3) ∨ (x = 3 ∧ y = 4)) (w : World) :
    Calls Tryz.prog 42 #[.int .i64 x] w fun e w' => e = .returned (.int .i64 y) ∧ w' = w := by
  rcases h with ⟨rfl, rfl⟩ | ⟨rfl, rfl⟩ | ⟨rfl, rfl⟩ | ⟨rfl, rfl⟩
  all_goals
    go_enter Tryz.func42, Tryz.ntmps42
    have b0 : bits .and .i64 0 1 = 0 := by kernel_rfl
    have b1 : bits .and .i64 1 1 = 1 := by kernel_rfl
    have b2 : bits .and .i64 2 1 = 0 := by kernel_rfl
    have b3 : bits .and .i64 3 1 = 1 := by kernel_rfl
    go_wp2_with fail
    go_ret
    exact ⟨by first | rfl | kernel_rfl, rfl⟩
theorem Width_any (r : Nat) (hr : r < 4) (w : World) : Calls Tryz.prog 42 #[.int .i64 r] w fun e w' => e = .returned (.int .i64 (widN r : Nat)) ∧ w' = w :=
  Width_lit r (widN r : Nat) (by unfold widN; omega) w

end Go.Proofs.YtlpaecafpbbbkaaGreatDoor
namespace Go.Proofs.YtlpaecafpbbbkaaGreatDoor
open Go.RowKit

theorem numsW_snoc (n : Nat) (f : Nat → Nat) : numsW (n + 1) f = numsW n f ++ Lib.leBytes 8 (f n) := by
  unfold numsW
  rw [List.range_succ, List.flatMap_append]
  simp
theorem wuint8 (V W : World) (rb v : Nat) (x : Value) (l : List UInt8) (hv : v < 18446744073709551616) (hl : l.length ≤ 10000000) (h : WS V W rb x l) :
    Calls Tryz.prog 161 #[.pointer (some ⟨rb, 0, none⟩), .int .u64 v, .int .i64 8, .bool false] W fun e w' => e = .returned (.tuple #[]) ∧ ∃ x', WT V W w' rb x x' (l ++ Lib.leBytes 8 v) := wuint_any V W rb v 8 x l hv (by decide) hl h
theorem wuint4 (V W : World) (rb v : Nat) (x : Value) (l : List UInt8) (hv : v < 18446744073709551616) (hl : l.length ≤ 10000000) (h : WS V W rb x l) :
    Calls Tryz.prog 161 #[.pointer (some ⟨rb, 0, none⟩), .int .u64 v, .int .i64 4, .bool false] W fun e w' => e = .returned (.tuple #[]) ∧ ∃ x', WT V W w' rb x x' (l ++ Lib.leBytes 4 v) := wuint_any V W rb v 4 x l hv (by decide) hl h

set_option maxRecDepth 100000 in
set_option maxHeartbeats 4000000 in
theorem wnums_any (V W : World) (rb : Nat) (x : Value) (l : List UInt8) (p : Option Addr) (n c : Nat) (f : Nat → Nat) (hl : l.length + 8 * n ≤ 10000000) (hf : FVal V p n f) (h : WS V W rb x l) :
    Calls Tryz.prog 163 #[.pointer (some ⟨rb, 0, none⟩), .slice p n c, .bool false] W fun e w' => e = .returned (.tuple #[]) ∧ ∃ x', WT V W w' rb x x' (l ++ numsW n f) := by
  have H0 := Lib.hid h
  have HF := Lib.hid hf
  have hfb : ∀ (w : World) (b : Nat), (callFunc 83 #[.float .f64 b]).run Tryz.prog w = .ok (.value (.int .u64 b)) w := fun w b => by kernel_rfl
  clear h hf
  go_enter Tryz.func163, Tryz.ntmps163
  go_wp2_with fail
  go_loopw [10] (fun i wr => ∃ (k : Nat) (x1 : Value), k ≤ n ∧ i = .int .i64 k ∧ WT V W wr rb x x1 (l ++ numsW k f)) (fun i _ => n - (intOf i).toNat)
  case atStart => exact ⟨0, x, by omega, rfl, by simpa [numsW] using WT.start H0.out⟩
  case round =>
    obtain ⟨k, x1, hk, rfl, I⟩ := hrel
    rename World => wr
    have HI := Lib.hid I
    by_cases hkn : k < n
    · obtain ⟨a, rfl⟩ := HF.out.some_ (by omega)
      have q1 := (HF.out.mono I.s.g).at_ a rfl k hkn
      have HU := Lib.hid (wuint8 V wr rb (f k) x1 (l ++ numsW k f) (HF.out.lt k) (by rw [List.length_append, numsW_len]; omega) I.s)
      have HSn := Lib.hid (numsW_snoc k f)
      clear I
      go_wp2_with (first
        | (go_at_call 161; refine HU.out.mono ?_; rintro e w2 ⟨rfl, x2, hx2⟩; have HX := Lib.hid hx2; clear hx2))
      exact ⟨⟨k + 1, x2, by omega, by go_num, by rw [HSn.out, ← List.append_assoc]; exact HI.out.trans HX.out⟩, by simp [intOf]; omega⟩
    · obtain rfl : k = n := by omega
      clear I
      go_wp2_with fail
      go_wp2_with fail
      go_returns
      exact ⟨rfl, _, HI.out⟩

set_option maxRecDepth 100000 in
set_option maxHeartbeats 4000000 in
theorem wline_any (V W : World) (rb : Nat) (x : Value) (l : List UInt8) (k : Int) (dm : Nat) (hd : dm < 4) (p q : Option Addr) (n c m c2 : Nat) (f : Nat → Nat) (kids : List Raw) (hl : l.length + 8 * n ≤ 1000000) (hf : FVal V p n f) (h : WS V W rb x l) :
    Calls Tryz.prog 164 #[.pointer (some ⟨rb, 0, none⟩), .agg #[.int .i64 k, .int .i64 dm, .slice p n c, .slice q m c2], .bool false] W fun e w' => e = .returned (.tuple #[]) ∧ ∃ x', WT V W w' rb x x' (l ++ bLine (.mk k dm n f kids)) := by
  have G1 := World.grownBy_alloc W (.cells #[.int .i64 k, .int .i64 dm, .slice p n c, .slice q m c2] 33) none
  have H1 := Lib.hid (h.kept G1)
  have H0 := Lib.hid h
  have hnew := h.new (Nat.le_refl _)
  have HB : Hid (∀ w x1 l1, WT V (W.alloc (.cells #[.int .i64 k, .int .i64 dm, .slice p n c, .slice q m c2] 33)) w rb x x1 l1 → w.cell? ⟨W.heap.size, 2, none⟩ = some (.slice p n c)) := fun w x1 l1 I => I.cell hnew.1 hnew.2 (by simp)
  have hw2 := widN_le dm hd
  have HWi := Lib.hid (fun w => Width_any dm hd w)
  obtain ⟨wd, hwd⟩ : ∃ wd, wd = widN dm := ⟨_, rfl⟩
  rw [← hwd] at HWi hw2
  obtain ⟨Q, hQ⟩ : ∃ Q, Q = n / wd := ⟨_, rfl⟩
  have hQn : Q ≤ n := by rw [hQ]; exact Nat.div_le_self _ _
  have hn6 : n ≤ 1000000 := by omega
  have hl6 : l.length ≤ 10000000 := by omega
  have hQ6 : Q ≤ 1000000 := Nat.le_trans hQn hn6
  have hQ64 : Q < 18446744073709551616 := Nat.lt_of_le_of_lt hQ6 (by decide)
  have hl7 : (l ++ Lib.leBytes 4 Q).length + 8 * n ≤ 10000000 := by rw [List.length_append, leB_len]; omega
  have hw0 : ¬ wd = 0 := by omega
  have hw0' : ¬ ((wd : Int) = 0) := by omega
  have hq1 : (n : Int) / (wd : Int) = (Q : Int) := by rw [hQ]; exact (Int.natCast_ediv n wd).symm
  have hq2 : IntKind.i64.wrap ((n : Int) / (wd : Int)) = (Q : Int) := by rw [hq1, IntKind.wrap_i64]; omega
  have hq3 : IntKind.u64.wrap (Q : Int) = (Q : Int) := by rw [IntKind.wrap_u64]; omega
  have hq5 : IntKind.i64.wrap (Q : Int) = (Q : Int) := by rw [IntKind.wrap_i64]; omega
  have hq4 : wrap64 (Q : Int) = (Q : Int) := by unfold wrap64; omega
  have HL : Hid (bLine (.mk k dm n f kids) = Lib.leBytes 4 Q ++ numsW n f) := by
    show Lib.leBytes 4 (n / widN ((dm : Int)).toNat) ++ numsW n f = _
    rw [Int.toNat_natCast, ← hwd, hQ]
  have HU := Lib.hid (fun w (hs : WS V w rb x l) => wuint4 V w rb Q x l hQ64 hl6 hs)
  have HN := Lib.hid (fun w x1 (hs : WS V w rb x1 (l ++ Lib.leBytes 4 Q)) => wnums_any V w rb x1 (l ++ Lib.leBytes 4 Q) p n c f hl7 hf hs)
  clear hf h hwd hQ hnew hQn hl7 hl
  go_enter Tryz.func164, Tryz.ntmps164
  go_wp2_with fail
  go_region_law (first
    | (rw [if_pos (by simp [Region.wanted])]; go_simp; go_at_call 42; go_loud (refine (HWi.out _).mono ?_; rintro e wx ⟨rfl, rfl⟩))
    | (rw [if_pos (by simp [Region.wanted])]; go_simp; go_at_call 161; go_loud (refine (HU.out _ (H1.out.kept (gt_drew_r (gt_refl _ _)))).mono ?_; rintro e w2 ⟨rfl, x2, hx2⟩; have HX := Lib.hid (WT.ahead H1.out (gt_drew_r (gt_refl _ _)) hx2); have b2 := HB.out _ _ _ HX.out; clear hx2)))
  all_goals
    go_wp2_with (first
      | (go_at_call 163; refine (HN.out _ _ HX.out.s).mono ?_; rintro e w3 ⟨rfl, x3, hx3⟩; have HX3 := Lib.hid hx3; clear hx3))
    go_returns
    exact ⟨rfl, _, by rw [HL.out, ← List.append_assoc]; exact WT.ahead H0.out G1 (HX.out.trans HX3.out)⟩
end Go.Proofs.YtlpaecafpbbbkaaGreatDoor
namespace Go.Proofs.YtlpaecafpbbbkaaGreatDoor
open Go.RowKit

set_option maxRecDepth 100000 in
set_option maxHeartbeats 1000000 in
theorem LineCT_any (r : Nat) (y : Value) (hy : ∃ p n c, y = .slice p n c) (W : World) :
    Calls Tryz.prog 129 #[.agg #[.int .u8 r, y]] W fun e w' => e = .returned (.int .u8 r) ∧ W.grownBy w' none := by
  obtain ⟨p, n, c, rfl⟩ := hy
  go_enter Tryz.func129, Tryz.ntmps129
  go_wp2_with go_in
  go_ret
  exact ⟨rfl, gt_alloc_r (World.grownBy_alloc _ _ _) _⟩

end Go.Proofs.YtlpaecafpbbbkaaGreatDoor
namespace Go.Proofs.YtlpaecafpbbbkaaGreatDoor
open Go.RowKit

def pCells (r : Nat) (f : Nat → Nat) : Nat → List Value
  | 0 => []
  | k + 1 => pCells r f k ++ [.float .f64 (plX r f k), .float .f64 (plY r f k), .float .f64 (plZ r f k), .float .f64 (plM r f k)]
theorem pCells_len (r : Nat) (f : Nat → Nat) : ∀ k, (pCells r f k).length = k * 4
  | 0 => rfl
  | k + 1 => by simp only [pCells, List.length_append, List.length_cons, List.length_nil, pCells_len r f k]; omega
theorem pCells_at (r : Nat) (f : Nat → Nat) : ∀ n k, k < n → ∀ j, j < 4 → (pCells r f n)[k * 4 + j]? = [Value.float .f64 (plX r f k), .float .f64 (plY r f k), .float .f64 (plZ r f k), .float .f64 (plM r f k)][j]?
  | 0, k, h, _, _ => by omega
  | n + 1, k, h, j, hj => by
    have hl := pCells_len r f n
    by_cases hk : k = n
    · subst hk
      rw [pCells, List.getElem?_append_right (by omega)]
      congr 1
      omega
    · rw [pCells, List.getElem?_append_left (by omega)]
      exact pCells_at r f n k (by omega) j hj
section
variable {e size base : Nat} {w0 W : World} {v0 v : Value} {n : Nat} {xs : List Value}
variable {P : Program} {ops : Array Oper} {rest : List Oper} {o : Oper} {a : Act} {Q : Exit → Act → World → Prop}
/-- The same behind a draw. -/
theorem app_cells_d (hgd : o.guard = none) (s x : Operand) (t : TypeId) (ho : o.op = .call { callee := .builtin .append, args := #[s, x], argTypes := #[t, t] })
    (ht : P.underlying t = some (.slice e)) (z : Value) (bytes : Nat) (hinfo : (P.info? e).map (fun i => (i.zero, i.size, i.bytes)) = some (some z, size, bytes)) (hzs : z.cells.size = size) (hsz : 0 < size)
    (H : AppV e size base w0 v0 W v n xs) (hs : a.eval s = v) {k m c : Nat} (hx : a.eval x = .slice (some ⟨k, 0, none⟩) m c) (hk : k = W.heap.size) (cs : Array Value) (hcl : cs.size = m * size) (h1 : ∀ u ∈ cs.toList, u.oneCell' = true)
    (hbase : base ≤ w0.heap.size) (hl : (n + m) * bytes ≤ 140737488355328) (hl2 : n + m ≤ 140737488355328)
    (h : ∀ v1 w1, AppV e size base w0 v0 w1 v1 (n + m) (xs ++ cs.toList) → wpList P ops Q rest (a.put o.dst v1) w1) :
    wpList P ops Q (o :: rest) a (W.alloc (.cells cs e)).drew :=
  app_cells (W := W.drew) hgd s x t ho ht z bytes hinfo hzs hsz (H.beside (gt_drew_r (gt_refl _ _))) hs hx hk cs hcl h1 hbase hl hl2 h
end
theorem infoP : (Tryz.prog.info? 209).map (fun i => (i.zero, i.size, i.bytes)) = some (some (.agg #[.float .f64 0, .float .f64 0, .float .f64 0, .float .f64 0]), 4, 32) := by kernel_rfl

set_option maxRecDepth 100000 in
set_option maxHeartbeats 2000000 in
theorem Places_0 (p : Option Addr) (n cap : Nat) (f : Nat → Nat) (hn : n ≤ 100000) (W : World) (hf : FVal W p n f) :
    Calls Tryz.prog 91 #[.slice p n cap, .int .i64 0] W fun e w' => ∃ v, e = .returned v ∧ AppV 209 4 W.heap.size W (.slice none 0 0) w' v (n / 2) (pCells 0 f (n / 2)) := by
  have hsf := run_store_flt Tryz.prog
  have HF := Lib.hid hf
  have HN : Hid (∀ k, pCells 0 f (k + 1) = pCells 0 f k ++ [.float .f64 (f (k * 2)), .float .f64 (f (k * 2 + 1)), .float .f64 0, .float .f64 0]) := fun k => rfl
  have HWd := Lib.hid (fun w => Width_lit 0 2 (by omega) w)
  have bt1 : bits .and .i64 0 1 = 0 := by kernel_rfl
  have bt2 : bits .and .i64 0 2 = 0 := by kernel_rfl
  clear hf
  go_enter Tryz.func91, Tryz.ntmps91
  go_wp2_with (first | (go_at_call 42; refine (HWd.out _).mono ?_; rintro e w' ⟨rfl, hw⟩; obtain rfl := hw.symm))
  go_loopw [5, 7] (fun x i wr => ∃ k : Nat, k ≤ n / 2 ∧ i = .int .i64 ((k * 2 : Nat) : Int) ∧ AppV 209 4 W.heap.size W (.slice none 0 0) wr x k (pCells 0 f k)) (fun _ i _ => n - (intOf i).toNat)
  case atStart => exact ⟨0, by omega, rfl, AppV.nil _ _ _ _⟩
  case round =>
    obtain ⟨k, hk, rfl, H0⟩ := hrel
    rename World => wr
    have HN1 := Lib.hid (HN.out k)
    obtain ⟨j0, e0⟩ : ∃ j0, j0 = k * 2 := ⟨_, rfl⟩
    rw [← e0] at HN1 ⊢
    obtain ⟨jw, ew⟩ : ∃ jw : Nat, jw = j0 + 2 := ⟨_, rfl⟩
    have hww : IntKind.i64.wrap ((j0 : Int) + 2) = (jw : Int) := by rw [IntKind.wrap_i64]; omega
    by_cases hkn : k < n / 2
    · have hjn : (jw : Int) ≤ (n : Int) := by omega
      obtain ⟨a, rfl⟩ := HF.out.some_ (by omega)
      obtain ⟨j1, e1⟩ : ∃ j1, j1 = j0 + 1 := ⟨_, rfl⟩
      rw [← e1] at HN1
      have q0 := (HF.out.mono H0.grown0).at_ a rfl j0 (by omega)
      have q1 := (HF.out.mono H0.grown0).at_ a rfl j1 (by omega)
      have hw1 : IntKind.i64.wrap ((j0 : Int) + 1) = (j1 : Int) := by rw [IntKind.wrap_i64]; omega
      have b00 : (0 : Int) ≤ (j0 : Int) := by omega
      have b01 : (j0 : Int) < (n : Int) := by omega
      have b10 : (0 : Int) ≤ (j1 : Int) := by omega
      have b11 : (j1 : Int) < (n : Int) := by omega
      have HK : Hid (jw = (k + 1) * 2 ∧ k + 1 ≤ n / 2 ∧ j0 < jw ∧ jw ≤ n) := ⟨by omega, by omega, by omega, by omega⟩
      clear e0 e1 ew
      have HB : Hid (∀ W', wr.grownBy W' none → AppV 209 4 W.heap.size W (.slice none 0 0) W' u5 k (pCells 0 f k)) := fun W' g => H0.beside g
      have HS : Hid (∀ w', wr.grownBy w' none → w'.cell? (a.add j0) = some (.float .f64 (f j0)) ∧ w'.cell? (a.add j1) = some (.float .f64 (f j1))) := fun w' g => ⟨g.cell q0 (by simp), g.cell q1 (by simp)⟩
      clear H0
      go_wp2_with fail
      go_region_held3 (fun w' => w'.cell? (a.add j0) = some (.float .f64 (f j0)) ∧ w'.cell? (a.add j1) = some (.float .f64 (f j1))) (first | exact HS.out _ (gt_below (by go_grown) none))
        (first | (fail))
      rename_i hHeld
      obtain ⟨p0, p1⟩ := hHeld
      clear q0 q1
      go_wp2_with (first
        | (at_builtin; refine app_cells_d rfl _ _ _ rfl Tryz.underlying156 (.agg #[.float .f64 0, .float .f64 0, .float .f64 0, .float .f64 0]) 32 infoP rfl (by omega) (HB.out _ (gt_below (by go_grown) none)) rfl rfl (by first | rfl | simp) _ (by first | rfl | simp) (by simp [Value.oneCell']) (Nat.le_refl _) (by omega) (by omega) ?_; intro v1 w1 H1))
      have H2 : AppV 209 4 W.heap.size W (.slice none 0 0) w1 v1 (k + 1) (pCells 0 f (k + 1)) := by rw [HN1.out]; exact H1
      obtain ⟨k1, k2, k3, k4⟩ := HK.out
      refine ⟨⟨k + 1, k2, by rw [← k1], H2⟩, by simp [intOf]; omega⟩
    · have hjn : ¬ (jw : Int) ≤ (n : Int) := by omega
      obtain rfl : k = n / 2 := by omega
      go_wp2_with fail
      go_wp2_with fail
      go_ret
      exact ⟨_, rfl, H0⟩

set_option maxRecDepth 100000 in
set_option maxHeartbeats 2000000 in
theorem Places_1 (p : Option Addr) (n cap : Nat) (f : Nat → Nat) (hn : n ≤ 100000) (W : World) (hf : FVal W p n f) :
    Calls Tryz.prog 91 #[.slice p n cap, .int .i64 1] W fun e w' => ∃ v, e = .returned v ∧ AppV 209 4 W.heap.size W (.slice none 0 0) w' v (n / 3) (pCells 1 f (n / 3)) := by
  have hsf := run_store_flt Tryz.prog
  have HF := Lib.hid hf
  have HN : Hid (∀ k, pCells 1 f (k + 1) = pCells 1 f k ++ [.float .f64 (f (k * 3)), .float .f64 (f (k * 3 + 1)), .float .f64 (f (k * 3 + 2)), .float .f64 0]) := fun k => rfl
  have HWd := Lib.hid (fun w => Width_lit 1 3 (by omega) w)
  have bt1 : bits .and .i64 1 1 = 1 := by kernel_rfl
  have bt2 : bits .and .i64 1 2 = 0 := by kernel_rfl
  clear hf
  go_enter Tryz.func91, Tryz.ntmps91
  go_wp2_with (first | (go_at_call 42; refine (HWd.out _).mono ?_; rintro e w' ⟨rfl, hw⟩; obtain rfl := hw.symm))
  go_loopw [5, 7] (fun x i wr => ∃ k : Nat, k ≤ n / 3 ∧ i = .int .i64 ((k * 3 : Nat) : Int) ∧ AppV 209 4 W.heap.size W (.slice none 0 0) wr x k (pCells 1 f k)) (fun _ i _ => n - (intOf i).toNat)
  case atStart => exact ⟨0, by omega, rfl, AppV.nil _ _ _ _⟩
  case round =>
    obtain ⟨k, hk, rfl, H0⟩ := hrel
    rename World => wr
    have HN1 := Lib.hid (HN.out k)
    obtain ⟨j0, e0⟩ : ∃ j0, j0 = k * 3 := ⟨_, rfl⟩
    rw [← e0] at HN1 ⊢
    obtain ⟨jw, ew⟩ : ∃ jw : Nat, jw = j0 + 3 := ⟨_, rfl⟩
    have hww : IntKind.i64.wrap ((j0 : Int) + 3) = (jw : Int) := by rw [IntKind.wrap_i64]; omega
    by_cases hkn : k < n / 3
    · have hjn : (jw : Int) ≤ (n : Int) := by omega
      obtain ⟨a, rfl⟩ := HF.out.some_ (by omega)
      obtain ⟨j1, e1⟩ : ∃ j1, j1 = j0 + 1 := ⟨_, rfl⟩
      obtain ⟨j2, e2⟩ : ∃ j2, j2 = j0 + 2 := ⟨_, rfl⟩
      rw [← e1, ← e2] at HN1
      have q0 := (HF.out.mono H0.grown0).at_ a rfl j0 (by omega)
      have q1 := (HF.out.mono H0.grown0).at_ a rfl j1 (by omega)
      have q2 := (HF.out.mono H0.grown0).at_ a rfl j2 (by omega)
      have hw1 : IntKind.i64.wrap ((j0 : Int) + 1) = (j1 : Int) := by rw [IntKind.wrap_i64]; omega
      have hw2 : IntKind.i64.wrap ((j0 : Int) + 2) = (j2 : Int) := by rw [IntKind.wrap_i64]; omega
      have b00 : (0 : Int) ≤ (j0 : Int) := by omega
      have b01 : (j0 : Int) < (n : Int) := by omega
      have b10 : (0 : Int) ≤ (j1 : Int) := by omega
      have b11 : (j1 : Int) < (n : Int) := by omega
      have b20 : (0 : Int) ≤ (j2 : Int) := by omega
      have b21 : (j2 : Int) < (n : Int) := by omega
      have HK : Hid (jw = (k + 1) * 3 ∧ k + 1 ≤ n / 3 ∧ j0 < jw ∧ jw ≤ n) := ⟨by omega, by omega, by omega, by omega⟩
      clear e0 e1 e2 ew
      have HB : Hid (∀ W', wr.grownBy W' none → AppV 209 4 W.heap.size W (.slice none 0 0) W' u5 k (pCells 1 f k)) := fun W' g => H0.beside g
      have HS : Hid (∀ w', wr.grownBy w' none → w'.cell? (a.add j0) = some (.float .f64 (f j0)) ∧ w'.cell? (a.add j1) = some (.float .f64 (f j1)) ∧ w'.cell? (a.add j2) = some (.float .f64 (f j2))) := fun w' g => ⟨g.cell q0 (by simp), g.cell q1 (by simp), g.cell q2 (by simp)⟩
      clear H0
      go_wp2_with fail
      go_region_held3 (fun w' => w'.cell? (a.add j0) = some (.float .f64 (f j0)) ∧ w'.cell? (a.add j1) = some (.float .f64 (f j1)) ∧ w'.cell? (a.add j2) = some (.float .f64 (f j2))) (first | exact HS.out _ (gt_below (by go_grown) none))
        (first | (fail))
      rename_i hHeld
      obtain ⟨p0, p1, p2⟩ := hHeld
      clear q0 q1 q2
      have pa2 : ∀ O : Obj, ((wr.alloc O).drew).cell? (a.add j2) = some (.float .f64 (f j2)) := fun O => (HS.out _ (gt_below (by go_grown) none)).2.2
      go_wp2_with (first
        | (at_builtin; refine app_cells_d rfl _ _ _ rfl Tryz.underlying156 (.agg #[.float .f64 0, .float .f64 0, .float .f64 0, .float .f64 0]) 32 infoP rfl (by omega) (HB.out _ (gt_below (by go_grown) none)) rfl rfl (by first | rfl | simp) _ (by first | rfl | simp) (by simp [Value.oneCell']) (Nat.le_refl _) (by omega) (by omega) ?_; intro v1 w1 H1))
      have H2 : AppV 209 4 W.heap.size W (.slice none 0 0) w1 v1 (k + 1) (pCells 1 f (k + 1)) := by rw [HN1.out]; exact H1
      obtain ⟨k1, k2, k3, k4⟩ := HK.out
      refine ⟨⟨k + 1, k2, by rw [← k1], H2⟩, by simp [intOf]; omega⟩
    · have hjn : ¬ (jw : Int) ≤ (n : Int) := by omega
      obtain rfl : k = n / 3 := by omega
      go_wp2_with fail
      go_wp2_with fail
      go_ret
      exact ⟨_, rfl, H0⟩

set_option maxRecDepth 100000 in
set_option maxHeartbeats 2000000 in
theorem Places_2 (p : Option Addr) (n cap : Nat) (f : Nat → Nat) (hn : n ≤ 100000) (W : World) (hf : FVal W p n f) :
    Calls Tryz.prog 91 #[.slice p n cap, .int .i64 2] W fun e w' => ∃ v, e = .returned v ∧ AppV 209 4 W.heap.size W (.slice none 0 0) w' v (n / 3) (pCells 2 f (n / 3)) := by
  have hsf := run_store_flt Tryz.prog
  have HF := Lib.hid hf
  have HN : Hid (∀ k, pCells 2 f (k + 1) = pCells 2 f k ++ [.float .f64 (f (k * 3)), .float .f64 (f (k * 3 + 1)), .float .f64 0, .float .f64 (f (k * 3 + 2))]) := fun k => rfl
  have HWd := Lib.hid (fun w => Width_lit 2 3 (by omega) w)
  have bt1 : bits .and .i64 2 1 = 0 := by kernel_rfl
  have bt2 : bits .and .i64 2 2 = 2 := by kernel_rfl
  clear hf
  go_enter Tryz.func91, Tryz.ntmps91
  go_wp2_with (first | (go_at_call 42; refine (HWd.out _).mono ?_; rintro e w' ⟨rfl, hw⟩; obtain rfl := hw.symm))
  go_loopw [5, 7] (fun x i wr => ∃ k : Nat, k ≤ n / 3 ∧ i = .int .i64 ((k * 3 : Nat) : Int) ∧ AppV 209 4 W.heap.size W (.slice none 0 0) wr x k (pCells 2 f k)) (fun _ i _ => n - (intOf i).toNat)
  case atStart => exact ⟨0, by omega, rfl, AppV.nil _ _ _ _⟩
  case round =>
    obtain ⟨k, hk, rfl, H0⟩ := hrel
    rename World => wr
    have HN1 := Lib.hid (HN.out k)
    obtain ⟨j0, e0⟩ : ∃ j0, j0 = k * 3 := ⟨_, rfl⟩
    rw [← e0] at HN1 ⊢
    obtain ⟨jw, ew⟩ : ∃ jw : Nat, jw = j0 + 3 := ⟨_, rfl⟩
    have hww : IntKind.i64.wrap ((j0 : Int) + 3) = (jw : Int) := by rw [IntKind.wrap_i64]; omega
    by_cases hkn : k < n / 3
    · have hjn : (jw : Int) ≤ (n : Int) := by omega
      obtain ⟨a, rfl⟩ := HF.out.some_ (by omega)
      obtain ⟨j1, e1⟩ : ∃ j1, j1 = j0 + 1 := ⟨_, rfl⟩
      obtain ⟨j2, e2⟩ : ∃ j2, j2 = j0 + 2 := ⟨_, rfl⟩
      rw [← e1, ← e2] at HN1
      have q0 := (HF.out.mono H0.grown0).at_ a rfl j0 (by omega)
      have q1 := (HF.out.mono H0.grown0).at_ a rfl j1 (by omega)
      have q2 := (HF.out.mono H0.grown0).at_ a rfl j2 (by omega)
      have hw1 : IntKind.i64.wrap ((j0 : Int) + 1) = (j1 : Int) := by rw [IntKind.wrap_i64]; omega
      have hw2 : IntKind.i64.wrap ((j0 : Int) + 2) = (j2 : Int) := by rw [IntKind.wrap_i64]; omega
      have hwm : IntKind.i64.wrap ((jw : Int) - 1) = (j2 : Int) := by rw [IntKind.wrap_i64]; omega
      have b00 : (0 : Int) ≤ (j0 : Int) := by omega
      have b01 : (j0 : Int) < (n : Int) := by omega
      have b10 : (0 : Int) ≤ (j1 : Int) := by omega
      have b11 : (j1 : Int) < (n : Int) := by omega
      have b20 : (0 : Int) ≤ (j2 : Int) := by omega
      have b21 : (j2 : Int) < (n : Int) := by omega
      have HK : Hid (jw = (k + 1) * 3 ∧ k + 1 ≤ n / 3 ∧ j0 < jw ∧ jw ≤ n) := ⟨by omega, by omega, by omega, by omega⟩
      clear e0 e1 e2 ew
      have HB : Hid (∀ W', wr.grownBy W' none → AppV 209 4 W.heap.size W (.slice none 0 0) W' u5 k (pCells 2 f k)) := fun W' g => H0.beside g
      have HS : Hid (∀ w', wr.grownBy w' none → w'.cell? (a.add j0) = some (.float .f64 (f j0)) ∧ w'.cell? (a.add j1) = some (.float .f64 (f j1)) ∧ w'.cell? (a.add j2) = some (.float .f64 (f j2))) := fun w' g => ⟨g.cell q0 (by simp), g.cell q1 (by simp), g.cell q2 (by simp)⟩
      clear H0
      go_wp2_with fail
      go_region_held3 (fun w' => w'.cell? (a.add j0) = some (.float .f64 (f j0)) ∧ w'.cell? (a.add j1) = some (.float .f64 (f j1)) ∧ w'.cell? (a.add j2) = some (.float .f64 (f j2))) (first | exact HS.out _ (gt_below (by go_grown) none))
        (first | (fail))
      rename_i hHeld
      obtain ⟨p0, p1, p2⟩ := hHeld
      clear q0 q1 q2
      have pa2 : ∀ O : Obj, ((wr.alloc O).drew).cell? (a.add j2) = some (.float .f64 (f j2)) := fun O => (HS.out _ (gt_below (by go_grown) none)).2.2
      go_wp2_with (first
        | (at_builtin; refine app_cells_d rfl _ _ _ rfl Tryz.underlying156 (.agg #[.float .f64 0, .float .f64 0, .float .f64 0, .float .f64 0]) 32 infoP rfl (by omega) (HB.out _ (gt_below (by go_grown) none)) rfl rfl (by first | rfl | simp) _ (by first | rfl | simp) (by simp [Value.oneCell']) (Nat.le_refl _) (by omega) (by omega) ?_; intro v1 w1 H1))
      have H2 : AppV 209 4 W.heap.size W (.slice none 0 0) w1 v1 (k + 1) (pCells 2 f (k + 1)) := by rw [HN1.out]; exact H1
      obtain ⟨k1, k2, k3, k4⟩ := HK.out
      refine ⟨⟨k + 1, k2, by rw [← k1], H2⟩, by simp [intOf]; omega⟩
    · have hjn : ¬ (jw : Int) ≤ (n : Int) := by omega
      obtain rfl : k = n / 3 := by omega
      go_wp2_with fail
      go_wp2_with fail
      go_ret
      exact ⟨_, rfl, H0⟩

set_option maxRecDepth 100000 in
set_option maxHeartbeats 2000000 in
theorem Places_3 (p : Option Addr) (n cap : Nat) (f : Nat → Nat) (hn : n ≤ 100000) (W : World) (hf : FVal W p n f) :
    Calls Tryz.prog 91 #[.slice p n cap, .int .i64 3] W fun e w' => ∃ v, e = .returned v ∧ AppV 209 4 W.heap.size W (.slice none 0 0) w' v (n / 4) (pCells 3 f (n / 4)) := by
  have hsf := run_store_flt Tryz.prog
  have HF := Lib.hid hf
  have HN : Hid (∀ k, pCells 3 f (k + 1) = pCells 3 f k ++ [.float .f64 (f (k * 4)), .float .f64 (f (k * 4 + 1)), .float .f64 (f (k * 4 + 2)), .float .f64 (f (k * 4 + 3))]) := fun k => rfl
  have HWd := Lib.hid (fun w => Width_lit 3 4 (by omega) w)
  have bt1 : bits .and .i64 3 1 = 1 := by kernel_rfl
  have bt2 : bits .and .i64 3 2 = 2 := by kernel_rfl
  clear hf
  go_enter Tryz.func91, Tryz.ntmps91
  go_wp2_with (first | (go_at_call 42; refine (HWd.out _).mono ?_; rintro e w' ⟨rfl, hw⟩; obtain rfl := hw.symm))
  go_loopw [5, 7] (fun x i wr => ∃ k : Nat, k ≤ n / 4 ∧ i = .int .i64 ((k * 4 : Nat) : Int) ∧ AppV 209 4 W.heap.size W (.slice none 0 0) wr x k (pCells 3 f k)) (fun _ i _ => n - (intOf i).toNat)
  case atStart => exact ⟨0, by omega, rfl, AppV.nil _ _ _ _⟩
  case round =>
    obtain ⟨k, hk, rfl, H0⟩ := hrel
    rename World => wr
    have HN1 := Lib.hid (HN.out k)
    obtain ⟨j0, e0⟩ : ∃ j0, j0 = k * 4 := ⟨_, rfl⟩
    rw [← e0] at HN1 ⊢
    obtain ⟨jw, ew⟩ : ∃ jw : Nat, jw = j0 + 4 := ⟨_, rfl⟩
    have hww : IntKind.i64.wrap ((j0 : Int) + 4) = (jw : Int) := by rw [IntKind.wrap_i64]; omega
    by_cases hkn : k < n / 4
    · have hjn : (jw : Int) ≤ (n : Int) := by omega
      obtain ⟨a, rfl⟩ := HF.out.some_ (by omega)
      obtain ⟨j1, e1⟩ : ∃ j1, j1 = j0 + 1 := ⟨_, rfl⟩
      obtain ⟨j2, e2⟩ : ∃ j2, j2 = j0 + 2 := ⟨_, rfl⟩
      obtain ⟨j3, e3⟩ : ∃ j3, j3 = j0 + 3 := ⟨_, rfl⟩
      rw [← e1, ← e2, ← e3] at HN1
      have q0 := (HF.out.mono H0.grown0).at_ a rfl j0 (by omega)
      have q1 := (HF.out.mono H0.grown0).at_ a rfl j1 (by omega)
      have q2 := (HF.out.mono H0.grown0).at_ a rfl j2 (by omega)
      have q3 := (HF.out.mono H0.grown0).at_ a rfl j3 (by omega)
      have hw1 : IntKind.i64.wrap ((j0 : Int) + 1) = (j1 : Int) := by rw [IntKind.wrap_i64]; omega
      have hw2 : IntKind.i64.wrap ((j0 : Int) + 2) = (j2 : Int) := by rw [IntKind.wrap_i64]; omega
      have hw3 : IntKind.i64.wrap ((j0 : Int) + 3) = (j3 : Int) := by rw [IntKind.wrap_i64]; omega
      have hwm : IntKind.i64.wrap ((jw : Int) - 1) = (j3 : Int) := by rw [IntKind.wrap_i64]; omega
      have b00 : (0 : Int) ≤ (j0 : Int) := by omega
      have b01 : (j0 : Int) < (n : Int) := by omega
      have b10 : (0 : Int) ≤ (j1 : Int) := by omega
      have b11 : (j1 : Int) < (n : Int) := by omega
      have b20 : (0 : Int) ≤ (j2 : Int) := by omega
      have b21 : (j2 : Int) < (n : Int) := by omega
      have b30 : (0 : Int) ≤ (j3 : Int) := by omega
      have b31 : (j3 : Int) < (n : Int) := by omega
      have HK : Hid (jw = (k + 1) * 4 ∧ k + 1 ≤ n / 4 ∧ j0 < jw ∧ jw ≤ n) := ⟨by omega, by omega, by omega, by omega⟩
      clear e0 e1 e2 e3 ew
      have HB : Hid (∀ W', wr.grownBy W' none → AppV 209 4 W.heap.size W (.slice none 0 0) W' u5 k (pCells 3 f k)) := fun W' g => H0.beside g
      have HS : Hid (∀ w', wr.grownBy w' none → w'.cell? (a.add j0) = some (.float .f64 (f j0)) ∧ w'.cell? (a.add j1) = some (.float .f64 (f j1)) ∧ w'.cell? (a.add j2) = some (.float .f64 (f j2)) ∧ w'.cell? (a.add j3) = some (.float .f64 (f j3))) := fun w' g => ⟨g.cell q0 (by simp), g.cell q1 (by simp), g.cell q2 (by simp), g.cell q3 (by simp)⟩
      clear H0
      go_wp2_with fail
      go_region_held3 (fun w' => w'.cell? (a.add j0) = some (.float .f64 (f j0)) ∧ w'.cell? (a.add j1) = some (.float .f64 (f j1)) ∧ w'.cell? (a.add j2) = some (.float .f64 (f j2)) ∧ w'.cell? (a.add j3) = some (.float .f64 (f j3))) (first | exact HS.out _ (gt_below (by go_grown) none))
        (first | (fail))
      rename_i hHeld
      obtain ⟨p0, p1, p2, p3⟩ := hHeld
      clear q0 q1 q2 q3
      have pa2 : ∀ O : Obj, ((wr.alloc O).drew).cell? (a.add j2) = some (.float .f64 (f j2)) := fun O => (HS.out _ (gt_below (by go_grown) none)).2.2.1
      have pa3 : ∀ O : Obj, ((wr.alloc O).drew).cell? (a.add j3) = some (.float .f64 (f j3)) := fun O => (HS.out _ (gt_below (by go_grown) none)).2.2.2
      go_wp2_with (first
        | (at_builtin; refine app_cells_d rfl _ _ _ rfl Tryz.underlying156 (.agg #[.float .f64 0, .float .f64 0, .float .f64 0, .float .f64 0]) 32 infoP rfl (by omega) (HB.out _ (gt_below (by go_grown) none)) rfl rfl (by first | rfl | simp) _ (by first | rfl | simp) (by simp [Value.oneCell']) (Nat.le_refl _) (by omega) (by omega) ?_; intro v1 w1 H1))
      have H2 : AppV 209 4 W.heap.size W (.slice none 0 0) w1 v1 (k + 1) (pCells 3 f (k + 1)) := by rw [HN1.out]; exact H1
      obtain ⟨k1, k2, k3, k4⟩ := HK.out
      refine ⟨⟨k + 1, k2, by rw [← k1], H2⟩, by simp [intOf]; omega⟩
    · have hjn : ¬ (jw : Int) ≤ (n : Int) := by omega
      obtain rfl : k = n / 4 := by omega
      go_wp2_with fail
      go_wp2_with fail
      go_ret
      exact ⟨_, rfl, H0⟩

end Go.Proofs.YtlpaecafpbbbkaaGreatDoor
namespace Go.Proofs.YtlpaecafpbbbkaaGreatDoor
open Go.RowKit

theorem Nums_any (r : Nat) (hr : r < 4) (p : Option Addr) (n cap : Nat) (X Y Z M : Nat → Nat) (hn : n ≤ 100000) (W : World) (hp : PRow W p n X Y Z M) :
    Calls Tryz.prog 90 #[.slice p n cap, .int .i64 r] W fun e w' => ∃ v, e = .returned v ∧ AppV 26 1 W.heap.size W (.slice none 0 0) w' v (n * widN r) (nTo r X Y Z M n) := by
  rcases (by omega : r = 0 ∨ r = 1 ∨ r = 2 ∨ r = 3) with rfl | rfl | rfl | rfl
  · exact Nums_0 p n cap X Y Z M hn W hp
  · exact Nums_1 p n cap X Y Z M hn W hp
  · exact Nums_2 p n cap X Y Z M hn W hp
  · exact Nums_3 p n cap X Y Z M hn W hp
theorem Places_any' (r : Nat) (hr : r < 4) (p : Option Addr) (n cap : Nat) (f : Nat → Nat) (hn : n ≤ 100000) (W : World) (hf : FVal W p n f) :
    Calls Tryz.prog 91 #[.slice p n cap, .int .i64 r] W fun e w' => ∃ v, e = .returned v ∧ AppV 209 4 W.heap.size W (.slice none 0 0) w' v (n / widN r) (pCells r f (n / widN r)) := by
  rcases (by omega : r = 0 ∨ r = 1 ∨ r = 2 ∨ r = 3) with rfl | rfl | rfl | rfl
  · exact Places_0 p n cap f hn W hf
  · exact Places_1 p n cap f hn W hf
  · exact Places_2 p n cap f hn W hf
  · exact Places_3 p n cap f hn W hf

theorem nTo_len (r : Nat) (hr : r < 4) (X Y Z M : Nat → Nat) : ∀ k, (nTo r X Y Z M k).length = k * widN r
  | 0 => by simp [nTo]
  | k + 1 => by
    have h := nTo_len r hr X Y Z M k
    rcases (by omega : r = 0 ∨ r = 1 ∨ r = 2 ∨ r = 3) with rfl | rfl | rfl | rfl <;> simp [nTo, widN] at h ⊢ <;> omega
theorem nTo_at (r r' : Nat) (hr : r' < 4) (f : Nat → Nat) : ∀ n i, i < n * widN r' → (nTo r' (plX r f) (plY r f) (plZ r f) (plM r f) n)[i]? = some (.float .f64 (fF r r' f i))
  | 0, i, h => by omega
  | n + 1, i, h => by
    have hl := nTo_len r' hr (plX r f) (plY r f) (plZ r f) (plM r f) n
    by_cases hi : i < n * widN r'
    · have := nTo_at r r' hr f n i hi
      rw [nTo, List.append_assoc, List.append_assoc, List.getElem?_append_left (by omega)]
      exact this
    · obtain ⟨c, rfl⟩ : ∃ c, i = n * widN r' + c := ⟨i - n * widN r', by omega⟩
      rw [nTo, List.append_assoc, List.append_assoc, List.getElem?_append_right (by omega), hl, Nat.add_sub_cancel_left]
      have hw := widN_le r' hr
      have hc : c < widN r' := by rw [Nat.succ_mul] at h; omega
      have hq : (n * widN r' + c) / widN r' = n := by
        rw [Nat.mul_comm, Nat.mul_add_div (by omega), Nat.div_eq_of_lt hc]; omega
      have hm : (n * widN r' + c) % widN r' = c := by
        rw [Nat.mul_comm, Nat.mul_add_mod, Nat.mod_eq_of_lt hc]
      unfold fF
      rw [hq, hm]
      rcases (by omega : r' = 0 ∨ r' = 1 ∨ r' = 2 ∨ r' = 3) with rfl | rfl | rfl | rfl
      · have hc' : c < 2 := hc
        rcases (by omega : c = 0 ∨ c = 1) with rfl | rfl <;> rfl
      · have hc' : c < 3 := hc
        rcases (by omega : c = 0 ∨ c = 1 ∨ c = 2) with rfl | rfl | rfl <;> rfl
      · have hc' : c < 3 := hc
        rcases (by omega : c = 0 ∨ c = 1 ∨ c = 2) with rfl | rfl | rfl <;> rfl
      · have hc' : c < 4 := hc
        rcases (by omega : c = 0 ∨ c = 1 ∨ c = 2 ∨ c = 3) with rfl | rfl | rfl | rfl <;> rfl
theorem fF_lt {W : World} {p : Option Addr} {n : Nat} {f : Nat → Nat} (h : FVal W p n f) (r r' i : Nat) : fF r r' f i < 18446744073709551616 := by
  unfold fF
  split
  · exact h.lt _
  · split
    · exact h.lt _
    · split
      · exact fval_plZ h r _
      · exact fval_plM h r _

theorem AppV.prow {e base : Nat} {w0 w : World} {v0 : Value} {p : Option Addr} {n c r : Nat} {f : Nat → Nat} (h : AppV e 4 base w0 v0 w (.slice p n c) n (pCells r f n)) : PRow w p n (plX r f) (plY r f) (plZ r f) (plM r f) := by
  obtain ⟨h1, h2⟩ := own_at4 h.own
  refine ⟨h1, fun a ha i hi => ⟨?_, ?_, ?_, ?_⟩⟩
  · exact h2 a ha i 0 _ ((pCells_at r f n i hi 0 (by omega)).trans rfl)
  · exact h2 a ha i 1 _ ((pCells_at r f n i hi 1 (by omega)).trans rfl)
  · exact h2 a ha i 2 _ ((pCells_at r f n i hi 2 (by omega)).trans rfl)
  · exact h2 a ha i 3 _ ((pCells_at r f n i hi 3 (by omega)).trans rfl)



set_option maxRecDepth 100000 in
set_option maxHeartbeats 4000000 in
theorem ForceD : ∀ (h : Nat) (B : Nat → Prop) (W : World) (v : Value) (t : Raw) (r' : Nat), r' < 4 → KD B h W v t → dimsOk t → pl t ≤ 2000 →
    Calls Tryz.prog 44 #[v, .int .i64 r'] W fun e w' => ∃ v', e = .returned v' ∧ KD (Fr W w') h w' v' (forceT r' t) ∧ W.grownBy w' none := by
  intro h
  induction h with
  | zero => intro B W v t r' _ hk; exact hk.elim
  | succ h ih =>
    intro B W v t r' hr' hk hd hp
    obtain ⟨k, d, n, f, kids⟩ := t
    obtain ⟨hd0, hd4, hdk⟩ := hd
    obtain ⟨r, rfl⟩ := Int.eq_ofNat_of_zero_le hd0
    obtain ⟨p, cap, q, c2, rfl, hf, h1, h2, h3, hm1, hm2, hm3, hm4, _⟩ := hk
    have hr : r < 4 := by omega
    unfold pl at hp
    simp only [Int.toNat_natCast] at hp
    have hw := widN_le r hr
    have hw' := widN_le r' hr'
    have hn : n ≤ 100000 := by
      have h1 : n / widN r ≤ 2000 := by omega
      have h2 := Nat.mod_add_div n (widN r)
      have h3 := Nat.mod_lt n (by omega : 0 < widN r)
      have h4 : widN r * (n / widN r) ≤ 4 * 2000 := Nat.mul_le_mul hw.2 h1
      omega
    have hL : n / widN r ≤ 2000 := by omega
    have hpk : pls kids ≤ 2000 := Nat.le_trans (Nat.le_add_left _ _) hp
    have HPl := Lib.hid (fun w (g : W.grownBy w none) => Places_any' r hr p n cap f hn w (hf.mono g))
    have HNu := Lib.hid (fun w pq c (hpr : PRow w pq (n / widN r) (plX r f) (plY r f) (plZ r f) (plM r f)) => Nums_any r' hr' pq (n / widN r) c _ _ _ _ (by omega) w hpr)
    have HFv : Hid (∀ (w0 w : World) (p : Option Addr) (cc : Nat), AppV 26 1 w0.heap.size w0 (.slice none 0 0) w (.slice p (n / widN r * widN r') cc) (n / widN r * widN r') (nTo r' (plX r f) (plY r f) (plZ r f) (plM r f) (n / widN r)) → FVal w p (n / widN r * widN r') (fF r r' f)) :=
      fun w0 w p cc hh => hh.fval (fun i => fF_lt hf r r' i) (fun i hi => nTo_at r r' hr' f (n / widN r) i hi)
    have HKid := Lib.hid (fun w (g : W.grownBy w none) a (ha : q = some a) j t (hj : kids[j]? = some t) => (by
      obtain ⟨c0, c1, c2, c3, k0, k1, k2, k3, k4⟩ := hm4 a ha j t hj
      exact ⟨c0, c1, c2, c3, k0.mono g, g.cell k1 (by simp), g.cell k2 (by simp), g.cell k3 (by simp), g.cell k4 (by simp)⟩ : ∃ c0 c1 c2 c3, KD B h w (.agg #[c0, c1, c2, c3]) t ∧ w.cell? (a.add (j * 4)) = some c0 ∧ w.cell? ⟨(a.add (j * 4)).block, (a.add (j * 4)).off + 1, none⟩ = some c1 ∧ w.cell? ⟨(a.add (j * 4)).block, (a.add (j * 4)).off + 2, none⟩ = some c2 ∧ w.cell? ⟨(a.add (j * 4)).block, (a.add (j * 4)).off + 3, none⟩ = some c3))
    have HIH := Lib.hid (fun w v j t (hj : kids[j]? = some t) (hk : KD B h w v t) => ih B w v t r' hr' hk (dimsOks_mem kids hdk j t hj) (by have := pls_mem kids j t hj; omega))
    have HSn := Lib.hid (fun j t (hj : kids[j]? = some t) => (by
      obtain ⟨hlt, rfl⟩ := List.getElem?_eq_some_iff.1 hj
      rw [List.take_succ_eq_append_getElem hlt, forceTs_snoc] : forceTs r' (kids.take (j + 1)) = forceTs r' (kids.take j) ++ [forceT r' t]))
    have hml : kids.length ≤ 2000 := by have := pls_len kids; omega
    have HG : Hid (∀ j, j < kids.length → ∃ t, kids[j]? = some t) := fun j hj => ⟨kids[j]'(by omega), List.getElem?_eq_getElem (by omega)⟩
    have HLn : Hid (∀ j, j ≤ kids.length → (forceTs r' (kids.take j)).length = j) := fun j hj => by rw [forceTs_len, List.length_take]; omega
    have HEnd : forceT r' (.mk k r n f kids) = .mk k r' (n / widN r * widN r') (fF r r' f) (forceTs r' (kids.take kids.length)) := by rw [List.take_length]; unfold forceT; simp only [Int.toNat_natCast]
    have hqn := Lib.hid hm3
    rw [HEnd]
    generalize n / widN r = L at HPl HNu HFv hL hp ⊢
    generalize kids.length = m at HG HLn hml hm1 ⊢
    obtain ⟨N, hN⟩ : ∃ N, N = L * widN r' := ⟨_, rfl⟩
    rw [← hN] at HNu HFv ⊢
    have hNle : N ≤ 8000 := by rw [hN]; exact Nat.mul_le_mul hL hw'.2
    clear hm4 hm3 ih hf hdk HEnd hN hd0 hd4
    go_enter Tryz.func44, Tryz.ntmps44
    have HB3 := W3_grown W (.int .i64 k) (.int .i64 r) (.slice p n cap) (.slice q m c2) k r' 33
    have HPre := Lib.hid (fun w g => Pre.of W w (.int .i64 k) (.int .i64 r) (.slice p n cap) (.slice q m c2) k r' 33 g)
    go_wp2_with (first
      | (go_at_call 91; refine (HPl.out _ HB3).mono ?_; rintro e w1 ⟨v1, rfl, hv1⟩; obtain ⟨pp, cc, rfl⟩ := hv1.slice))
    have G1 := gt_trans HB3 hv1.grown0 (.inl rfl)
    have hs1 : W.heap.size + 3 ≤ w1.heap.size := by rw [← W3_size W (.int .i64 k) (.int .i64 r) (.slice p n cap) (.slice q m c2) k r' 33]; exact hv1.grown0.size
    refine (HNu.out _ _ _ hv1.prow).mono ?_
    rintro e w2 ⟨v2, rfl, hv2⟩
    obtain ⟨pn, cn, rfl⟩ := hv2.slice
    have hfn := HFv.out _ _ _ _ hv2
    obtain ⟨pn', cn', e9, hc1, hc2, hc3, hob⟩ := own_form hv2.own
    obtain ⟨rfl, rfl⟩ : pn = pn' ∧ cn = cn' := by injection e9 with e9 e10 e11; exact ⟨e9, e11⟩
    have hnlt := hv2.own.lt
    have hpre := HPre.out w2 (gt_trans hv1.grown0 hv2.grown0 (.inl rfl))
    have I0 := Lib.hid (hpre.start h hfn hc1 hc2 hc3 (fun a ha => by have := hnlt _ (hob a ha); omega))
    obtain ⟨_, _, a0, a1, a2, a3, o0, o1, o2, o3, of_, _⟩ := hpre
    have of2 := of_ 2
    have HO : Hid (∀ w', (w2.setCell ⟨W.heap.size + 1 + 1, 2, none⟩ (.slice pn N cn)).grownBy w' none → True) := fun _ _ => trivial
    clear hnlt hob hc1 hc2 hc3 hfn hv2 hv1 HPre HFv of_ e9
    go_wp2_with fail
    clear a0 a1 a2 a3 o0 o1 o2 o3 of2 HO hs1 G1
    go_loopw [23] (fun i wr => ∃ (j : Nat) (x : Value) (cs : List Value), i = .int .i64 j ∧ j ≤ m ∧ OutInv W wr h k r' pn N cn (fF r r' f) x (forceTs r' (kids.take j)) cs) (fun i _ => m - (intOf i).toNat)
    case atStart => exact ⟨0, .slice none 0 0, [], rfl, by omega, by simpa [forceTs] using I0.out⟩
    case round =>
      obtain ⟨j, x, cs, rfl, hj, I⟩ := hrel
      rename World => wr
      clear I0
      by_cases hjm : j < m
      · obtain ⟨t, ht⟩ := HG.out j hjm
        obtain ⟨a, rfl⟩ : ∃ a, q = some a := by
          cases q with
          | none => have := hqn.out rfl; omega
          | some a => exact ⟨a, rfl⟩
        obtain ⟨c0, c1, c2, c3, kk, q0, q1, q2, q3⟩ := HKid.out wr I.g a rfl j t ht
        obtain ⟨k1, d1, n1, f1, kids1, p1, cap1, q1', cq1, _, rfl, rfl, rfl, rfl⟩ := kk.form4
        generalize kids1.length = m1 at kk q3
        have HK5 := Lib.hid (fun w (g : wr.grownBy w none) => HIH.out w _ j t ht (kk.mono g))
        have hSn := Lib.hid (HSn.out j t ht)
        have hLn := Lib.hid (HLn.out j (by omega))
        obtain ⟨px, cx, rfl, _⟩ := own_form I.kr.1
        have hle := hLn.out
        have HI := Lib.hid (fun w (g : wr.grownBy w none) => I.kept g)
        have hxl : (forceTs r' (kids.take j)).length = j := hLn.out
        rw [hxl] at HI
        have HX : Hid (∀ w, wr.grownBy w none → w.cell? ⟨W.heap.size + 1 + 1, 3, none⟩ = some (.slice px j cx) ∧ w.frozen? ⟨W.heap.size + 1 + 1, 3, none⟩ = false) := fun w g => ⟨(HI.out w g).o3, (HI.out w g).of_ 3⟩
        have HOw : Hid (∀ w, wr.grownBy w none → w.ownsRow (W.heap.size + 3) 33 4 (.slice px j cx) j cs) := fun w g => by
          have hh := (HI.out w g).kr.1
          rw [hLn.out] at hh
          exact hh
        have HX7 : Hid (∀ w6 w7, wr.grownBy w6 none → w6.grownBy w7 (Value.slice px j cx).ownBlock → w7.cell? ⟨W.heap.size + 1 + 1, 3, none⟩ = some (.slice px j cx) ∧ w7.frozen? ⟨W.heap.size + 1 + 1, 3, none⟩ = false) := fun w6 w7 g g' => by
          have hi := HI.out w6 g
          have hne : some (W.heap.size + 1 + 1) ≠ (Value.slice px j cx).ownBlock := fun e => by have := (hi.kr.1.lt _ e.symm).1; omega
          exact ⟨g'.cell hi.o3 hne, by rw [World.frozen?_of_block (g'.block (W.heap.size + 1 + 1) (by have := hi.big; omega) hne)]; exact hi.of_ 3⟩
        have HSnoc : Hid (∀ (w1 w2 w3 w4 : World) (d0 d1 d2 d3 : Value) (gg cap : Nat), wr.grownBy w1 none → w1.grownBy w2 none → w2.grownBy w3 none → KD (Fr w1 w2) h w2 (.agg #[d0, d1, d2, d3]) (forceT r' t) → w4.ownsRow (W.heap.size + 3) 33 4 (.slice (some ⟨gg, 0, none⟩) (j + 1) cap) (j + 1) (cs ++ [d0, d1, d2, d3]) → w3.grownBy w4 (Value.slice px j cx).ownBlock → ((Value.slice px j cx).ownBlock = some gg ∨ gg = w3.heap.size) →
            OutInv W (w4.setCell ⟨W.heap.size + 1 + 1, 3, none⟩ (.slice (some ⟨gg, 0, none⟩) (j + 1) cap)) h k r' pn N cn (fF r r' f) (.slice (some ⟨gg, 0, none⟩) (j + 1) cap) (forceTs r' (kids.take (j + 1))) (cs ++ [d0, d1, d2, d3])) := fun w1 w2 w3 w4 d0 d1 d2 d3 gg cap g1 g2 g3 hk hown g4 hg => by
          have hh := (HI.out wr (gt_refl _ _)).snoc g1 g2 g3 hk (by rw [hLn.out]; exact hown) g4 hg
          rw [hLn.out, ← hSn.out] at hh
          exact hh
        have hbig := I.big
        clear kk ht I hle hxl
        go_wp2_with fail
        have G5 := World.grownBy_alloc wr (.cells #[.int .i64 k1, .int .i64 d1, .slice p1 n1 cap1, .slice q1' m1 cq1] 33) none
        obtain ⟨y3, yf⟩ := HX.out _ (gt_drew_r G5)
        have HG5 := Lib.hid (gt_drew_r G5)
        clear G5
        go_region_law (first
          | (go_simp; go_at_call 44; refine (HK5.out _ HG5.out).mono ?_; rintro e w5 ⟨v5, rfl, hk5, hg5⟩; obtain ⟨k6, d6, n6, f6, kids6, p6, cap6, q6, cq6, _, rfl⟩ := hk5.form; have G6 := gt_trans HG5.out hg5 (.inl rfl); obtain ⟨z3, zf⟩ := HX.out _ G6; have hz5 : W.heap.size + 1 + 1 < w5.heap.size := by have := G6.size; omega)
          | (refine step_cells (size := 4) (n := j) (xs := cs) (base := W.heap.size + 3) (W := w5) rfl _ _ _ rfl Tryz.underlying31 (.agg #[.int .i64 0, .int .i64 0, .slice none 0 0, .slice none 0 0]) 64 infoG rfl (Nat.succ_pos 3) rfl rfl rfl _ ?_ ?_ ?_ (Nat.succ_pos 0) ?_ ?_ ?_ ?_; exact HOw.out _ (gt_alloc_r G6 _); rfl; exact one4 _ _ _ _ _ _ _ _; (have := G6.size; simp; omega); omega; omega; intro gg cap7 w7 hown7 hg7 hat7; obtain ⟨u3, uf⟩ := HX7.out _ _ (gt_alloc_r G6 _) hg7))
        all_goals
          have HFin := Lib.hid (HSnoc.out _ _ _ _ _ _ _ _ _ _ HG5.out hg5 (World.grownBy_alloc _ _ _) hk5 hown7 hg7 hat7)
          clear hown7 hg7 hat7 hk5 u3 uf z3 zf y3 yf
          go_wp2_with fail
          exact ⟨⟨j + 1, _, _, by go_num, by omega, HFin.out⟩, by simp [intOf]; omega⟩
      · obtain rfl : j = m := by omega
        obtain ⟨px, cx, rfl, _⟩ := own_form I.kr.1
        have hxl : (forceTs r' (kids.take j)).length = j := HLn.out j (by omega)
        rw [hxl] at I
        have o0 := I.o0
        have o1 := I.o1
        have o2 := I.o2
        have o3 := I.o3
        have r0 := I.r0
        have r1 := I.r1
        have r2 := I.r2
        have r3 := I.r3
        have rf0 := I.rf 0
        have rf1 := I.rf 1
        have rf2 := I.rf 2
        have rf3 := I.rf 3
        have HEnd := Lib.hid I.end_
        clear I
        go_wp2_with fail
        go_wp2_with fail
        refine bodyPost_ret (by simp [results, Tryz.results44, go_sem, r0, r1, r2, r3]; try rfl) rfl ?_
        exact ⟨_, rfl, HEnd.out.1, HEnd.out.2⟩
end Go.Proofs.YtlpaecafpbbbkaaGreatDoor
