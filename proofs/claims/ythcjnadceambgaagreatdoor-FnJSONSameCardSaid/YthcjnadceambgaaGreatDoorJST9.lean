/- The reference's text of a geometry: plain functions, and the small ones of the program. The package's text of points and of several points. The package's points, all of one type of coordinates. -/
import Derived.Test.YthcjnadceambgaaGreatDoorJST8
namespace Go.Proofs.YthcjnadceambgaaGreatDoor
open Go.RowKit

def nameT (k : Int) : List UInt8 := if k = 1 then [80, 79, 73, 78, 84] else if k = 2 then [76, 73, 78, 69, 83, 84, 82, 73, 78, 71] else if k = 3 then [80, 79, 76, 89, 71, 79, 78] else if k = 4 then [77, 85, 76, 84, 73, 80, 79, 73, 78, 84] else if k = 5 then [77, 85, 76, 84, 73, 76, 73, 78, 69, 83, 84, 82, 73, 78, 71] else if k = 6 then [77, 85, 76, 84, 73, 80, 79, 76, 89, 71, 79, 78] else [71, 69, 79, 77, 69, 84, 82, 89, 67, 79, 76, 76, 69, 67, 84, 73, 79, 78]
theorem nameT_len (k : Int) : (nameT k).length ≤ 18 := by
  unfold nameT
  repeat' split
  all_goals decide
def dimN (r : Nat) : List UInt8 := if r = 1 then [90] else if r = 2 then [77] else if r = 3 then [90, 77] else []
theorem tag_dimN (r : Nat) (hr : r < 4) (h0 : ¬ r = 0) : tag r = [32] ++ dimN r ++ [32] := by
  rcases (by omega : r = 1 ∨ r = 2 ∨ r = 3) with rfl | rfl | rfl <;> rfl

set_option maxRecDepth 100000 in
set_option maxHeartbeats 1000000 in
theorem kindName_any (k : Int) (w : World) : Calls Tryz.prog 26 #[.int .i64 k] w fun e w' => e = .returned (.string ⟨(nameT k).toArray⟩) ∧ w' = w := by
  by_cases h1 : k = 1
  · subst h1
    go_enter Tryz.func26, Tryz.ntmps26
    go_wp2_with fail
    go_ret
    exact ⟨rfl, rfl⟩
  · skip
    by_cases h2 : k = 2
    · subst h2
      go_enter Tryz.func26, Tryz.ntmps26
      go_wp2_with fail
      go_ret
      exact ⟨rfl, rfl⟩
    · skip
      by_cases h3 : k = 3
      · subst h3
        go_enter Tryz.func26, Tryz.ntmps26
        go_wp2_with fail
        go_ret
        exact ⟨rfl, rfl⟩
      · skip
        by_cases h4 : k = 4
        · subst h4
          go_enter Tryz.func26, Tryz.ntmps26
          go_wp2_with fail
          go_ret
          exact ⟨rfl, rfl⟩
        · skip
          by_cases h5 : k = 5
          · subst h5
            go_enter Tryz.func26, Tryz.ntmps26
            go_wp2_with fail
            go_ret
            exact ⟨rfl, rfl⟩
          · skip
            by_cases h6 : k = 6
            · subst h6
              go_enter Tryz.func26, Tryz.ntmps26
              go_wp2_with fail
              go_ret
              exact ⟨rfl, rfl⟩
            · skip
              have e : nameT k = [71, 69, 79, 77, 69, 84, 82, 89, 67, 79, 76, 76, 69, 67, 84, 73, 79, 78] := by unfold nameT; rw [if_neg h1, if_neg h2, if_neg h3, if_neg h4, if_neg h5, if_neg h6]
              rw [e]
              have e1 : (k == 1) = false := by simpa using h1
              have e2 : (k == 2) = false := by simpa using h2
              have e3 : (k == 3) = false := by simpa using h3
              have e4 : (k == 4) = false := by simpa using h4
              have e5 : (k == 5) = false := by simpa using h5
              have e6 : (k == 6) = false := by simpa using h6
              clear h1 h2 h3 h4 h5 h6 e
              go_enter Tryz.func26, Tryz.ntmps26
              go_wp2_with fail
              go_ret
              exact ⟨rfl, rfl⟩
set_option maxRecDepth 100000 in
set_option maxHeartbeats 1000000 in
theorem dimName_any (r : Nat) (hr : r < 4) (w : World) : Calls Tryz.prog 27 #[.int .i64 r] w fun e w' => e = .returned (.string ⟨(dimN r).toArray⟩) ∧ w' = w := by
  rcases (by omega : r = 0 ∨ r = 1 ∨ r = 2 ∨ r = 3) with rfl | rfl | rfl | rfl
  all_goals
    go_enter Tryz.func27, Tryz.ntmps27
    go_wp2_with fail
    go_ret
    exact ⟨rfl, rfl⟩

def wrapP (ps : List (List UInt8)) : List UInt8 := if ps = [] then EMPTY else [40] ++ joinC ps ++ [41]
/-- The texts of the places. -/
noncomputable def plTs (T : Nat → Int) (r : Nat) (f : Nat → Nat) (n : Nat) : List (List UInt8) := (List.range n).map fun i => wktPl T (plX r f i) (plY r f i) (plZ r f i) (plM r f i) r
mutual
noncomputable def bodyT (T : Nat → Int) : Raw → List UInt8
  | .mk k d n f kids => wrapP (plTs T d.toNat f (n / widN d.toNat) ++ bodyTs T (decide (k = 0)) kids)
noncomputable def textT (T : Nat → Int) : Raw → List UInt8
  | .mk k d n f kids => nameT k ++ (if d.toNat = 0 then (if plTs T d.toNat f (n / widN d.toNat) ++ bodyTs T (decide (k = 0)) kids = [] then [32] else []) else tag d.toNat) ++ wrapP (plTs T d.toNat f (n / widN d.toNat) ++ bodyTs T (decide (k = 0)) kids)
noncomputable def bodyTs (T : Nat → Int) (c : Bool) : List Raw → List (List UInt8)
  | [] => []
  | t :: ts => (bif c then textT T t else bodyT T t) :: bodyTs T c ts
end
theorem bodyTs_snoc (T : Nat → Int) (c : Bool) : ∀ (ts : List Raw) (t : Raw), bodyTs T c (ts ++ [t]) = bodyTs T c ts ++ [bif c then textT T t else bodyT T t]
  | [], t => by simp [bodyTs]
  | s :: ts, t => by simp only [List.cons_append, bodyTs, bodyTs_snoc T c ts t]
theorem bodyTs_len (T : Nat → Int) (c : Bool) : ∀ (ts : List Raw), (bodyTs T c ts).length = ts.length
  | [] => by simp [bodyTs]
  | s :: ts => by simp only [List.length_cons, bodyTs, bodyTs_len T c ts]
theorem plTs_len (T : Nat → Int) (r : Nat) (f : Nat → Nat) (n : Nat) : (plTs T r f n).length = n := by simp [plTs]
theorem plTs_snoc (T : Nat → Int) (r : Nat) (f : Nat → Nat) (n : Nat) : plTs T r f (n + 1) = plTs T r f n ++ [wktPl T (plX r f n) (plY r f n) (plZ r f n) (plM r f n) r] := by simp [plTs, List.range_succ]
theorem plTs_sum (T : Nat → Int) (r : Nat) (f : Nat → Nat) : ∀ n, lensum (plTs T r f n) ≤ n * 16004
  | 0 => by simp [plTs, lensum]
  | n + 1 => by
    have h := plTs_sum T r f n
    have h2 := wktPl_len T (plX r f n) (plY r f n) (plZ r f n) (plM r f n) r
    rw [plTs_snoc, lensum_append]
    simp only [lensum]
    omega
theorem wrapP_len (ps : List (List UInt8)) : (wrapP ps).length ≤ 5 + lensum ps := by
  have h := joinC_len ps
  unfold wrapP
  split
  · simp [EMPTY]
  · simp only [List.length_append, List.length_cons, List.length_nil]; omega
mutual
theorem bodyT_len (T : Nat → Int) : ∀ t : Raw, (bodyT T t).length + 1 ≤ 16100 * pl t
  | .mk k d n f kids => by
    have h1 := wrapP_len (plTs T d.toNat f (n / widN d.toNat) ++ bodyTs T (decide (k = 0)) kids)
    have h2 := plTs_sum T d.toNat f (n / widN d.toNat)
    have h3 := bodyTs_sum T (decide (k = 0)) kids
    rw [lensum_append] at h1
    unfold bodyT pl
    generalize n / widN d.toNat = L at h1 h2 h3 ⊢
    omega
theorem textT_len (T : Nat → Int) : ∀ t : Raw, (textT T t).length + 1 ≤ 16100 * pl t
  | .mk k d n f kids => by
    have h1 := wrapP_len (plTs T d.toNat f (n / widN d.toNat) ++ bodyTs T (decide (k = 0)) kids)
    have h2 := plTs_sum T d.toNat f (n / widN d.toNat)
    have h3 := bodyTs_sum T (decide (k = 0)) kids
    have h4 := nameT_len k
    have h5 := tag_len d.toNat
    rw [lensum_append] at h1
    have h6 : (if d.toNat = 0 then (if plTs T d.toNat f (n / widN d.toNat) ++ bodyTs T (decide (k = 0)) kids = [] then [32] else []) else tag d.toNat).length ≤ 4 := by
      split
      · split <;> simp
      · exact h5
    unfold textT pl
    simp only [List.length_append]
    generalize n / widN d.toNat = L at h1 h2 h3 h6 ⊢
    omega
theorem bodyTs_sum (T : Nat → Int) (c : Bool) : ∀ ts : List Raw, lensum (bodyTs T c ts) ≤ 16100 * pls ts
  | [] => by simp [bodyTs, lensum]
  | t :: ts => by
    have h1 := bodyT_len T t
    have h2 := textT_len T t
    have h3 := bodyTs_sum T c ts
    unfold bodyTs lensum pls
    cases c
    · simp only [cond_false]; omega
    · simp only [cond_true]; omega
end
theorem wrapP_empty (ps : List (List UInt8)) : wrapP ps = EMPTY ↔ ps = [] := by
  unfold wrapP
  split
  · simp_all
  · simp_all [EMPTY]
end Go.Proofs.YthcjnadceambgaaGreatDoor
namespace Go.Proofs.YthcjnadceambgaaGreatDoor
open Go.RowKit

noncomputable def ptB (T : Nat → Int) (c : UInt8) (t : Pt) : List UInt8 := if t.b = true then [40] ++ wktPl T t.x t.y t.z t.m t.r ++ [41] else wE c
theorem ptB_len (T : Nat → Int) (c : UInt8) (t : Pt) : (ptB T c t).length ≤ 16010 := by
  have h1 := wktPl_len T t.x t.y t.z t.m t.r
  have h2 := wE_len c
  unfold ptB
  split
  · simp only [List.length_append, List.length_cons, List.length_nil]; omega
  · omega

set_option maxRecDepth 100000 in
set_option maxHeartbeats 2000000 in
theorem PtBody_any (T : Nat → Int) (hT : ∀ i, U64 (T i)) (x y z m r : Nat) (b : Bool) (hok : Pt.Ok ⟨x, y, z, m, r, b⟩) (l' : List UInt8) (c : UInt8)
    (base : Nat) (v : Value) (l : List UInt8) (hl' : l = l' ++ [c]) (W : World) (hown : W.ownsRow base 5 1 v l.length (Bs l)) (hbase : base ≤ W.heap.size) (hl : l.length ≤ 35000000000000) (ht : Tabs T W) (hg3 : 3 < base) (hg2 : 2 < base) :
    Calls Tryz.prog 121 #[.agg #[.float .f64 x, .float .f64 y, .float .f64 z, .float .f64 m, .int .u8 r, .bool b], v] W (AppEnd 5 base W v (l ++ ptB T c ⟨x, y, z, m, r, b⟩)) := by
  have HG := Lib.hid (World.grownBy_alloc W (.cells #[.float .f64 x, .float .f64 y, .float .f64 z, .float .f64 m, .int .u8 r, .bool b] 71) none)
  have HO := Lib.hid hown
  have hfin : Hid (∀ s W1 W' v', W.grownBy W1 none → AppB 5 base W1 v W' v' s → AppEnd 5 base W v s (.returned v') W') := fun s W1 W' v' g h => ⟨v', rfl, AppB.later HO.out g h⟩
  have HB := Lib.hid (Nat.le_trans hbase HG.out.size)
  obtain ⟨hx, hy, hz, hm, hr⟩ := hok
  cases b
  · have e : ptB T c ⟨x, y, z, m, r, false⟩ = wE c := by unfold ptB; rw [if_neg (by simp)]
    rw [e]
    have HE := Lib.hid (fun w (h : w.ownsRow base 5 1 v l.length (Bs l)) (hb : base ≤ w.heap.size) => appendWKTEmpty_any l' c base v l hl' w h hb hl)
    clear e hx hy hz hm ht hown
    go_enter Tryz.func121, Tryz.ntmps121
    go_wp2_with (first
      | (go_at_call 120; refine (HE.out _ (own_later HO.out HG.out) HB.out).mono ?_; rintro e w2 ⟨v', rfl, H⟩))
    go_ret
    exact hfin.out _ _ _ _ HG.out H
  · have e : ptB T c ⟨x, y, z, m, r, true⟩ = par true 40 ++ wktPl T x y z m r ++ par true 41 := by unfold ptB; rw [if_pos rfl]; rfl
    rw [e]
    have HS := Lib.hid (fun w (h : w.ownsRow base 5 1 v l.length (Bs l)) (hb : base ≤ w.heap.size) (ht : Tabs T w) => appendWKTCoords_any T hT x y z m r r rfl true hx hy hz hm hr base v l w h hb (Nat.le_trans hl (by decide)) ht hg3 hg2)
    have HT := Lib.hid (ht.mono HG.out (by simp) (by simp))
    clear e hx hy hz hm ht hown
    go_enter Tryz.func121, Tryz.ntmps121
    go_wp2_with (first
      | (go_at_call 146; refine (HS.out _ (own_later HO.out HG.out) HB.out HT.out).mono ?_; rintro e w2 ⟨v', rfl, H⟩))
    go_ret
    exact hfin.out _ _ _ _ HG.out H

/-- A row of points in memory. -/
structure PR (W : World) (p : Option Addr) (ps : List Pt) : Prop where
  some_ : 0 < ps.length → ∃ a, p = some a
  at_ : ∀ a, p = some a → ∀ i t, ps[i]? = some t → W.cell? (a.add (i * 6)) = some (.float .f64 t.x) ∧ W.cell? ⟨(a.add (i * 6)).block, (a.add (i * 6)).off + 1, none⟩ = some (.float .f64 t.y) ∧ W.cell? ⟨(a.add (i * 6)).block, (a.add (i * 6)).off + 2, none⟩ = some (.float .f64 t.z) ∧ W.cell? ⟨(a.add (i * 6)).block, (a.add (i * 6)).off + 3, none⟩ = some (.float .f64 t.m) ∧ W.cell? ⟨(a.add (i * 6)).block, (a.add (i * 6)).off + 4, none⟩ = some (.int .u8 t.r) ∧ W.cell? ⟨(a.add (i * 6)).block, (a.add (i * 6)).off + 5, none⟩ = some (.bool t.b)
theorem PR.mono {W W' : World} {p : Option Addr} {ps : List Pt} (h : PR W p ps) (g : W.grownBy W' none) : PR W' p ps :=
  ⟨h.some_, fun a ha i t hi => by
    obtain ⟨h0, h1, h2, h3, h4, h5⟩ := h.at_ a ha i t hi
    exact ⟨g.cell h0 (by simp), g.cell h1 (by simp), g.cell h2 (by simp), g.cell h3 (by simp), g.cell h4 (by simp), g.cell h5 (by simp)⟩⟩

def nMP : List UInt8 := [77, 85, 76, 84, 73, 80, 79, 73, 78, 84]
noncomputable def mpW (T : Nat → Int) (r : Nat) (ps : List Pt) : List UInt8 := nMP ++ tag r ++ (if ps.length = 0 then wE (if r = 0 then 84 else 32) else [40] ++ joinC (ps.map (ptB T 40)) ++ [41])
/-- The texts of the first k points. -/
noncomputable def ptTo (T : Nat → Int) (ps : List Pt) : Nat → List UInt8 := cTo (fun i => (ps.map (ptB T 40)).getD i [])
theorem ptTo_len (T : Nat → Int) (ps : List Pt) : ∀ k, (ptTo T ps k).length ≤ k * 16011
  | 0 => by simp [ptTo, cTo]
  | k + 1 => by
    have h1 := ptTo_len T ps k
    have h2 : ((ps.map (ptB T 40)).getD k []).length ≤ 16010 := by
      rw [List.getD_eq_getElem?_getD, List.getElem?_map]
      cases h : ps[k]? with
      | none => simp
      | some t => simpa using ptB_len T 40 t
    show (cTo _ k ++ _ ++ _).length ≤ _
    have h3 : (if 0 < k then [(44 : UInt8)] else []).length ≤ 1 := by split <;> simp
    unfold ptTo at h1
    simp only [List.length_append]
    omega

set_option maxRecDepth 100000 in
set_option maxHeartbeats 400000 in
theorem MPCT_any (r n c : Nat) (p : Option Addr) (W : World) : Calls Tryz.prog 104 #[.agg #[.slice p n c, .int .u8 r]] W fun e w' => e = .returned (.int .u8 r) ∧ W.grownBy w' none := by
  go_enter Tryz.func104, Tryz.ntmps104
  go_wp2_with fail
  go_ret
  exact ⟨rfl, World.grownBy_alloc _ _ _⟩

set_option maxRecDepth 100000 in
set_option maxHeartbeats 4000000 in
theorem MPAppendWKT_nil (T : Nat → Int) (hT : ∀ i, U64 (T i)) (r n c : Nat) (hr : r < 4) (p : Option Addr) (ps : List Pt) (hpn : ps.length = n) (W : World) (hp : PR W p ps) (hok : ∀ t ∈ ps, t.Ok) (hn : n ≤ 2000) (ht : Tabs T W) :
    Calls Tryz.prog 64 #[.agg #[.slice p n c, .int .u8 r], .slice none 0 0] W (AppEnd 5 W.heap.size W (.slice none 0 0) (mpW T r ps)) := by
  have hg3 := ht.lt3
  have hg2 := ht.lt2
  have HG := Lib.hid (World.grownBy_alloc W (.cells #[.slice p n c, .int .u8 r] 53) none)
  have HC : Hid (∀ W', (W.alloc (.cells #[.slice p n c, .int .u8 r] 53)).grownBy W' none → W'.cell? ⟨W.heap.size, 0, none⟩ = some (.slice p n c) ∧ W'.cell? ⟨W.heap.size, 1, none⟩ = some (.int .u8 r)) := fun W' g => ⟨g.cell (by simp) (by simp), g.cell (by simp) (by simp)⟩
  have HCT := Lib.hid (fun w => MPCT_any r n c p w)
  have HH := Lib.hid (fun w (h : w.ownsRow W.heap.size 5 1 (.slice none 0 0) ([] : List UInt8).length (Bs [])) (hb : W.heap.size ≤ w.heap.size) => appendWKTHeader_any nMP r hr (by decide) W.heap.size (.slice none 0 0) [] w h hb (by simp))
  obtain ⟨l', hl'⟩ := tag_last [77, 85, 76, 84, 73, 80, 79, 73, 78] 84 r hr
  have htl := tag_len r
  have HE := Lib.hid (fun w v (h : w.ownsRow W.heap.size 5 1 v (nMP ++ tag r).length (Bs (nMP ++ tag r))) (hb : W.heap.size ≤ w.heap.size) => appendWKTEmpty_any l' (if r = 0 then 84 else 32) W.heap.size v (nMP ++ tag r) hl' w h hb (by simp only [nMP, List.length_append, List.length_cons, List.length_nil]; omega))
  have HT := Lib.hid (fun w (g : W.grownBy w none) => ht.mono g (by simp) (by simp))
  have HP := Lib.hid (fun w (g : W.grownBy w none) => hp.mono g)
  have HBd := Lib.hid (fun (i : Nat) (t : Pt) (hi : ps[i]? = some t) (l' : List UInt8) (cc : UInt8) v w (h : w.ownsRow W.heap.size 5 1 v (l' ++ [cc]).length (Bs (l' ++ [cc]))) (hb : W.heap.size ≤ w.heap.size) (hl : (l' ++ [cc]).length ≤ 35000000000000) (ht : Tabs T w) => PtBody_any T hT t.x t.y t.z t.m t.r t.b (hok t (List.mem_of_getElem? hi)) l' cc W.heap.size v _ rfl w h hb hl ht hg3 hg2)
  have HGt : Hid (∀ i, i < n → ∃ t, ps[i]? = some t) := fun i hi => ⟨ps[i]'(by omega), List.getElem?_eq_getElem (by omega)⟩
  have hfin : Hid (∀ s W1 W' v', W.grownBy W1 none → AppB 5 W.heap.size W1 (.slice none 0 0) W' v' s → AppEnd 5 W.heap.size W (.slice none 0 0) s (.returned v') W') := fun s W1 W' v' g h => ⟨v', rfl, AppB.later (l := []) (World.ownsRow_nil _ _ _ _) g h⟩
  have HSL := Lib.hid (fun k => ptTo_len T ps k)
  have HSQ : Hid (∀ k t, ps[k]? = some t → ptTo T ps (k + 1) = ptTo T ps k ++ (if 0 < k then [44] else []) ++ ptB T 40 t) := fun k t hk => by
    show cTo _ k ++ _ ++ (ps.map (ptB T 40)).getD k [] = _
    rw [List.getD_eq_getElem?_getD, List.getElem?_map, hk]; rfl
  have hE4 : Hid (∀ t, ptB T 44 t = ptB T 40 t) := fun t => by unfold ptB; have : wE 44 = wE 40 := rfl; rw [this]
  by_cases hn0 : n = 0
  · have e : mpW T r ps = nMP ++ tag r ++ wE (if r = 0 then 84 else 32) := by unfold mpW; rw [if_pos (by omega)]
    rw [e]
    have hb : ((n : Int) == 0) = true := by rw [hn0]; rfl
    clear e hp ht hn0
    generalize (if r = 0 then (84 : UInt8) else 32) = cc at HE ⊢
    generalize wE cc = LB at HE ⊢
    generalize tag r = tg at HH HE ⊢ htl
    clear hl'
    go_enter Tryz.func64, Tryz.ntmps64
    go_wp2_with (first
      | (go_at_call 104; refine (HCT.out _).mono ?_; rintro e w' ⟨rfl, hg⟩; have G := gt_trans HG.out hg (.inl rfl); obtain ⟨k0, k1⟩ := HC.out _ hg)
      | (go_at_call 116; refine (HH.out _ (World.ownsRow_nil _ _ _ _) G.size).mono ?_; rintro e w2 ⟨v', rfl, H⟩; clear k0 k1; obtain ⟨k0, k1⟩ := HC.out _ (gt_trans hg H.grown (.inl rfl)); have G2 := gt_trans G H.grown (.inl rfl))
      | (go_at_call 120; refine (HE.out _ _ H.own G2.size).mono ?_; rintro e w3 ⟨v3, rfl, H3⟩; have H4 := H.trans H3))
    go_ret
    exact hfin.out _ _ _ _ G H4
  · have e : mpW T r ps = nMP ++ tag r ++ ([40] ++ ptTo T ps n ++ [41]) := by unfold mpW; rw [if_neg (by omega)]; unfold joinC ptTo; rw [List.length_map, hpn]
    rw [e]
    have hb : ((n : Int) == 0) = false := by rw [beq_eq_false_iff_ne]; omega
    have hh : Hid ((nMP ++ tag r).length ≤ 20) := by
      show (nMP ++ tag r).length ≤ 20
      simp only [nMP, List.length_append, List.length_cons, List.length_nil]; omega
    have hS0 : ptTo T ps 0 = [] := rfl
    obtain ⟨S, hS⟩ : ∃ S : Nat → List UInt8, S = ptTo T ps := ⟨_, rfl⟩
    rw [← hS] at HSL HSQ hS0 ⊢
    clear e hp ht hn0 HE hS
    generalize hd : nMP ++ tag r = HD at HH hh ⊢
    have HD1 : Hid (([] : List UInt8) ++ HD = HD) := List.nil_append _
    clear hl' htl hd
    have hsf := run_store_flt Tryz.prog
    go_enter Tryz.func64, Tryz.ntmps64
    go_wp2_with (first
      | (go_at_call 104; refine (HCT.out _).mono ?_; rintro e w' ⟨rfl, hg⟩; have G := gt_trans HG.out hg (.inl rfl); obtain ⟨k0, k1⟩ := HC.out _ hg)
      | (go_at_call 116; refine (HH.out _ (World.ownsRow_nil _ _ _ _) G.size).mono ?_; rintro e w2 ⟨v', rfl, H⟩; rw [HD1.out] at H; have hh2 := hh.out; clear k0 k1; obtain ⟨k0, k1⟩ := HC.out _ (gt_trans hg H.grown (.inl rfl)))
      | (at_builtin; refine app_byte rfl _ _ _ rfl Tryz.underlying33 infoB H rfl _ 40 rfl rfl (by first | rfl | simp) G.size (by (try simp only [List.length_append, List.length_cons, List.length_nil]); omega) ?_; intro v1 w1 H1; clear H; have H := H1; clear H1; clear k0 k1; obtain ⟨k0, k1⟩ := HC.out _ (gt_trans hg H.grown (.inl rfl))))
    go_loopw [1, 23] (fun x i wr => ∃ k : Nat, k ≤ n ∧ i = .int .i64 k ∧ AppB 5 W.heap.size w' (.slice none 0 0) wr x (HD ++ [40] ++ S k)) (fun _ i _ => n - (intOf i).toNat)
    case atStart => exact ⟨0, by omega, rfl, by rw [hS0, List.append_nil]; exact H⟩
    case round =>
      clear H
      obtain ⟨k, hk, rfl, H⟩ := hrel
      rename World => wr
      have hsl := HSL.out k
      have hsl2 : (S k).length ≤ 64024000 := by omega
      have hh2 := hh.out
      clear hsl
      have Gr := gt_trans G H.grown (.inl rfl)
      by_cases hkL : k < n
      · obtain ⟨t, hti⟩ := HGt.out k hkL
        obtain ⟨a, rfl⟩ := (HP.out _ Gr).some_ (by omega)
        obtain ⟨q0, q1, q2, q3, q4, q5⟩ := (HP.out _ Gr).at_ a rfl k t hti
        have HB1 := Lib.hid (HBd.out k t hti)
        have HQ := Lib.hid (HSQ.out k t hti)
        have HE4 := Lib.hid (hE4.out t)
        have HTr := Lib.hid (HT.out)
        clear hti
        obtain ⟨tx, ty, tz, tm, tr, tb⟩ := t
        by_cases hk0 : 0 < k
        · have e : S (k + 1) = S k ++ [44] ++ ptB T 40 ⟨tx, ty, tz, tm, tr, tb⟩ := by rw [HQ.out, if_pos hk0]
          have hk0i : (0 : Int) < (k : Int) := by omega
          have hlt := H.own.lt
          go_wp2_with (first
            | (at_builtin; refine app_byte rfl _ _ _ rfl Tryz.underlying33 infoB (AppB.start (H.own.alloc _)) rfl _ 44 rfl rfl (by first | rfl | simp) (by have := H.based G.size; simp; omega) (by (try simp only [List.length_append, List.length_cons, List.length_nil]); omega) ?_; intro v1 w1 H1; have z0 : w1.cell? ⟨wr.heap.size, 0, none⟩ = some (.float .f64 tx) := by { rw [H1.cell (by simp) (fun e => Nat.lt_irrefl wr.heap.size (hlt _ e).2)]; simp }; have z1 : w1.cell? ⟨wr.heap.size, 1, none⟩ = some (.float .f64 ty) := by { rw [H1.cell (by simp) (fun e => Nat.lt_irrefl wr.heap.size (hlt _ e).2)]; simp }; have z2 : w1.cell? ⟨wr.heap.size, 2, none⟩ = some (.float .f64 tz) := by { rw [H1.cell (by simp) (fun e => Nat.lt_irrefl wr.heap.size (hlt _ e).2)]; simp }; have z3 : w1.cell? ⟨wr.heap.size, 3, none⟩ = some (.float .f64 tm) := by { rw [H1.cell (by simp) (fun e => Nat.lt_irrefl wr.heap.size (hlt _ e).2)]; simp }; have z4 : w1.cell? ⟨wr.heap.size, 4, none⟩ = some (.int .u8 tr) := by { rw [H1.cell (by simp) (fun e => Nat.lt_irrefl wr.heap.size (hlt _ e).2)]; simp }; have z5 : w1.cell? ⟨wr.heap.size, 5, none⟩ = some (.bool tb) := by { rw [H1.cell (by simp) (fun e => Nat.lt_irrefl wr.heap.size (hlt _ e).2)]; simp }; have H2 := (H.beside (World.grownBy_alloc _ _ _)).trans H1; clear H H1; have H := H2; clear H2)
            | (go_at_call 121; refine (HB1.out _ 44 _ _ H.own (H.based G.size) (by (try simp only [List.length_append, List.length_cons, List.length_nil]); omega) (HTr.out _ (gt_trans G H.grown (.inl rfl)))).mono ?_; rintro e w' ⟨v', rfl, H'⟩; have H1 := H.trans H'; clear H H'; have H := H1; clear H1))
          exact ⟨⟨k + 1, by omega, by go_num, by rw [e]; rw [HE4.out] at H; simpa only [List.append_assoc] using H⟩, by simp [intOf]; omega⟩
        · have hk00 : k = 0 := by omega
          have hSk : S k = [] := by rw [hk00]; exact hS0
          have e : S (k + 1) = ptB T 40 ⟨tx, ty, tz, tm, tr, tb⟩ := by rw [HQ.out, if_neg hk0, hSk]; rfl
          rw [hSk, List.append_nil] at H
          have hk0i : ¬ (0 : Int) < (k : Int) := by omega
          clear hk00 hSk
          go_wp2_with (first
            | (go_at_call 121; refine (HB1.out _ 40 _ _ (H.beside (World.grownBy_alloc _ _ _)).own ((H.beside (World.grownBy_alloc _ _ _)).based G.size) (by (try simp only [List.length_append, List.length_cons, List.length_nil]); omega) (HTr.out _ (gt_trans G (H.beside (World.grownBy_alloc _ _ _)).grown (.inl rfl)))).mono ?_; rintro e w' ⟨v', rfl, H'⟩; have H1 := (H.beside (World.grownBy_alloc _ _ _)).trans H'; clear H H'; have H := H1; clear H1))
          exact ⟨⟨k + 1, by omega, by go_num, by rw [e]; simpa only [List.append_assoc] using H⟩, by simp [intOf]; omega⟩
      · obtain rfl : k = n := by omega
        go_wp2_with (first
          | (at_builtin; refine app_byte rfl _ _ _ rfl Tryz.underlying33 infoB H rfl _ 41 rfl rfl (by first | rfl | simp) G.size (by (try simp only [List.length_append, List.length_cons, List.length_nil]); omega) ?_; intro v1 w1 H1; clear H; have H := H1; clear H1))
        go_ret
        have e2 : HD ++ 40 :: (S k ++ [41]) = HD ++ [40] ++ S k ++ [41] := by simp
        rw [e2]
        exact hfin.out _ _ w1 v1 G H
end Go.Proofs.YthcjnadceambgaaGreatDoor
namespace Go.Proofs.YthcjnadceambgaaGreatDoor
open Go.RowKit

theorem PtForce_any (x y z m r : Nat) (b : Bool) (r' : Nat) (hr : r < 4) (hr' : r' < 4) (W : World) :
    Calls Tryz.prog 145 #[.agg #[.float .f64 x, .float .f64 y, .float .f64 z, .float .f64 m, .int .u8 r, .bool b], .int .u8 r'] W fun e w' => e = .returned (Pt.force ⟨x, y, z, m, r, b⟩ r').v ∧ W.grownBy w' none := by
  cases b
  · have e : Pt.force ⟨x, y, z, m, r, false⟩ r' = ptE r' := by unfold Pt.force; rw [if_neg (by simp)]
    rw [e]
    exact PtForce_empty x y z m r r' W
  · exact PtForce_full x y z m r r' hr hr' W
theorem Pt.Ok.force {t : Pt} (h : t.Ok) (r' : Nat) (hr' : r' < 4) : (t.force r').Ok := by
  obtain ⟨hx, hy, hz, hm, hr⟩ := h
  unfold Pt.force
  split
  · exact ⟨hx, hy, by show (if _ then _ else _) < _; split <;> omega, by show (if _ then _ else _) < _; split <;> omega, hr'⟩
  · exact ⟨Nat.zero_lt_succ _, Nat.zero_lt_succ _, Nat.zero_lt_succ _, Nat.zero_lt_succ _, hr'⟩

def set6 (xs : List Value) (J : Nat) (u0 u1 u2 u3 u4 u5 : Value) : List Value := (((((xs.set J u0).set (J + 1) u1).set (J + 2) u2).set (J + 3) u3).set (J + 4) u4).set (J + 5) u5
theorem set6_lt (xs : List Value) (J : Nat) (u0 u1 u2 u3 u4 u5 : Value) (k : Nat) (hk : k < J) : (set6 xs J u0 u1 u2 u3 u4 u5)[k]? = xs[k]? := by
  unfold set6
  rw [List.getElem?_set_ne (by omega), List.getElem?_set_ne (by omega), List.getElem?_set_ne (by omega), List.getElem?_set_ne (by omega), List.getElem?_set_ne (by omega), List.getElem?_set_ne (by omega)]
theorem set6_at (xs : List Value) (J : Nat) (u0 u1 u2 u3 u4 u5 : Value) (hl : J + 6 ≤ xs.length) (o : Nat) (u : Value) (h : [u0, u1, u2, u3, u4, u5][o]? = some u) : (set6 xs J u0 u1 u2 u3 u4 u5)[J + o]? = some u := by
  have ho : o < 6 := (List.getElem?_eq_some_iff.1 h).1
  unfold set6
  rcases (by omega : o = 0 ∨ o = 1 ∨ o = 2 ∨ o = 3 ∨ o = 4 ∨ o = 5) with rfl | rfl | rfl | rfl | rfl | rfl <;> (simp at h; subst h)
  · rw [List.getElem?_set_ne (by omega), List.getElem?_set_ne (by omega), List.getElem?_set_ne (by omega), List.getElem?_set_ne (by omega), List.getElem?_set_ne (by omega)]
    exact List.getElem?_set_self (by omega)
  · rw [List.getElem?_set_ne (by omega), List.getElem?_set_ne (by omega), List.getElem?_set_ne (by omega), List.getElem?_set_ne (by omega)]
    exact List.getElem?_set_self (by simp; omega)
  · rw [List.getElem?_set_ne (by omega), List.getElem?_set_ne (by omega), List.getElem?_set_ne (by omega)]
    exact List.getElem?_set_self (by simp; omega)
  · rw [List.getElem?_set_ne (by omega), List.getElem?_set_ne (by omega)]
    exact List.getElem?_set_self (by simp; omega)
  · rw [List.getElem?_set_ne (by omega)]
    exact List.getElem?_set_self (by simp; omega)
  · exact List.getElem?_set_self (by simp; omega)
theorem addr0 (g k : Nat) : (⟨g, 0, none⟩ : Addr).add k = ⟨g, k, none⟩ := by unfold Addr.add; split <;> simp_all
/-- The first k points of a row that is being written. -/
def Wrt (ps : List Pt) (r' k : Nat) (xs : List Value) : Prop := ∀ l t, l < k → ps[l]? = some t → ∀ o u, (t.force r').cs[o]? = some u → xs[l * 6 + o]? = some u
theorem Wrt.next {ps : List Pt} {r' k : Nat} {xs : List Value} (h : Wrt ps r' k xs) (q : Pt) {t : Pt} (ht : ps[k]? = some t) (hq : t.force r' = q) (hl : k * 6 + 6 ≤ xs.length) : Wrt ps r' (k + 1) (set6 xs (k * 6) (.float .f64 q.x) (.float .f64 q.y) (.float .f64 q.z) (.float .f64 q.m) (.int .u8 q.r) (.bool q.b)) := by
  intro l s hlk hs o u hu
  have ho : o < 6 := (List.getElem?_eq_some_iff.1 hu).1
  by_cases hl' : l < k
  · rw [set6_lt _ _ _ _ _ _ _ _ _ (by omega)]
    exact h l s hl' hs o u hu
  · obtain rfl : l = k := by omega
    rw [ht] at hs
    injection hs with hs
    subst hs
    rw [hq] at hu
    exact set6_at _ _ _ _ _ _ _ _ hl o u hu
theorem Wrt.row {ps : List Pt} {r' n g cap base : Nat} {e : TypeId} {xs : List Value} {w : World} (h : Wrt ps r' n xs) (hn : ps.length = n) (ho : w.ownsRow base e 6 (.slice (some ⟨g, 0, none⟩) n cap) n xs) : PR w (some ⟨g, 0, none⟩) (ps.map fun t => t.force r') := by
  refine ⟨fun _ => ⟨_, rfl⟩, fun a ha i t hi => ?_⟩
  injection ha with ha
  subst ha
  rw [List.getElem?_map] at hi
  obtain ⟨s, hs, rfl⟩ := Option.map_eq_some_iff.1 hi
  have hin : i < n := by have := (List.getElem?_eq_some_iff.1 hs).1; omega
  have key : ∀ o u, (s.force r').cs[o]? = some u → w.cell? ⟨g, i * 6 + o, none⟩ = some u := fun o u hu => by
    have ho6 : o < 6 := (List.getElem?_eq_some_iff.1 hu).1
    rw [ho.cellAt _ (by omega)]
    exact h i s hin hs o u hu
  rw [addr0]
  exact ⟨key 0 _ rfl, key 1 _ rfl, key 2 _ rfl, key 3 _ rfl, key 4 _ rfl, key 5 _ rfl⟩

theorem infoPt : (Tryz.prog.info? 71).map (fun i => (i.zero, i.size, i.bytes)) = some (some (.agg #[.float .f64 0, .float .f64 0, .float .f64 0, .float .f64 0, .int .u8 0, .bool false]), 6, 48) := by kernel_rfl

set_option maxRecDepth 100000 in
set_option maxHeartbeats 4000000 in
theorem forceSlice_any (r' : Nat) (hr' : r' < 4) (p : Option Addr) (ps : List Pt) (n c : Nat) (hpn : ps.length = n) (hn : n ≤ 2000) (hok : ∀ t ∈ ps, t.Ok) (W : World) (hp : PR W p ps) :
    Calls Tryz.prog 119 #[.slice p n c, .int .u8 r'] W fun e w' => ∃ a, e = .returned (.slice (some a) n n) ∧ PR w' (some a) (ps.map fun t => t.force r') ∧ W.heap.size ≤ a.block ∧ W.grownBy w' none := by
  obtain ⟨i0, hi, hzz⟩ := Option.map_eq_some_iff.1 infoPt
  simp only [Prod.mk.injEq] at hzz
  have HI := Lib.hid hzz
  have HPR := Lib.hid (fun w (g : W.grownBy w none) => hp.mono g)
  have HGt : Hid (∀ i, i < n → ∃ t, ps[i]? = some t) := fun i hi => ⟨ps[i]'(by omega), List.getElem?_eq_getElem (by omega)⟩
  have HF := Lib.hid (fun (i : Nat) (t : Pt) (hi : ps[i]? = some t) w => (PtForce_any t.x t.y t.z t.m t.r t.b r' (hok t (List.mem_of_getElem? hi)).r hr' w))
  have hfin : Hid (∀ (w : World) xs, W.grownBy w none → Wrt ps r' n xs → w.ownsRow W.heap.size 71 6 (.slice (some ⟨W.heap.size, 0, none⟩) n n) n xs → PR w (some ⟨W.heap.size, 0, none⟩) (ps.map fun t => t.force r')) := fun w xs g h ho => h.row hpn ho
  have HN : Hid (∀ k xs t q, Wrt ps r' k xs → ps[k]? = some t → t.force r' = q → k * 6 + 6 ≤ xs.length → Wrt ps r' (k + 1) (set6 xs (k * 6) (.float .f64 q.x) (.float .f64 q.y) (.float .f64 q.z) (.float .f64 q.m) (.int .u8 q.r) (.bool q.b))) := fun k xs t q h h1 h2 h3 => h.next q h1 h2 h3
  have hgs : ∀ (w : World) (b jj : Nat) (y : Value), W.heap.size ≤ b → W.grownBy w none → W.grownBy (w.setCell ⟨b, jj, none⟩ y) none := fun w b jj y hb g => gt_set_r g _ _ hb
  have HGs := Lib.hid hgs
  have hsf := run_store_flt Tryz.prog
  clear hp hzz hgs hok
  go_enter Tryz.func119, Tryz.ntmps119
  go_wp2_with (first
    | (at_make; refine wpList_make_full _ rfl _ _ _ rfl W.heap.size 71 i0 (.agg #[.float .f64 0, .float .f64 0, .float .f64 0, .float .f64 0, .int .u8 0, .bool false]) 6 Tryz.underlying51 hi HI.out.1 HI.out.2.1 .i64 .i64 _ _ n rfl rfl rfl rfl (by rw [HI.out.2.2]; omega) (by unfold maxLen; omega) (by simp) ?_; intro w1 hown hg1))
  obtain ⟨xs0, hxs0⟩ : ∃ xs0, xs0 = (madeCells (Value.cells (.agg #[.float .f64 0, .float .f64 0, .float .f64 0, .float .f64 0, .int .u8 0, .bool false])) (n * 6)).toList := ⟨_, rfl⟩
  rw [← hxs0] at hown
  clear hxs0
  go_loopw [13] (fun i wr => ∃ (k : Nat) (xs : List Value), k ≤ n ∧ i = .int .i64 k ∧ W.grownBy wr none ∧ wr.ownsRow W.heap.size 71 6 (.slice (some ⟨W.heap.size, 0, none⟩) n n) n xs ∧ Wrt ps r' k xs) (fun i _ => n - (intOf i).toNat)
  case atStart => exact ⟨0, xs0, by omega, rfl, hg1, hown, fun l t h => absurd h (by omega)⟩
  case round =>
    clear hown
    obtain ⟨k, xs, hk, rfl, Gr, ho, hw⟩ := hrel
    rename World => wr
    by_cases hkL : k < n
    · obtain ⟨t, hti⟩ := HGt.out k hkL
      obtain ⟨a, rfl⟩ := (HPR.out _ Gr).some_ (by omega)
      obtain ⟨q0, q1, q2, q3, q4, q5⟩ := (HPR.out _ Gr).at_ a rfl k t hti
      have HF1 := HF.out k t hti
      have hxl : xs.length = n * 6 := ho.1
      have HW1 := HN.out k xs t (t.force r') hw hti rfl (by omega)
      have HO := Lib.hid (fun w (g : wr.grownBy w none) => ho.kept g (.inr (by simp [Value.ownBlock])))
      have hlt := ho.lt W.heap.size rfl
      obtain ⟨tx, ty, tz, tm, tr, tb⟩ := t
      revert HF1 HW1
      generalize Pt.force ⟨tx, ty, tz, tm, tr, tb⟩ r' = q
      obtain ⟨qx, qy, qz, qm, qr, qb⟩ := q
      intro HF1 HW1
      have HF2 : Hid (∀ w, Calls Tryz.prog 145 #[.agg #[.float .f64 tx, .float .f64 ty, .float .f64 tz, .float .f64 tm, .int .u8 tr, .bool tb], .int .u8 r'] w fun e w' => e = .returned (.agg #[.float .f64 qx, .float .f64 qy, .float .f64 qz, .float .f64 qm, .int .u8 qr, .bool qb]) ∧ w.grownBy w' none) := HF1
      have HW2 := Lib.hid HW1
      clear HF1 HW1 hti hw ho
      have HC : Hid (∀ w : World, w.ownsRow W.heap.size 71 6 (.slice (some ⟨W.heap.size, 0, none⟩) n n) n xs → (∃ v, w.cell? ⟨W.heap.size, k * 6, none⟩ = some v) ∧ (∃ v, w.cell? ⟨W.heap.size, k * 6 + 1, none⟩ = some v) ∧ (∃ v, w.cell? ⟨W.heap.size, k * 6 + 2, none⟩ = some v) ∧ (∃ v, w.cell? ⟨W.heap.size, k * 6 + 3, none⟩ = some v) ∧ (∃ v, w.cell? ⟨W.heap.size, k * 6 + 4, none⟩ = some v) ∧ (∃ v, w.cell? ⟨W.heap.size, k * 6 + 5, none⟩ = some v) ∧ ∀ j, w.frozen? ⟨W.heap.size, j, none⟩ = false) := fun w ho => by
        have key : ∀ o, o < 6 → ∃ v, w.cell? ⟨W.heap.size, k * 6 + o, none⟩ = some v := fun o h6 => by
          rw [ho.cellAt _ (by omega)]
          exact ⟨_, List.getElem?_eq_getElem (by omega)⟩
        exact ⟨key 0 (by omega), key 1 (by omega), key 2 (by omega), key 3 (by omega), key 4 (by omega), key 5 (by omega), fun j => ho.frozenAt j⟩
      clear hxl
      have HG5 := Lib.hid (World.grownBy_alloc wr (.cells #[.float .f64 tx, .float .f64 ty, .float .f64 tz, .float .f64 tm, .int .u8 tr, .bool tb] 71) none)
      go_wp2_with (first
        | (go_at_call 145; refine (HF2.out _).mono ?_; rintro e w2 ⟨rfl, hg2⟩; have ho2 := HO.out w2 (gt_trans HG5.out hg2 (.inl rfl)); have HO2 := Lib.hid ho2; obtain ⟨⟨v0, x0⟩, ⟨v1, x1⟩, ⟨v2, x2⟩, ⟨v3, x3⟩, ⟨v4, x4⟩, ⟨v5, x5⟩, xf⟩ := HC.out _ ho2; clear ho2; have f0 := xf (k * 6); have f1 := xf (k * 6 + 1); have f2 := xf (k * 6 + 2); have f3 := xf (k * 6 + 3); have f4 := xf (k * 6 + 4); have f5 := xf (k * 6 + 5)))
      refine ⟨⟨k + 1, _, by omega, by go_num, ?_, ((((((HO2.out.stored (k * 6) (.float .f64 qx)).1.stored (k * 6 + 1) (.float .f64 qy)).1.stored (k * 6 + 2) (.float .f64 qz)).1.stored (k * 6 + 3) (.float .f64 qm)).1.stored (k * 6 + 4) (.int .u8 qr)).1.stored (k * 6 + 5) (.bool qb)).1, HW2.out⟩, by simp [intOf]; omega⟩
      have GW := gt_trans (gt_trans Gr HG5.out (.inl rfl)) hg2 (.inl rfl)
      exact HGs.out _ _ _ _ (Nat.le_refl _) (HGs.out _ _ _ _ (Nat.le_refl _) (HGs.out _ _ _ _ (Nat.le_refl _) (HGs.out _ _ _ _ (Nat.le_refl _) (HGs.out _ _ _ _ (Nat.le_refl _) (HGs.out _ _ _ _ (Nat.le_refl _) GW)))))
    · obtain rfl : k = n := by omega
      go_wp2_with fail
      go_wp2_with fail
      go_ret
      exact ⟨_, rfl, hfin.out _ _ Gr hw ho, Nat.le_refl _, Gr⟩


def dimsP : List Pt → Nat
  | [] => 3
  | t :: ts => t.r &&& dimsP ts
theorem dimsP_lt : ∀ ks : List Pt, dimsP ks < 4
  | [] => by decide
  | t :: ts => by
    unfold dimsP
    exact Nat.lt_of_le_of_lt Nat.and_le_right (dimsP_lt ts)
theorem dimsP_snoc : ∀ (ts : List Pt) (t : Pt), dimsP (ts ++ [t]) = dimsP ts &&& t.r
  | [], t => by simp [dimsP, Nat.and_comm]
  | s :: ts, t => by simp only [List.cons_append, dimsP, dimsP_snoc ts t, Nat.and_assoc]
theorem dimsP_take (ps : List Pt) (k : Nat) (t : Pt) (h : ps[k]? = some t) : dimsP (ps.take (k + 1)) = dimsP (ps.take k) &&& t.r := by
  obtain ⟨hlt, rfl⟩ := List.getElem?_eq_some_iff.1 h
  rw [List.take_succ_eq_append_getElem hlt, dimsP_snoc]
theorem and_u8 (a b : Nat) (ha : a < 4) (hb : b < 4) : bits .and .u8 (a : Int) (b : Int) = ((a &&& b : Nat) : Int) := by
  rcases (by omega : a = 0 ∨ a = 1 ∨ a = 2 ∨ a = 3) with rfl | rfl | rfl | rfl <;> rcases (by omega : b = 0 ∨ b = 1 ∨ b = 2 ∨ b = 3) with rfl | rfl | rfl | rfl <;> kernel_rfl
/-- A value that is several points, of type r. -/
def MPIs (W : World) (v : Value) (r : Nat) (ps : List Pt) : Prop := r < 4 ∧ (∀ t ∈ ps, t.Ok) ∧ ∃ p c, v = .agg #[.slice p ps.length c, .int .u8 r] ∧ PR W p ps
theorem MPIs.mono {W W' : World} {v : Value} {r : Nat} {ps : List Pt} (h : MPIs W v r ps) (g : W.grownBy W' none) : MPIs W' v r ps := by
  obtain ⟨h1, h2, p, c, h3, h4⟩ := h
  exact ⟨h1, h2, p, c, h3, h4.mono g⟩
theorem PR.set {W : World} {p : Option Addr} {ps : List Pt} (h : PR W p ps) {q : Addr} (hq : ∀ a, p = some a → a.block ≠ q.block) (y : Value) : PR (W.setCell q y) p ps := by
  refine ⟨h.some_, fun a ha i t hi => ?_⟩
  have key : ∀ (x : Addr) (v : Value), x.block = a.block → W.cell? x = some v → (W.setCell q y).cell? x = some v := fun x v hx hv => by
    rw [World.cell?_setCell_other (h := fun e => by subst e; exact hq a ha hx.symm)]
    exact hv
  obtain ⟨h0, h1, h2, h3, h4, h5⟩ := h.at_ a ha i t hi
  have hb : (a.add (i * 6)).block = a.block := add_block _ _
  exact ⟨key _ _ hb h0, key _ _ hb h1, key _ _ hb h2, key _ _ hb h3, key _ _ hb h4, key _ _ hb h5⟩
theorem mem_force {ps : List Pt} (hok : ∀ t ∈ ps, t.Ok) (r' : Nat) (hr' : r' < 4) : ∀ t ∈ ps.map (fun t => t.force r'), t.Ok := by
  intro t ht
  obtain ⟨s, hs, rfl⟩ := List.mem_map.1 ht
  exact (hok s hs).force r' hr'

set_option maxRecDepth 100000 in
set_option maxHeartbeats 4000000 in
theorem NewMultiPoint_any (p : Option Addr) (ps : List Pt) (n c : Nat) (hpn : ps.length = n) (hn0 : 0 < n) (hn : n ≤ 2000) (hok : ∀ t ∈ ps, t.Ok) (W : World) (hp : PR W p ps) (hpb : ∀ a, p = some a → a.block < W.heap.size) :
    Calls Tryz.prog 63 #[.slice p n c] W fun e w' => ∃ v, e = .returned v ∧ MPIs w' v (dimsP ps) (ps.map fun t => t.force (dimsP ps)) ∧ (∀ pp k cc x, v = .agg #[.slice pp k cc, x] → ∀ a, pp = some a → W.heap.size ≤ a.block) ∧ W.grownBy w' none := by
  have HOK := Lib.hid hok
  have HPR := Lib.hid (fun w (g : W.grownBy w none) => hp.mono g)
  have HGt : Hid (∀ i, i < n → ∃ t, ps[i]? = some t) := fun i hi => ⟨ps[i]'(by omega), List.getElem?_eq_getElem (by omega)⟩
  have HDT := Lib.hid (fun k t (h : ps[k]? = some t) => dimsP_take ps k t h)
  have HDL := Lib.hid (fun k => dimsP_lt (ps.take k))
  have HDE : Hid (dimsP (ps.take n) = dimsP ps) := by rw [← hpn, List.take_length]; rfl
  have HRL : Hid (∀ k (t : Pt), ps[k]? = some t → t.r < 4) := fun k t h => (hok t (List.mem_of_getElem? h)).r
  have HFS := Lib.hid (fun w (g : W.grownBy w none) => forceSlice_any (dimsP ps) (dimsP_lt ps) p ps n c hpn hn hok w (hp.mono g))
  have hb : ((n : Int) == 0) = false := by rw [beq_eq_false_iff_ne]; omega
  have HG := Lib.hid (World.grownBy_alloc W (.cells #[.slice none 0 0, .int .u8 0] 53) none)
  have HC : Hid (∀ w, (W.alloc (.cells #[.slice none 0 0, .int .u8 0] 53)).grownBy w none → w.cell? ⟨W.heap.size, 0, none⟩ = some (.slice none 0 0) ∧ w.cell? ⟨W.heap.size, 1, none⟩ = some (.int .u8 0) ∧ w.frozen? ⟨W.heap.size, 0, none⟩ = false ∧ w.frozen? ⟨W.heap.size, 1, none⟩ = false) := fun w g => by
    have hb := g.block W.heap.size (by simp) (by simp)
    refine ⟨g.cell (by simp) (by simp), g.cell (by simp) (by simp), ?_, ?_⟩ <;> (rw [World.frozen?_of_block hb]; simp)
  have hfin : Hid (∀ (w1 w2 : World) (a : Addr), W.grownBy w1 none → w1.heap.size ≤ a.block → W.heap.size < w1.heap.size → PR w2 (some a) (ps.map fun t => t.force (dimsP ps)) → W.grownBy w2 none → MPIs ((w2.setCell ⟨W.heap.size, 0, none⟩ (.slice (some a) n n)).setCell ⟨W.heap.size, 1, none⟩ (.int .u8 (dimsP ps))) (.agg #[.slice (some a) n n, .int .u8 (dimsP ps)]) (dimsP ps) (ps.map fun t => t.force (dimsP ps)) ∧ W.grownBy ((w2.setCell ⟨W.heap.size, 0, none⟩ (.slice (some a) n n)).setCell ⟨W.heap.size, 1, none⟩ (.int .u8 (dimsP ps))) none) := fun w1 w2 a g1 h1 h2 h3 g2 => by
    have hab : ∀ a', some a = some a' → a'.block ≠ W.heap.size := fun a' e => by injection e with e; subst e; omega
    exact ⟨⟨dimsP_lt ps, mem_force hok _ (dimsP_lt ps), some a, n, by rw [List.length_map, hpn], (h3.set hab _).set hab _⟩, gt_set_r (gt_set_r g2 _ _ (Nat.le_refl _)) _ _ (Nat.le_refl _)⟩
  have hD0 : dimsP (ps.take 0) = 3 := rfl
  obtain ⟨D, hD⟩ : ∃ D : Nat → Nat, D = fun k => dimsP (ps.take k) := ⟨_, rfl⟩
  have hD' : ∀ k, dimsP (ps.take k) = D k := fun k => by rw [hD]
  simp only [hD'] at HDT HDL HDE hD0
  clear hp hok hD hD'
  go_enter Tryz.func63, Tryz.ntmps63
  go_wp2_with fail
  go_loopw [3, 13] (fun x i wr => ∃ k : Nat, k ≤ n ∧ i = .int .i64 k ∧ x = .int .u8 ((D k : Nat) : Int) ∧ (W.alloc (.cells #[.slice none 0 0, .int .u8 0] 53)).grownBy wr none) (fun _ i _ => n - (intOf i).toNat)
  case atStart => exact ⟨0, by omega, rfl, by rw [hD0]; rfl, gt_refl _ _⟩
  case round =>
    obtain ⟨k, hk, rfl, rfl, Gr⟩ := hrel
    rename World => wr
    have Gw := gt_trans HG.out Gr (.inl rfl)
    by_cases hkL : k < n
    · obtain ⟨t, hti⟩ := HGt.out k hkL
      obtain ⟨a, rfl⟩ := (HPR.out _ Gw).some_ (by omega)
      obtain ⟨q0, q1, q2, q3, q4, q5⟩ := (HPR.out _ Gw).at_ a rfl k t hti
      have HD1 := Lib.hid (HDT.out k t hti)
      have hand := and_u8 (D k) t.r (HDL.out k) (HRL.out k t hti)
      clear hti
      obtain ⟨tx, ty, tz, tm, tr, tb⟩ := t
      have hsf := run_store_flt Tryz.prog
      go_wp2_with (first
        | (go_at_call 98; refine (PtCT_any _ _ _ _ _ _ _).mono ?_; rintro e w2 ⟨rfl, hg2⟩))
      exact ⟨⟨k + 1, by omega, by go_num, by rw [HD1.out], gt_trans (gt_alloc_r Gr _) hg2 (.inl rfl)⟩, by simp [intOf]; omega⟩
    · obtain rfl : k = n := by omega
      have hDe := HDE.out
      rw [hDe]
      go_wp2_with fail
      go_wp2_with (first
        | (go_at_call 119; refine (HFS.out _ Gw).mono ?_; rintro e w2 ⟨a, rfl, hpr, hab, hg2⟩; obtain ⟨x0, x1, f0, f1⟩ := HC.out _ (gt_trans Gr hg2 (.inl rfl))))
      refine bodyPost_ret (by simp [results, Tryz.results63, go_sem, x0, x1]; try rfl) rfl ?_
      have hs := Gr.size
      simp at hs
      have hF := hfin.out _ _ _ Gw hab (by omega) hpr (gt_trans Gw hg2 (.inl rfl))
      exact ⟨_, rfl, hF.1, fun pp k cc x e a' ha => by simp at e; obtain ⟨⟨rfl, _⟩, _⟩ := e; injection ha with ha; subst ha; exact Nat.le_trans Gw.size hab, hF.2⟩
end Go.Proofs.YthcjnadceambgaaGreatDoor
