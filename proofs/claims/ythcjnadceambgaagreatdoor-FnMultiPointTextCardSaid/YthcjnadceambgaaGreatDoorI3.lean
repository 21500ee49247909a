/- The package's text of points and of several points. -/
import Derived.Test.YthcjnadceambgaaGreatDoorI1
import Derived.Test.YthcjnadceambgaaGreatDoorE3
import Derived.Test.YthcjnadceambgaaGreatDoorF2
namespace Go.Proofs.YthcjnadceambgaaGreatDoor
open Go.RowKit

noncomputable def ptB (T : Nat → Int) (c : UInt8) (t : Pt) : List UInt8 := if t.b = true then [40] ++ wktPl T t.x t.y t.z t.m t.r ++ [41] else wE c
theorem ptB_len (T : Nat → Int) (c : UInt8) (t : Pt) : (ptB T c t).length ≤ 16010 := by
  have h1 := wktPl_len T t.x t.y t.z t.m t.r
  have h2 := wE_len c
  unfold ptB
  split
  · simp only [List.length_append, List.length_cons, List.length_nil]; omega
  · omega

set_option maxRecDepth 100000 in
set_option maxHeartbeats 2000000 in
theorem PtBody_any (T : Nat → Int) (hT : ∀ i, U64 (T i)) (x y z m r : Nat) (b : Bool) (hok : Pt.Ok ⟨x, y, z, m, r, b⟩) (l' : List UInt8) (c : UInt8)
    (base : Nat) (v : Value) (l : List UInt8) (hl' : l = l' ++ [c]) (W : World) (hown : W.ownsRow base 5 1 v l.length (Bs l)) (hbase : base ≤ W.heap.size) (hl : l.length ≤ 35000000000000) (ht : Tabs T W) (hg3 : 3 < base) (hg2 : 2 < base) :
    Calls Tryz.prog 121 #[.agg #[.float .f64 x, .float .f64 y, .float .f64 z, .float .f64 m, .int .u8 r, .bool b], v] W (AppEnd 5 base W v (l ++ ptB T c ⟨x, y, z, m, r, b⟩)) := by
  have HG := Lib.hid (World.grownBy_alloc W (.cells #[.float .f64 x, .float .f64 y, .float .f64 z, .float .f64 m, .int .u8 r, .bool b] 71) none)
  have HO := Lib.hid hown
  have hfin : Hid (∀ s W1 W' v', W.grownBy W1 none → AppB 5 base W1 v W' v' s → AppEnd 5 base W v s (.returned v') W') := fun s W1 W' v' g h => ⟨v', rfl, AppB.later HO.out g h⟩
  have HB := Lib.hid (Nat.le_trans hbase HG.out.size)
  obtain ⟨hx, hy, hz, hm, hr⟩ := hok
  cases b
  · have e : ptB T c ⟨x, y, z, m, r, false⟩ = wE c := by unfold ptB; rw [if_neg (by simp)]
    rw [e]
    have HE := Lib.hid (fun w (h : w.ownsRow base 5 1 v l.length (Bs l)) (hb : base ≤ w.heap.size) => appendWKTEmpty_any l' c base v l hl' w h hb hl)
    clear e hx hy hz hm ht hown
    go_enter Tryz.func121, Tryz.ntmps121
    go_wp2_with (first
      | (go_at_call 120; refine (HE.out _ (own_later HO.out HG.out) HB.out).mono ?_; rintro e w2 ⟨v', rfl, H⟩))
    go_ret
    exact hfin.out _ _ _ _ HG.out H
  · have e : ptB T c ⟨x, y, z, m, r, true⟩ = par true 40 ++ wktPl T x y z m r ++ par true 41 := by unfold ptB; rw [if_pos rfl]; rfl
    rw [e]
    have HS := Lib.hid (fun w (h : w.ownsRow base 5 1 v l.length (Bs l)) (hb : base ≤ w.heap.size) (ht : Tabs T w) => appendWKTCoords_any T hT x y z m r r rfl true hx hy hz hm hr base v l w h hb (Nat.le_trans hl (by decide)) ht hg3 hg2)
    have HT := Lib.hid (ht.mono HG.out (by simp) (by simp))
    clear e hx hy hz hm ht hown
    go_enter Tryz.func121, Tryz.ntmps121
    go_wp2_with (first
      | (go_at_call 146; refine (HS.out _ (own_later HO.out HG.out) HB.out HT.out).mono ?_; rintro e w2 ⟨v', rfl, H⟩))
    go_ret
    exact hfin.out _ _ _ _ HG.out H

/-- A row of points in memory. -/
structure PR (W : World) (p : Option Addr) (ps : List Pt) : Prop where
  some_ : 0 < ps.length → ∃ a, p = some a
  at_ : ∀ a, p = some a → ∀ i t, ps[i]? = some t → W.cell? (a.add (i * 6)) = some (.float .f64 t.x) ∧ W.cell? ⟨(a.add (i * 6)).block, (a.add (i * 6)).off + 1, none⟩ = some (.float .f64 t.y) ∧ W.cell? ⟨(a.add (i * 6)).block, (a.add (i * 6)).off + 2, none⟩ = some (.float .f64 t.z) ∧ W.cell? ⟨(a.add (i * 6)).block, (a.add (i * 6)).off + 3, none⟩ = some (.float .f64 t.m) ∧ W.cell? ⟨(a.add (i * 6)).block, (a.add (i * 6)).off + 4, none⟩ = some (.int .u8 t.r) ∧ W.cell? ⟨(a.add (i * 6)).block, (a.add (i * 6)).off + 5, none⟩ = some (.bool t.b)
theorem PR.mono {W W' : World} {p : Option Addr} {ps : List Pt} (h : PR W p ps) (g : W.grownBy W' none) : PR W' p ps :=
  ⟨h.some_, fun a ha i t hi => by
    obtain ⟨h0, h1, h2, h3, h4, h5⟩ := h.at_ a ha i t hi
    exact ⟨g.cell h0 (by simp), g.cell h1 (by simp), g.cell h2 (by simp), g.cell h3 (by simp), g.cell h4 (by simp), g.cell h5 (by simp)⟩⟩

def nMP : List UInt8 := [77, 85, 76, 84, 73, 80, 79, 73, 78, 84]
noncomputable def mpW (T : Nat → Int) (r : Nat) (ps : List Pt) : List UInt8 := nMP ++ tag r ++ (if ps.length = 0 then wE (if r = 0 then 84 else 32) else [40] ++ joinC (ps.map (ptB T 40)) ++ [41])
/-- The texts of the first k points. -/
noncomputable def ptTo (T : Nat → Int) (ps : List Pt) : Nat → List UInt8 := cTo (fun i => (ps.map (ptB T 40)).getD i [])
theorem ptTo_len (T : Nat → Int) (ps : List Pt) : ∀ k, (ptTo T ps k).length ≤ k * 16011
  | 0 => by simp [ptTo, cTo]
  | k + 1 => by
    have h1 := ptTo_len T ps k
    have h2 : ((ps.map (ptB T 40)).getD k []).length ≤ 16010 := by
      rw [List.getD_eq_getElem?_getD, List.getElem?_map]
      cases h : ps[k]? with
      | none => simp
      | some t => simpa using ptB_len T 40 t
    show (cTo _ k ++ _ ++ _).length ≤ _
    have h3 : (if 0 < k then [(44 : UInt8)] else []).length ≤ 1 := by split <;> simp
    unfold ptTo at h1
    simp only [List.length_append]
    omega

set_option maxRecDepth 100000 in
set_option maxHeartbeats 400000 in
theorem MPCT_any (r n c : Nat) (p : Option Addr) (W : World) : Calls Tryz.prog 104 #[.agg #[.slice p n c, .int .u8 r]] W fun e w' => e = .returned (.int .u8 r) ∧ W.grownBy w' none := by
  go_enter Tryz.func104, Tryz.ntmps104
  go_wp2_with fail
  go_ret
  exact ⟨rfl, World.grownBy_alloc _ _ _⟩

set_option maxRecDepth 100000 in
set_option maxHeartbeats 4000000 in
theorem MPAppendWKT_nil (T : Nat → Int) (hT : ∀ i, U64 (T i)) (r n c : Nat) (hr : r < 4) (p : Option Addr) (ps : List Pt) (hpn : ps.length = n) (W : World) (hp : PR W p ps) (hok : ∀ t ∈ ps, t.Ok) (hn : n ≤ 2000) (ht : Tabs T W) :
    Calls Tryz.prog 64 #[.agg #[.slice p n c, .int .u8 r], .slice none 0 0] W (AppEnd 5 W.heap.size W (.slice none 0 0) (mpW T r ps)) := by
  have hg3 := ht.lt3
  have hg2 := ht.lt2
  have HG := Lib.hid (World.grownBy_alloc W (.cells #[.slice p n c, .int .u8 r] 53) none)
  have HC : Hid (∀ W', (W.alloc (.cells #[.slice p n c, .int .u8 r] 53)).grownBy W' none → W'.cell? ⟨W.heap.size, 0, none⟩ = some (.slice p n c) ∧ W'.cell? ⟨W.heap.size, 1, none⟩ = some (.int .u8 r)) := fun W' g => ⟨g.cell (by simp) (by simp), g.cell (by simp) (by simp)⟩
  have HCT := Lib.hid (fun w => MPCT_any r n c p w)
  have HH := Lib.hid (fun w (h : w.ownsRow W.heap.size 5 1 (.slice none 0 0) ([] : List UInt8).length (Bs [])) (hb : W.heap.size ≤ w.heap.size) => appendWKTHeader_any nMP r hr (by decide) W.heap.size (.slice none 0 0) [] w h hb (by simp))
  obtain ⟨l', hl'⟩ := tag_last [77, 85, 76, 84, 73, 80, 79, 73, 78] 84 r hr
  have htl := tag_len r
  have HE := Lib.hid (fun w v (h : w.ownsRow W.heap.size 5 1 v (nMP ++ tag r).length (Bs (nMP ++ tag r))) (hb : W.heap.size ≤ w.heap.size) => appendWKTEmpty_any l' (if r = 0 then 84 else 32) W.heap.size v (nMP ++ tag r) hl' w h hb (by simp only [nMP, List.length_append, List.length_cons, List.length_nil]; omega))
  have HT := Lib.hid (fun w (g : W.grownBy w none) => ht.mono g (by simp) (by simp))
  have HP := Lib.hid (fun w (g : W.grownBy w none) => hp.mono g)
  have HBd := Lib.hid (fun (i : Nat) (t : Pt) (hi : ps[i]? = some t) (l' : List UInt8) (cc : UInt8) v w (h : w.ownsRow W.heap.size 5 1 v (l' ++ [cc]).length (Bs (l' ++ [cc]))) (hb : W.heap.size ≤ w.heap.size) (hl : (l' ++ [cc]).length ≤ 35000000000000) (ht : Tabs T w) => PtBody_any T hT t.x t.y t.z t.m t.r t.b (hok t (List.mem_of_getElem? hi)) l' cc W.heap.size v _ rfl w h hb hl ht hg3 hg2)
  have HGt : Hid (∀ i, i < n → ∃ t, ps[i]? = some t) := fun i hi => ⟨ps[i]'(by omega), List.getElem?_eq_getElem (by omega)⟩
  have hfin : Hid (∀ s W1 W' v', W.grownBy W1 none → AppB 5 W.heap.size W1 (.slice none 0 0) W' v' s → AppEnd 5 W.heap.size W (.slice none 0 0) s (.returned v') W') := fun s W1 W' v' g h => ⟨v', rfl, AppB.later (l := []) (World.ownsRow_nil _ _ _ _) g h⟩
  have HSL := Lib.hid (fun k => ptTo_len T ps k)
  have HSQ : Hid (∀ k t, ps[k]? = some t → ptTo T ps (k + 1) = ptTo T ps k ++ (if 0 < k then [44] else []) ++ ptB T 40 t) := fun k t hk => by
    show cTo _ k ++ _ ++ (ps.map (ptB T 40)).getD k [] = _
    rw [List.getD_eq_getElem?_getD, List.getElem?_map, hk]; rfl
  have hE4 : Hid (∀ t, ptB T 44 t = ptB T 40 t) := fun t => by unfold ptB; have : wE 44 = wE 40 := rfl; rw [this]
  by_cases hn0 : n = 0
  · have e : mpW T r ps = nMP ++ tag r ++ wE (if r = 0 then 84 else 32) := by unfold mpW; rw [if_pos (by omega)]
    rw [e]
    have hb : ((n : Int) == 0) = true := by rw [hn0]; rfl
    clear e hp ht hn0
    generalize (if r = 0 then (84 : UInt8) else 32) = cc at HE ⊢
    generalize wE cc = LB at HE ⊢
    generalize tag r = tg at HH HE ⊢ htl
    clear hl'
    go_enter Tryz.func64, Tryz.ntmps64
    go_wp2_with (first
      | (go_at_call 104; refine (HCT.out _).mono ?_; rintro e w' ⟨rfl, hg⟩; have G := gt_trans HG.out hg (.inl rfl); obtain ⟨k0, k1⟩ := HC.out _ hg)
      | (go_at_call 116; refine (HH.out _ (World.ownsRow_nil _ _ _ _) G.size).mono ?_; rintro e w2 ⟨v', rfl, H⟩; clear k0 k1; obtain ⟨k0, k1⟩ := HC.out _ (gt_trans hg H.grown (.inl rfl)); have G2 := gt_trans G H.grown (.inl rfl))
      | (go_at_call 120; refine (HE.out _ _ H.own G2.size).mono ?_; rintro e w3 ⟨v3, rfl, H3⟩; have H4 := H.trans H3))
    go_ret
    exact hfin.out _ _ _ _ G H4
  · have e : mpW T r ps = nMP ++ tag r ++ ([40] ++ ptTo T ps n ++ [41]) := by unfold mpW; rw [if_neg (by omega)]; unfold joinC ptTo; rw [List.length_map, hpn]
    rw [e]
    have hb : ((n : Int) == 0) = false := by rw [beq_eq_false_iff_ne]; omega
    have hh : Hid ((nMP ++ tag r).length ≤ 20) := by
      show (nMP ++ tag r).length ≤ 20
      simp only [nMP, List.length_append, List.length_cons, List.length_nil]; omega
    have hS0 : ptTo T ps 0 = [] := rfl
    obtain ⟨S, hS⟩ : ∃ S : Nat → List UInt8, S = ptTo T ps := ⟨_, rfl⟩
    rw [← hS] at HSL HSQ hS0 ⊢
    clear e hp ht hn0 HE hS
    generalize hd : nMP ++ tag r = HD at HH hh ⊢
    have HD1 : Hid (([] : List UInt8) ++ HD = HD) := List.nil_append _
    clear hl' htl hd
    have hsf := run_store_flt Tryz.prog
    go_enter Tryz.func64, Tryz.ntmps64
    go_wp2_with (first
      | (go_at_call 104; refine (HCT.out _).mono ?_; rintro e w' ⟨rfl, hg⟩; have G := gt_trans HG.out hg (.inl rfl); obtain ⟨k0, k1⟩ := HC.out _ hg)
      | (go_at_call 116; refine (HH.out _ (World.ownsRow_nil _ _ _ _) G.size).mono ?_; rintro e w2 ⟨v', rfl, H⟩; rw [HD1.out] at H; have hh2 := hh.out; clear k0 k1; obtain ⟨k0, k1⟩ := HC.out _ (gt_trans hg H.grown (.inl rfl)))
      | (at_builtin; refine app_byte rfl _ _ _ rfl Tryz.underlying33 infoB H rfl _ 40 rfl rfl (by first | rfl | simp) G.size (by (try simp only [List.length_append, List.length_cons, List.length_nil]); omega) ?_; intro v1 w1 H1; clear H; have H := H1; clear H1; clear k0 k1; obtain ⟨k0, k1⟩ := HC.out _ (gt_trans hg H.grown (.inl rfl))))
    go_loopw [1, 23] (fun x i wr => ∃ k : Nat, k ≤ n ∧ i = .int .i64 k ∧ AppB 5 W.heap.size w' (.slice none 0 0) wr x (HD ++ [40] ++ S k)) (fun _ i _ => n - (intOf i).toNat)
    case atStart => exact ⟨0, by omega, rfl, by rw [hS0, List.append_nil]; exact H⟩
    case round =>
      clear H
      obtain ⟨k, hk, rfl, H⟩ := hrel
      rename World => wr
      have hsl := HSL.out k
      have hsl2 : (S k).length ≤ 64024000 := by omega
      have hh2 := hh.out
      clear hsl
      have Gr := gt_trans G H.grown (.inl rfl)
      by_cases hkL : k < n
      · obtain ⟨t, hti⟩ := HGt.out k hkL
        obtain ⟨a, rfl⟩ := (HP.out _ Gr).some_ (by omega)
        obtain ⟨q0, q1, q2, q3, q4, q5⟩ := (HP.out _ Gr).at_ a rfl k t hti
        have HB1 := Lib.hid (HBd.out k t hti)
        have HQ := Lib.hid (HSQ.out k t hti)
        have HE4 := Lib.hid (hE4.out t)
        have HTr := Lib.hid (HT.out)
        clear hti
        obtain ⟨tx, ty, tz, tm, tr, tb⟩ := t
        by_cases hk0 : 0 < k
        · have e : S (k + 1) = S k ++ [44] ++ ptB T 40 ⟨tx, ty, tz, tm, tr, tb⟩ := by rw [HQ.out, if_pos hk0]
          have hk0i : (0 : Int) < (k : Int) := by omega
          have hlt := H.own.lt
          go_wp2_with (first
            | (at_builtin; refine app_byte rfl _ _ _ rfl Tryz.underlying33 infoB (AppB.start (H.own.alloc _)) rfl _ 44 rfl rfl (by first | rfl | simp) (by have := H.based G.size; simp; omega) (by (try simp only [List.length_append, List.length_cons, List.length_nil]); omega) ?_; intro v1 w1 H1; have z0 : w1.cell? ⟨wr.heap.size, 0, none⟩ = some (.float .f64 tx) := by { rw [H1.cell (by simp) (fun e => Nat.lt_irrefl wr.heap.size (hlt _ e).2)]; simp }; have z1 : w1.cell? ⟨wr.heap.size, 1, none⟩ = some (.float .f64 ty) := by { rw [H1.cell (by simp) (fun e => Nat.lt_irrefl wr.heap.size (hlt _ e).2)]; simp }; have z2 : w1.cell? ⟨wr.heap.size, 2, none⟩ = some (.float .f64 tz) := by { rw [H1.cell (by simp) (fun e => Nat.lt_irrefl wr.heap.size (hlt _ e).2)]; simp }; have z3 : w1.cell? ⟨wr.heap.size, 3, none⟩ = some (.float .f64 tm) := by { rw [H1.cell (by simp) (fun e => Nat.lt_irrefl wr.heap.size (hlt _ e).2)]; simp }; have z4 : w1.cell? ⟨wr.heap.size, 4, none⟩ = some (.int .u8 tr) := by { rw [H1.cell (by simp) (fun e => Nat.lt_irrefl wr.heap.size (hlt _ e).2)]; simp }; have z5 : w1.cell? ⟨wr.heap.size, 5, none⟩ = some (.bool tb) := by { rw [H1.cell (by simp) (fun e => Nat.lt_irrefl wr.heap.size (hlt _ e).2)]; simp }; have H2 := (H.beside (World.grownBy_alloc _ _ _)).trans H1; clear H H1; have H := H2; clear H2)
            | (go_at_call 121; refine (HB1.out _ 44 _ _ H.own (H.based G.size) (by (try simp only [List.length_append, List.length_cons, List.length_nil]); omega) (HTr.out _ (gt_trans G H.grown (.inl rfl)))).mono ?_; rintro e w' ⟨v', rfl, H'⟩; have H1 := H.trans H'; clear H H'; have H := H1; clear H1))
          exact ⟨⟨k + 1, by omega, by go_num, by rw [e]; rw [HE4.out] at H; simpa only [List.append_assoc] using H⟩, by simp [intOf]; omega⟩
        · have hk00 : k = 0 := by omega
          have hSk : S k = [] := by rw [hk00]; exact hS0
          have e : S (k + 1) = ptB T 40 ⟨tx, ty, tz, tm, tr, tb⟩ := by rw [HQ.out, if_neg hk0, hSk]; rfl
          rw [hSk, List.append_nil] at H
          have hk0i : ¬ (0 : Int) < (k : Int) := by omega
          clear hk00 hSk
          go_wp2_with (first
            | (go_at_call 121; refine (HB1.out _ 40 _ _ (H.beside (World.grownBy_alloc _ _ _)).own ((H.beside (World.grownBy_alloc _ _ _)).based G.size) (by (try simp only [List.length_append, List.length_cons, List.length_nil]); omega) (HTr.out _ (gt_trans G (H.beside (World.grownBy_alloc _ _ _)).grown (.inl rfl)))).mono ?_; rintro e w' ⟨v', rfl, H'⟩; have H1 := (H.beside (World.grownBy_alloc _ _ _)).trans H'; clear H H'; have H := H1; clear H1))
          exact ⟨⟨k + 1, by omega, by go_num, by rw [e]; simpa only [List.append_assoc] using H⟩, by simp [intOf]; omega⟩
      · obtain rfl : k = n := by omega
        go_wp2_with (first
          | (at_builtin; refine app_byte rfl _ _ _ rfl Tryz.underlying33 infoB H rfl _ 41 rfl rfl (by first | rfl | simp) G.size (by (try simp only [List.length_append, List.length_cons, List.length_nil]); omega) ?_; intro v1 w1 H1; clear H; have H := H1; clear H1))
        go_ret
        have e2 : HD ++ 40 :: (S k ++ [41]) = HD ++ [40] ++ S k ++ [41] := by simp
        rw [e2]
        exact hfin.out _ _ w1 v1 G H
end Go.Proofs.YthcjnadceambgaaGreatDoor
