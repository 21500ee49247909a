/- The package's reader of well known binary: polygons. The package's reader of well known binary: a geometry, whatever the bytes, of what its parts do. The package's reader of well known binary: what is read on the way of few bytes is small. The package's reader of well known binary: a row of points that grows. The package's reader of well known binary: several points. -/
import Derived.Test.YtlpaecafpbbbkaaGreatDoorBCT18
import Derived.Test.YtlpaecafpbbbkaaGreatDoorBCT19
import Derived.Test.YtlpaecafpbbbkaaGreatDoorBCT21
import Derived.Test.YtlpaecafpbbbkaaGreatDoorBCT22
import Derived.Test.YtlpaecafpbbbkaaGreatDoorBCT26
set_option linter.unusedVariables false
set_option linter.unusedSimpArgs false
namespace Go.Proofs.YtlpaecafpbbbkaaGreatDoor
open Go.RowKit

def zPg : Value := .agg #[.slice none 0 0, .int .u8 0]
def rdPg (r : Nat) (big : Bool) (l : List UInt8) : Rd Raw := (rdC big l).bind fun n l2 => (rdL (rdLine r big) n l2).bind fun ts l3 => .ok (.mk 3 r 0 (fun _ => 0) ts) l3
set_option maxRecDepth 100000 in
set_option maxHeartbeats 1000000 in
theorem parsePg_short (V W : World) (pb r o : Nat) (no : Bool) (l : List UInt8) (hl : l.length < 4) (h : WP V W pb l o no) : Calls Tryz.prog 201 #[.pointer (some ⟨pb, 0, none⟩), .int .u8 r] W fun e w' => (∃ ty x, e = .returned (.tuple #[zPg, .iface ty x])) ∧ W.grownBy w' (some pb) := by
  have hpb := h.lt
  have HU := Lib.hid (parseU32_bad V _ pb o no l hl (h.kept (World.grownBy_alloc W (.cells #[.slice none 0 0, .int .u8 0] 97) none)))
  have HG := Lib.hid (gt_some (World.grownBy_alloc W (.cells #[.slice none 0 0, .int .u8 0] 97) none) pb)
  have HC : Hid (∀ w, (W.alloc (.cells #[.slice none 0 0, .int .u8 0] 97)).grownBy w (some pb) → w.cell? ⟨W.heap.size, 0, none⟩ = some (.slice none 0 0) ∧ w.cell? ⟨W.heap.size, 1, none⟩ = some (.int .u8 0) ∧ ∀ j, w.frozen? ⟨W.heap.size, j, none⟩ = false) := fun w g => by
    have hn : some W.heap.size ≠ some pb := fun e => by injection e with e; omega
    have hb := g.block W.heap.size (by simp) hn
    exact ⟨g.cell (by simp) hn, g.cell (by simp) hn, fun j => by rw [World.frozen?_of_block hb]; simp⟩
  clear h
  unfold zPg
  go_enter Tryz.func201, Tryz.ntmps201
  go_wp2_with (first
    | (go_at_call 198; refine HU.out.mono ?_; rintro e w1 ⟨⟨ty, x, rfl⟩, hg1⟩; obtain ⟨r0, r1, rf⟩ := HC.out _ hg1; have rf0 := rf 0; have rf1 := rf 1))
  refine bodyPost_ret (by simp [results, Tryz.results201, go_sem, r0, r1]; try rfl) rfl ?_
  exact ⟨⟨_, _, rfl⟩, gt_set_r (gt_set_r (gt_trans HG.out hg1 (.inl rfl)) _ _ (Nat.le_refl _)) _ _ (Nat.le_refl _)⟩

set_option maxRecDepth 100000 in
set_option maxHeartbeats 8000000 in
theorem parsePg_some (V W : World) (pb r n : Nat) (big : Bool) (l : List UInt8) (hr : r < 4) (hl : 4 ≤ l.length) (hn : numL big (l.take 4) = n) (hn0 : 0 < n) (hn2 : n ≤ 4096) (hG : rdL (rdLine r big) n (l.drop 4) ≠ .bad true)
    (hS : ∀ ts l', rdL (rdLine r big) n (l.drop 4) = .ok ts l' → wt (.mk 3 (r : Nat) 0 (fun _ => 0) ts) ≤ 2000) (h : WP V W pb l (if big = true then 0 else 1) (!big)) :
    Calls Tryz.prog 201 #[.pointer (some ⟨pb, 0, none⟩), .int .u8 r] W (PrPost DPg zPg V W pb big ((rdL (rdLine r big) n (l.drop 4)).bind fun ts l3 => .ok (.mk 3 r 0 (fun _ => 0) ts) l3)) := by
  have hpb := h.lt
  have HU := Lib.hid (parseU32_ok V _ pb big (!big) l hl (h.kept (World.grownBy_alloc W (.cells #[.slice none 0 0, .int .u8 0] 97) none)))
  rw [hn] at HU
  have HG := Lib.hid (gt_some (World.grownBy_alloc W (.cells #[.slice none 0 0, .int .u8 0] 97) none) pb)
  have HC : Hid (∀ w, (W.alloc (.cells #[.slice none 0 0, .int .u8 0] 97)).grownBy w (some pb) → w.cell? ⟨W.heap.size, 0, none⟩ = some (.slice none 0 0) ∧ w.cell? ⟨W.heap.size, 1, none⟩ = some (.int .u8 0) ∧ ∀ j, w.frozen? ⟨W.heap.size, j, none⟩ = false) := fun w g => by
    have hn : some W.heap.size ≠ some pb := fun e => by injection e with e; omega
    have hb := g.block W.heap.size (by simp) hn
    exact ⟨g.cell (by simp) hn, g.cell (by simp) hn, fun j => by rw [World.frozen?_of_block hb]; simp⟩
  obtain ⟨i0, hi, hzz⟩ := Option.map_eq_some_iff.1 infoPg
  simp only [Prod.mk.injEq] at hzz
  have HI := Lib.hid hzz
  have hnb : ((n : Int) == 0) = false := by rw [beq_eq_false_iff_ne]; omega
  have HSt := Lib.hid (Rest.start (rdLine r big) n (l.drop 4))
  have HLS : Hid (∀ w lk, rdLine r big lk ≠ .bad true → WP V w pb lk (if big = true then 0 else 1) (!big) → Calls Tryz.prog 200 #[.pointer (some ⟨pb, 0, none⟩), .int .u8 r] w (PrPost DLine zLine V w pb big (rdLine r big lk))) := fun w lk hb hw => parseLS_any V w pb r big lk hr hb hw
  have HGd := Lib.hid hG
  have HSz := Lib.hid hS
  have HVW : Hid (V.heap.size ≤ W.heap.size) := h.g.size
  have HU0 : Hid (∀ w1, (W.alloc (.cells #[.slice none 0 0, .int .u8 0] 97)).grownBy w1 (some pb) → pb < w1.heap.size ∧ W.heap.size < w1.heap.size) := fun w1 g => by have h1 := g.size; simp at h1; omega
  have HPut : Hid (∀ (wr w2 : World) (base k : Nat) (cs : List Value) (ts : List Raw) (t : Raw) (c0 c1 : Value), k < n → pb < base → ts.length = k → RowS DLine 93 base (fun _ => False) wr (.slice (some ⟨base, 0, none⟩) n n) n (fun i => if i < k then (newTs ts)[i]? else none) cs → wr.grownBy w2 (some pb) → DLine (Fr wr w2) w2 (.agg #[c0, c1]) (newT t) →
      RowS DLine 93 base (fun _ => False) ((w2.setCell ⟨base, k * 2, none⟩ c0).setCell ⟨base, k * 2 + 1, none⟩ c1) (.slice (some ⟨base, 0, none⟩) n n) n (fun i => if i < k + 1 then (newTs (ts ++ [t]))[i]? else none) ((cs.set (k * 2) c0).set (k * 2 + 1) c1)) := fun wr w2 base k cs ts t c0 c1 hk hpb2 hts h g hd => by
    have hlt : base < wr.heap.size := (h.1.lt _ rfl).2
    have hlen : (newTs ts).length = k := by rw [news_len, hts]
    refine (RowS.put DLine.dk (h.keptR DLine.dk g hpb2) k hk (DLine.dk.weak (fun b hb => ?_) hd)).sel (fun i t' hi => ?_)
    · exact ⟨.inr ⟨by have := hb.1; omega, hb.2⟩, fun e => by have := hb.1; omega⟩
    · show (if i = k then some (newT t) else if i < k then _ else none) = some t'
      have hi' : (if i < k + 1 then (newTs (ts ++ [t]))[i]? else none) = some t' := hi
      rw [newTs_append] at hi'
      by_cases hik : i = k
      · subst hik
        rw [if_pos (by omega), List.getElem?_append_right (by omega), hlen, Nat.sub_self] at hi'
        rw [if_pos rfl]; exact hi'
      · rw [if_neg hik]
        by_cases hl : i < k
        · rw [if_pos (by omega), List.getElem?_append_left (by omega)] at hi'; rw [if_pos hl]; exact hi'
        · rw [if_neg (by omega)] at hi'; cases hi'
  have HCell : Hid (∀ (w : World) (base m k : Nat) (cs : List Value) (s : Nat → Option Raw), k < m → pb < base → RowS DLine 93 base (fun _ => False) w (.slice (some ⟨base, 0, none⟩) m m) m s cs → (∃ v, w.cell? ⟨base, k * 2, none⟩ = some v) ∧ (∃ v, w.cell? ⟨base, k * 2 + 1, none⟩ = some v) ∧ ∀ j, w.frozen? ⟨base, j, none⟩ = false) := fun w base m k cs s hk _ h => by
    have hl : cs.length = m * 2 := h.1.1
    have key : ∀ o, o < 2 → ∃ v, w.cell? ⟨base, k * 2 + o, none⟩ = some v := fun o h6 => by
      rw [h.1.cellAt _ (by omega)]
      exact ⟨_, List.getElem?_eq_getElem (by omega)⟩
    exact ⟨key 0 (by omega), key 1 (by omega), fun j => h.1.frozenAt j⟩
  generalize hl2 : l.drop 4 = l2 at HU HSt HGd HSz ⊢
  clear h hl hn hzz hG hS hl2
  unfold zPg
  go_enter Tryz.func201, Tryz.ntmps201
  go_wp2_with (first
    | (go_at_call 198; refine HU.out.mono ?_; rintro e w1 ⟨rfl, hw1, hg1⟩; have HW1 := Lib.hid hw1; clear hw1)
    | (at_make; (refine wpList_make_full _ rfl _ _ _ rfl w1.heap.size 93 i0 (.agg #[.int .u8 0, .slice none 0 0]) 2 Tryz.underlying95 hi HI.out.1 HI.out.2.1 .u32 .u32 _ _ n rfl rfl rfl rfl (by rw [HI.out.2.2]; omega) (by unfold maxLen; omega) (by simp) ?_; intro w2 hown hg2)))
  obtain ⟨hpb1, hrb1⟩ := HU0.out w1 hg1
  obtain ⟨base, hbase⟩ : ∃ base, base = w1.heap.size := ⟨_, rfl⟩
  rw [← hbase] at hown hpb1 hrb1 ⊢
  obtain ⟨xs0, hxs0⟩ : ∃ xs0, xs0 = (madeCells (Value.cells (.agg #[.int .u8 0, .slice none 0 0])) (n * 2)).toList := ⟨_, rfl⟩
  rw [← hxs0] at hown
  have Hb := Lib.hid hbase
  clear hxs0 hbase
  have G2 := gt_trans hg1 hg2 (.inr (.inl rfl))
  have HVb : Hid (V.heap.size ≤ base) := Lib.hid (by have := HVW.out; omega)
  go_loopw [28] (fun i wr => ∃ (k : Nat) (cs : List Value) (lk : List UInt8) (ts : List Raw), k ≤ n ∧ i = .int .i64 k ∧ (W.alloc (.cells #[.slice none 0 0, .int .u8 0] 97)).grownBy wr (some pb) ∧ WP V wr pb lk (if big = true then 0 else 1) (!big) ∧ RowS DLine 93 base (fun _ => False) wr (.slice (some ⟨base, 0, none⟩) n n) n (fun i => if i < k then (newTs ts)[i]? else none) cs ∧ Rest (rdLine r big) n l2 k lk ts ∧ okKs 3 ts = true) (fun i _ => n - (intOf i).toNat)
  case atStart => exact ⟨0, xs0, l2, [], by omega, rfl, G2, HW1.out.kept hg2, ⟨hown, fun i t h => absurd h (by simp)⟩, HSt.out, rfl⟩
  case round =>
    clear hown
    obtain ⟨k, cs, lk, ts, hk, rfl, Gr, hw, hrow, hrest, hoks⟩ := hrel
    rename World => wr
    by_cases hkL : k < n
    · have hlg : rdLine r big lk ≠ .bad true := fun e => HGd.out (hrest.bad hkL e)
      have HLk := Lib.hid (HLS.out wr lk hlg hw)
      have HCel := Lib.hid (fun w2 (g : wr.grownBy w2 (some pb)) => HCell.out w2 base n k cs _ hkL hpb1 (hrow.keptR DLine.dk g hpb1))
      have HPut1 := Lib.hid (fun w2 t c0 c1 => HPut.out wr w2 base k cs ts t c0 c1 hkL hpb1 hrest.1 hrow)
      have HNx := Lib.hid (fun t l' (e : rdLine r big lk = .ok t l') => hrest.next hkL e)
      have HBd := Lib.hid (fun g (e : rdLine r big lk = .bad g) => hrest.bad hkL e)
      have HOk := Lib.hid hoks
      have HKd := Lib.hid (fun t l' (e : rdLine r big lk = .ok t l') => rdLine_kind e)
      clear hrow hrest hoks hlg hw
      cases hF : rdLine r big lk with
      | bad g =>
        rw [hF] at HLk
        go_wp2_with (first
          | (go_at_call 200; refine HLk.out.mono ?_; rintro e w2 ⟨hg2, ty, x, rfl⟩; unfold zLine; obtain ⟨⟨v0, x0⟩, ⟨v1, x1⟩, xf⟩ := HCel.out _ hg2; have f0 := xf (k * 2); have f1 := xf (k * 2 + 1); have GG := gt_trans Gr hg2 (.inl rfl); obtain ⟨r0, r1, rf⟩ := HC.out _ GG; have rf0 := rf 0; have rf1 := rf 1))
        have hb0 : (W.alloc (.cells #[.slice none 0 0, .int .u8 0] 97)).heap.size ≤ base := by simp; omega
        have GGs := gt_set_r (gt_set_r GG ⟨base, k * 2, none⟩ (.int .u8 0) hb0) ⟨base, k * 2 + 1, none⟩ (.slice none 0 0) hb0
        obtain ⟨s0, s1, _⟩ := HC.out _ GGs
        refine bodyPost_ret (by simp [results, Tryz.results201, go_sem, s0, s1]; try rfl) rfl ?_
        exact PrPost.bad (gt_set_r (gt_set_r (gt_trans HG.out GGs (.inl rfl)) _ _ (Nat.le_refl _)) _ _ (Nat.le_refl _)) (fun t l' e => by rw [HBd.out g hF] at e; cases e)
      | ok t l' =>
        rw [hF] at HLk
        go_wp2_with (first
          | (go_at_call 200; refine HLk.out.mono ?_; rintro e w2 hpp; obtain ⟨v2, rfl, hd2, hw2, hg2⟩ := hpp.get (HKd.out _ _ hF).2; clear hpp; obtain ⟨er, ep, en, ec, rfl⟩ := DLine.form hd2; have HD2 := Lib.hid hd2; have HW2 := Lib.hid hw2; clear hd2 hw2; obtain ⟨⟨v0, x0⟩, ⟨v1, x1⟩, xf⟩ := HCel.out _ hg2; have f0 := xf (k * 2); have f1 := xf (k * 2 + 1)))
        have hb0 : (W.alloc (.cells #[.slice none 0 0, .int .u8 0] 97)).heap.size ≤ base := by simp; omega
        refine ⟨⟨k + 1, _, l', ts ++ [t], by omega, by go_num, gt_set_r (gt_set_r (gt_trans Gr hg2 (.inl rfl)) _ _ hb0) _ _ hb0, (HW2.out.put _ _ HVb.out).put _ _ HVb.out, HPut1.out _ t _ _ hg2 HD2.out, HNx.out _ _ hF, ?_⟩, by simp [intOf]; omega⟩
        exact okKs_snoc HOk.out (HKd.out _ _ hF)
    · have hkn : n = k := by omega
      have hend : rdL (rdLine r big) n l2 = .ok ts lk := by rw [← hkn] at hrest; exact hrest.end_
      have hw2000 := HSz.out ts lk hend
      have hlen : (newTs ts).length = n := by rw [news_len, hrest.1, hkn]
      have hwk : wts ts ≤ 2000 := by unfold wt at hw2000; omega
      have hn2000 : n ≤ 2000 := by have := wts_len ts; rw [news_len] at hlen; omega
      rw [← hkn] at hrow
      have HNW := Lib.hid (PgNew_of DLine.dk DLine.form DLine.d4 LineFC LineCC (fun b => base ≤ b ∧ b < wr.heap.size) wr _ n n (newTs ts) (fun _ => 0) (row_done DLine.dk hlen hrow) hlen hn0 hn2000 (okTs_of _ fun t ht => (news_okU ts hwk t ht).1.ok) (fun b hb => hb.2))
      have hne : newTs ts ≠ [] := fun e => by rw [e] at hlen; simp at hlen; omega
      have hbr : base < wr.heap.size := (hrow.1.lt _ rfl).2
      have hoks2 : okK (.mk 3 (r : Nat) 0 (fun _ => 0) ts) = true := by unfold okK; simp; exact hoks
      have HFin : Hid (∀ w2 v', wr.grownBy w2 none → DNode 3 DLine (fun b => (base ≤ b ∧ b < wr.heap.size) ∨ Fr wr w2 b) w2 v' (nodeT 3 0 (fun _ => 0) (newTs ts)) → ∃ px nx cx rx, v' = .agg #[.slice px nx cx, .int .u8 rx] ∧ PrPost DPg zPg V W pb big ((rdL (rdLine r big) n l2).bind fun ts l3 => .ok (.mk 3 r 0 (fun _ => 0) ts) l3) (.returned (.tuple #[.agg #[.slice px nx cx, .int .u8 rx], .nilIface])) ((w2.setCell ⟨W.heap.size, 0, none⟩ (.slice px nx cx)).setCell ⟨W.heap.size, 1, none⟩ (.int .u8 rx))) := fun w2 v' g hd => by
        obtain ⟨px, nx, cx, rx, rfl⟩ := DNode.form hd
        have s2 := g.size
        have nB : ∀ b, ((base ≤ b ∧ b < wr.heap.size) ∨ Fr wr w2 b) → W.heap.size < b ∧ b < w2.heap.size := fun b hb => by
          rcases hb with hb | hb
          · omega
          · have h1 := hb.1; have h2 := hb.2; omega
        have h1 := (DNode.dk DLine.dk).keep (.set (q := ⟨W.heap.size, 1, none⟩) (fun hb => by have := (nB _ hb).1; simp at this) (.int .u8 rx)) ((DNode.dk DLine.dk).keep (.set (q := ⟨W.heap.size, 0, none⟩) (fun hb => by have := (nB _ hb).1; simp at this) (.slice px nx cx)) (node_any (r' := r) (f' := fun _ => 0) hne hd))
        refine ⟨px, nx, cx, rx, rfl, PrPost.ok (gt_set_r (gt_set_r (gt_trans HG.out (gt_trans Gr g (.inr (.inl rfl))) (.inl rfl)) _ _ (Nat.le_refl _)) _ _ (Nat.le_refl _)) (by rw [hend]; rfl) hoks2 ?_ (((hw.kept g).put _ _ HVW.out).put _ _ HVW.out)⟩
        rw [newT_pg r hr ts hoks]
        exact (DNode.dk DLine.dk).weak (fun b hb => ⟨by have := (nB _ hb).1; omega, by have := (nB _ hb).2; simpa [World.setCell] using this⟩) h1
      subst hkn
      clear hrow hrest hoks hw hend hw2000 hlen hwk hne hoks2
      go_wp2_with fail
      go_wp2_with (first
        | (go_at_call 109; refine HNW.out.mono ?_; rintro e w2 ⟨v', rfl, hd, hg2⟩; obtain ⟨px, nx, cx, rx, rfl, hmp⟩ := HFin.out _ _ hg2 hd; have HMP := Lib.hid hmp; clear hmp hd; obtain ⟨x0, x1, xf⟩ := HC.out _ (gt_trans Gr hg2 (.inr (.inl rfl))); have f0 := xf 0; have f1 := xf 1))
      refine bodyPost_ret (by simp [results, Tryz.results201, go_sem, x0, x1]; try rfl) rfl ?_
      exact HMP.out

set_option maxRecDepth 100000 in
set_option maxHeartbeats 4000000 in
theorem parsePg_none (V W : World) (pb r : Nat) (big : Bool) (l : List UInt8) (hr : r < 4) (hl : 4 ≤ l.length) (hn : numL big (l.take 4) = 0) (h : WP V W pb l (if big = true then 0 else 1) (!big)) :
    Calls Tryz.prog 201 #[.pointer (some ⟨pb, 0, none⟩), .int .u8 r] W (PrPost DPg zPg V W pb big (.ok (.mk 3 r 0 (fun _ => 0) []) (l.drop 4))) := by
  have hpb := h.lt
  have HU := Lib.hid (parseU32_ok V _ pb big (!big) l hl (h.kept (World.grownBy_alloc W (.cells #[.slice none 0 0, .int .u8 0] 97) none)))
  rw [hn] at HU
  have HG := Lib.hid (gt_some (World.grownBy_alloc W (.cells #[.slice none 0 0, .int .u8 0] 97) none) pb)
  have HC : Hid (∀ w, (W.alloc (.cells #[.slice none 0 0, .int .u8 0] 97)).grownBy w (some pb) → w.cell? ⟨W.heap.size, 0, none⟩ = some (.slice none 0 0) ∧ w.cell? ⟨W.heap.size, 1, none⟩ = some (.int .u8 0) ∧ ∀ j, w.frozen? ⟨W.heap.size, j, none⟩ = false) := fun w g => by
    have hn : some W.heap.size ≠ some pb := fun e => by injection e with e; omega
    have hb := g.block W.heap.size (by simp) hn
    exact ⟨g.cell (by simp) hn, g.cell (by simp) hn, fun j => by rw [World.frozen?_of_block hb]; simp⟩
  have HVW : Hid (V.heap.size ≤ W.heap.size) := h.g.size
  have HF0 := Lib.hid (fun w => PgFC (fun _ => False) w zPg (.mk 3 ((0 : Nat) : Int) 0 (fun _ => 0) []) r ⟨0, (fun _ => 0), [], none, 0, rfl, by omega, rfl, Nat.le_refl _, by decide, fun h => by simp at h, fun a ha => by cases ha⟩ (by unfold okT okTs; exact ⟨by omega, by simp, trivial⟩) hr (fun b hb => hb.elim))
  have HFin : Hid (∀ w1 w2 v', (W.alloc (.cells #[.slice none 0 0, .int .u8 0] 97)).grownBy w1 (some pb) → WP V w1 pb (l.drop 4) (if big = true then 0 else 1) (!big) → w1.grownBy w2 none → DPg (fun b => False ∨ Fr w1 w2 b) w2 v' (forceT r (.mk 3 ((0 : Nat) : Int) 0 (fun _ => 0) [])) → ∃ px nx cx rx, v' = .agg #[.slice px nx cx, .int .u8 rx] ∧ PrPost DPg zPg V W pb big (.ok (.mk 3 r 0 (fun _ => 0) []) (l.drop 4)) (.returned (.tuple #[.agg #[.slice px nx cx, .int .u8 rx], .nilIface])) ((w2.setCell ⟨W.heap.size, 0, none⟩ (.slice px nx cx)).setCell ⟨W.heap.size, 1, none⟩ (.int .u8 rx))) := fun w1 w2 v' g1 hw g hd => by
    obtain ⟨px, nx, cx, rx, rfl⟩ := DNode.form hd
    have s2 := g.size
    have s1 : W.heap.size < w1.heap.size := by have := g1.size; simp at this; omega
    have nB : ∀ b, (False ∨ Fr w1 w2 b) → W.heap.size < b ∧ b < w2.heap.size := fun b hb => by
      rcases hb with hb | hb
      · exact hb.elim
      · have h1 := hb.1; have h2 := hb.2; omega
    rw [force_node] at hd
    have h1 := (DNode.dk DLine.dk).keep (.set (q := ⟨W.heap.size, 1, none⟩) (fun hb => by have := (nB _ hb).1; simp at this) (.int .u8 rx)) ((DNode.dk DLine.dk).keep (.set (q := ⟨W.heap.size, 0, none⟩) (fun hb => by have := (nB _ hb).1; simp at this) (.slice px nx cx)) (hd.anyf (f' := fun _ => 0)))
    refine ⟨px, nx, cx, rx, rfl, PrPost.ok (gt_set_r (gt_set_r (gt_trans HG.out (gt_trans g1 g (.inr (.inl rfl))) (.inl rfl)) _ _ (Nat.le_refl _)) _ _ (Nat.le_refl _)) rfl (by unfold okK okKs; simp) ?_ (((hw.kept g).put _ _ HVW.out).put _ _ HVW.out)⟩
    rw [newT_pg r hr [] rfl]
    exact (DNode.dk DLine.dk).weak (fun b hb => ⟨by have := (nB _ hb).1; omega, by have := (nB _ hb).2; simpa [World.setCell] using this⟩) h1
  generalize l.drop 4 = l2 at HU HFin ⊢
  clear h hl hn
  unfold zPg at *
  go_enter Tryz.func201, Tryz.ntmps201
  go_wp2_with (first
    | (go_at_call 198; refine HU.out.mono ?_; rintro e w1 ⟨rfl, hw1, hg1⟩; have HW1 := Lib.hid hw1; clear hw1; obtain ⟨r0, r1, rf⟩ := HC.out _ hg1; have rf0 := rf 0; have rf1 := rf 1)
    | (go_at_call 108; refine (HF0.out _).mono ?_; rintro e w2 ⟨v', rfl, hd, hg2⟩; obtain ⟨px, nx, cx, rx, rfl, hmp⟩ := HFin.out _ _ _ hg1 HW1.out hg2 hd; have HMP := Lib.hid hmp; clear hmp hd; obtain ⟨x0, x1, xf⟩ := HC.out _ (gt_trans hg1 hg2 (.inr (.inl rfl))); have f0 := xf 0; have f1 := xf 1))
  refine bodyPost_ret (by simp [results, Tryz.results201, go_sem, x0, x1]; try rfl) rfl ?_
  exact HMP.out

theorem parsePg_any (V W : World) (pb r : Nat) (big : Bool) (l : List UInt8) (hr : r < 4) (hG : rdPg r big l ≠ .bad true) (hS : ∀ t l', rdPg r big l = .ok t l' → wt t ≤ 2000) (h : WP V W pb l (if big = true then 0 else 1) (!big)) :
    Calls Tryz.prog 201 #[.pointer (some ⟨pb, 0, none⟩), .int .u8 r] W (PrPost DPg zPg V W pb big (rdPg r big l)) := by
  by_cases h4 : l.length < 4
  · have hR : rdPg r big l = .bad false := by
      unfold rdPg rdC rdN
      rw [if_pos h4]; rfl
    refine (parsePg_short V W pb r _ _ l h4 h).mono fun e w' ⟨⟨ty, x, he⟩, hg⟩ => ?_
    subst he
    exact PrPost.bad hg (fun t l' e => by rw [hR] at e; cases e)
  have hC : rdC big l = if 4096 < numL big (l.take 4) then .bad true else .ok (numL big (l.take 4)) (l.drop 4) := by
    unfold rdC rdN
    rw [if_neg h4]; rfl
  by_cases h5 : 4096 < numL big (l.take 4)
  · refine absurd ?_ hG
    unfold rdPg
    rw [hC, if_pos h5]; rfl
  rw [if_neg h5] at hC
  have hP : rdPg r big l = (rdL (rdLine r big) (numL big (l.take 4)) (l.drop 4)).bind fun ts l3 => .ok (.mk 3 r 0 (fun _ => 0) ts) l3 := by
    unfold rdPg
    rw [hC]; rfl
  by_cases h0 : numL big (l.take 4) = 0
  · rw [hP, h0]
    exact parsePg_none V W pb r big l hr (by omega) h0 h
  rw [hP] at hG hS ⊢
  refine parsePg_some V W pb r _ big l hr (by omega) rfl (by omega) (by omega) (fun e => hG (by rw [e]; rfl)) (fun ts l' e => hS _ l' (by rw [e]; rfl)) h
end Go.Proofs.YtlpaecafpbbbkaaGreatDoor
namespace Go.Proofs.YtlpaecafpbbbkaaGreatDoor
open Go.RowKit

/-- What the reader of several points does. -/
def MptC (h : Nat) : Prop := ∀ (V W : World) (pb r : Nat) (big : Bool) (l : List UInt8), r < 4 → rdK 4 h r big l ≠ .bad true → (∀ t l', rdK 4 h r big l = .ok t l' → wt t ≤ 2000) → (∀ n l2, rdC big l = .ok n l2 → ∀ k lk ts, k < n → Rest (rdG true h (-1)) n l2 k lk ts → Sm h lk) → WP V W pb l (if big = true then 0 else 1) (!big) →
  Calls Tryz.prog 202 #[.pointer (some ⟨pb, 0, none⟩), .int .u8 r] W (PrPost DMpt (.agg #[.slice none 0 0, .int .u8 0]) V W pb big (rdK 4 h r big l))
theorem RunBad.up {h : Nat} {V W : World} {pb : Nat} {R : Rd Raw} {e : Ending} {w' : World} (hR : ∀ t l, R = .ok t l → okK t = false) (hb : RunBad W pb e w') : RnPost h V W pb R e w' := by
  obtain ⟨⟨ty, x, he⟩, hg⟩ := hb
  exact ⟨hg, .inl ⟨hR, _, _, _, .inl rfl, he⟩⟩
theorem rdF_anyk (h : Nat) (k : Int) : rdG true h k = rdG true h (-1) := funext fun l => rdG_anyk h k (-1) l
theorem rdC_kind {K : Int} {F : List UInt8 → Rd Raw} {big : Bool} {r : Nat} {l : List UInt8} : ∀ t l', ((rdC big l).bind fun n l2 => (rdL F n l2).bind fun ts l3 => Rd.ok (.mk K (r : Nat) 0 (fun _ => 0) ts) l3) = .ok t l' → kindOf t = K := by
  intro t l' e
  obtain ⟨n, l2, _, e2⟩ := Rd.bind_ok e
  obtain ⟨ts, l3, _, e4⟩ := Rd.bind_ok e2
  injection e4 with e5 e6
  rw [← e5]; rfl
theorem rdPt_kind {r : Nat} {big : Bool} {l : List UInt8} : ∀ t l', ((rdF (widN r) big l).bind fun ns l2 => rdPt true r ns l2) = .ok t l' → kindOf t = 1 := by
  intro t l' e
  obtain ⟨ns, l2, _, e2⟩ := Rd.bind_ok e
  unfold rdPt at e2
  split at e2
  · injection e2 with e3 _; rw [← e3]; rfl
  · split at e2
    · cases e2
    · injection e2 with e3 _; rw [← e3]; rfl
/-- The body behind a head. -/
theorem root_of (h : Nat) (hI : InC h) (hM : MptC h) (V W : World) (pb : Nat) (hd : Hd) (l : List UInt8) (hk0 : 0 ≤ hd.k) (hk6 : hd.k ≤ 6) (hd4 : hd.d < 4) (hR : rdB true (rdG true h) hd l ≠ .bad true) (hW : ∀ t l', rdB true (rdG true h) hd l = .ok t l' → wt t ≤ 2000)
    (hS : ∀ n l2, hd.k ≠ 1 → hd.k ≠ 2 → hd.k ≠ 3 → rdC hd.big l = .ok n l2 → ∀ k lk ts, k < n → Rest (rdG true h (-1)) n l2 k lk ts → Sm h lk) (hw : WP V W pb l (if hd.big = true then 0 else 1) (!hd.big)) :
    Calls Tryz.prog 156 #[.pointer (some ⟨pb, 0, none⟩), .int .i64 hd.k, .int .u8 hd.d] W (RnPost (h + 1) V W pb (rdB true (rdG true h) hd l)) := by
  obtain ⟨big, k, d⟩ := hd
  simp only at hk0 hk6 hd4 hS hw ⊢
  have hc : k = 1 ∨ k = 2 ∨ k = 3 ∨ k = 4 ∨ k = 5 ∨ k = 6 ∨ k = 0 := by omega
  rcases hc with rfl | rfl | rfl | rfl | rfl | rfl | rfl
  · have e : rdB true (rdG true h) ⟨big, 1, d⟩ l = (rdF (widN d) big l).bind fun ns l2 => rdPt true d ns l2 := rfl
    rw [e]
    exact rootPt DPoint.dk DPoint.form6 h (fun hd => .inl hd) V W pb d big l _ rdPt_kind (fun w hw => parsePt_any V w pb d big l hd4 hw) hw
  · have e : rdB true (rdG true h) ⟨big, 2, d⟩ l = rdLine d big l := rfl
    rw [e] at hR ⊢
    exact rootLs DLine.dk.toDK0 DLine.form2 h (fun hd => .inr (.inl hd)) V W pb d big l _ (fun t l' e => (rdLine_kind e).1) (fun w hw => parseLS_any V w pb d big l hd4 hR hw) hw
  · have e : rdB true (rdG true h) ⟨big, 3, d⟩ l = rdPg d big l := rfl
    rw [e] at hR hW ⊢
    exact rootPg DPg.dk.toDK0 DNode.form h (fun hd => .inr (.inr (.inl hd))) V W pb d big l _ rdC_kind (fun w hw => parsePg_any V w pb d big l hd4 hR hW hw) hw
  · have e : rdB true (rdG true h) ⟨big, 4, d⟩ l = rdK 4 h d big l := by unfold rdK; rw [← rdF_anyk h (kidOf 4)]; rfl
    rw [e] at hR hW ⊢
    exact rootMpt DMpt.dk.toDK0 DMpt.form h (fun hd => .inr (.inr (.inr (.inl hd)))) V W pb d big l _ rdC_kind (fun w hw => hM V w pb d big l hd4 hR hW (fun n l2 hn => hS n l2 (by decide) (by decide) (by decide) hn) hw) hw
  · have e : rdB true (rdG true h) ⟨big, 5, d⟩ l = rdK 5 h d big l := by unfold rdK; rw [← rdF_anyk h (kidOf 5)]; rfl
    rw [e] at hR hW ⊢
    exact rootMl DMl.dk.toDK0 DNode.form h (fun hd => .inr (.inr (.inr (.inr (.inl hd))))) V W pb d big l _ rdC_kind (fun w hw => parseMl_any h hI V w pb d big l hd4 hR hW (fun n l2 hn => hS n l2 (by decide) (by decide) (by decide) hn) hw) hw
  · have e : rdB true (rdG true h) ⟨big, 6, d⟩ l = rdK 6 h d big l := by unfold rdK; rw [← rdF_anyk h (kidOf 6)]; rfl
    rw [e] at hR hW ⊢
    exact rootMp DMp.dk.toDK0 DNode.form h (fun hd => .inr (.inr (.inr (.inr (.inr (.inl hd)))))) V W pb d big l _ rdC_kind (fun w hw => parseMp_any h hI V w pb d big l hd4 hR hW (fun n l2 hn => hS n l2 (by decide) (by decide) (by decide) hn) hw) hw
  · have e : rdB true (rdG true h) ⟨big, 0, d⟩ l = rdK 0 h d big l := by unfold rdK; rw [← rdF_anyk h (kidOf 0)]; rfl
    rw [e] at hR hW ⊢
    exact rootGc (DNode.dk (DGeo.dk h)).toDK0 DNode.form h (fun hd => .inr (.inr (.inr (.inr (.inr (.inr hd)))))) V W pb d big l _ rdC_kind (fun w hw => parseGc_any h hI V w pb d big l hd4 hR hW (fun n l2 hn => hS n l2 (by decide) (by decide) (by decide) hn) hw) hw
theorem rdHead_cons (b : UInt8) (l : List UInt8) : rdHead (b :: l) = (rdN 4 (b.toNat == 0) l).bind fun c l2 => if 1 < b.toNat ∨ c % 1000 < 1 ∨ 7 < c % 1000 ∨ 3 < c / 1000 then .bad false else .ok ⟨b.toNat == 0, if c % 1000 = 7 then 0 else (c % 1000 : Nat), c / 1000⟩ l2 := by
  have e1 : rdN 1 false (b :: l) = .ok b.toNat l := by
    unfold rdN
    rw [if_neg (by simp)]
    simp [numL, Lib.leNat]
  unfold rdHead
  rw [e1]; rfl
theorem rdG_head {h : Nat} {l : List UInt8} {hd : Hd} {l1 : List UInt8} (e : rdHead l = .ok hd l1) : rdG true (h + 1) (-1) l = rdB true (rdG true h) hd l1 := by
  have e1 : rdG true (h + 1) (-1) l = if (0 : Int) ≤ -1 ∧ hd.k ≠ -1 ∧ true = false then Rd.bad false else rdB true (rdG true h) hd l1 := by
    unfold rdG; rw [e]; rfl
  rw [e1, if_neg (by simp)]
theorem rdG_nohead {h : Nat} {l : List UInt8} {g : Bool} (e : rdHead l = .bad g) : rdG true (h + 1) (-1) l = .bad g := by
  unfold rdG; rw [e]; rfl
theorem run_of (h : Nat) (ih : RunC h) (hM : MptC h) : RunC (h + 1) := by
  intro V W pb l o no hw hR hS
  have hpb := hw.lt
  have hVW : V.heap.size ≤ W.heap.size := hw.g.size
  have hwA := hw.kept (World.grownBy_alloc W (.cells #[.int .i64 0, .nilIface] 57) none)
  have hbad : ∀ g, rdHead l = .bad g → ∀ t l', rdG true (h + 1) (-1) l = .ok t l' → okK t = false := fun g e t l' e2 => by rw [rdG_nohead e] at e2; cases e2
  cases l with
  | nil => exact (run_bo W pb hpb (parseBO_nil V _ pb o no hwA)).mono fun e w' hb => hb.up (hbad false rfl)
  | cons b l =>
    by_cases hb1 : 1 < b.toNat
    · refine (run_bo W pb hpb (parseBO_bad V _ pb o no b l hb1 hwA)).mono fun e w' hb => hb.up ?_
      cases hH : rdHead (b :: l) with
      | bad g => exact hbad g hH
      | ok hd l1 =>
        rw [rdHead_cons] at hH
        obtain ⟨c, l2, _, e2⟩ := Rd.bind_ok hH
        rw [if_pos (.inl hb1)] at e2
        cases e2
    obtain ⟨big, hbig⟩ : ∃ big, big = (b.toNat == 0) := ⟨_, rfl⟩
    have hbb : b.toNat = if big = true then 0 else 1 := by
      rw [hbig]
      by_cases h0 : b.toNat = 0
      · simp [h0]
      · have : b.toNat = 1 := by omega
        simp [this]
    have HBO := parseBO_ok V _ pb o no b l big hbb hwA
    by_cases h4 : l.length < 4
    · refine (run_gc V W pb big l hpb HBO (fun w hw => parseGC_short V w pb _ _ l h4 hw)).mono fun e w' hb => hb.up (hbad false ?_)
      rw [rdHead_cons]
      unfold rdN
      rw [if_pos h4]; rfl
    have hN : rdN 4 (b.toNat == 0) l = .ok (numL big (l.take 4)) (l.drop 4) := by
      unfold rdN
      rw [if_neg h4, hbig]
    by_cases hcd : numL big (l.take 4) % 1000 < 1 ∨ 7 < numL big (l.take 4) % 1000 ∨ 3 < numL big (l.take 4) / 1000
    · refine (run_gc V W pb big l hpb HBO (fun w hw => (parseGC_ok V w pb big l (by omega) hw).mono fun e w' hp => ?_)).mono fun e w' hb => hb.up (hbad false ?_)
      · unfold CdPost at hp
        rw [code_none hcd] at hp
        exact hp
      · rw [rdHead_cons, hN]
        show (if _ then _ else _) = _
        rw [if_pos (.inr hcd)]
    have hH : rdHead (b :: l) = .ok ⟨big, if numL big (l.take 4) % 1000 = 7 then 0 else (numL big (l.take 4) % 1000 : Nat), numL big (l.take 4) / 1000⟩ (l.drop 4) := by
      rw [rdHead_cons, hN]
      show (if _ then _ else _) = _
      rw [if_neg (by omega), ← hbig]
    have hS2 := hS.2
    have hS1 := hS.1
    rw [rdG_head hH] at hR hS1 ⊢
    obtain ⟨_, hk0, hk6, hd4⟩ := rdHead_len hH
    have hcode : codeOf (numL big (l.take 4)) = some ((if numL big (l.take 4) % 1000 = 7 then 0 else ((numL big (l.take 4) % 1000 : Nat) : Int) : Int), numL big (l.take 4) / 1000) := if_neg hcd
    refine run_root (h + 1) V W pb big l (l.drop 4) _ _ _ hpb hVW HBO (fun w hw => (parseGC_ok V w pb big l (by omega) hw).mono fun e w' hp => ?_) (fun w hw => root_of h (inner_of h ih) hM V w pb ⟨big, _, _⟩ (l.drop 4) hk0 hk6 hd4 hR hS1 (fun n l2 h1 h2 h3 hn => hS2 _ _ n l2 hH h1 h2 h3 hn) hw)
    unfold CdPost at hp
    rw [hcode] at hp
    exact hp
theorem run_all (hM : ∀ h, InC h → MptC h) : ∀ h, RunC h
  | 0 => RunC.zero
  | h + 1 => run_of h (run_all hM h) (hM h (inner_of h (run_all hM h)))
end Go.Proofs.YtlpaecafpbbbkaaGreatDoor
namespace Go.Proofs.YtlpaecafpbbbkaaGreatDoor
open Go.RowKit

end Go.Proofs.YtlpaecafpbbbkaaGreatDoor
namespace Go.Proofs.YtlpaecafpbbbkaaGreatDoor
open Go.RowKit

/-- The points ps lie in the cells xs, six an element. -/
def WrtP (ps : List Pt) (xs : List Value) : Prop := ∀ l t, ps[l]? = some t → ∀ o u, t.cs[o]? = some u → xs[l * 6 + o]? = some u
theorem WrtP.next {ps : List Pt} {k : Nat} {xs : List Value} (h : WrtP ps xs) (hk : ps.length = k) (q : Pt) (hl : k * 6 + 6 ≤ xs.length) : WrtP (ps ++ [q]) (set6 xs (k * 6) (.float .f64 q.x) (.float .f64 q.y) (.float .f64 q.z) (.float .f64 q.m) (.int .u8 q.r) (.bool q.b)) := by
  intro l s hs o u hu
  have ho : o < 6 := (List.getElem?_eq_some_iff.1 hu).1
  by_cases hl' : l < k
  · rw [set6_lt _ _ _ _ _ _ _ _ _ (by omega)]
    rw [List.getElem?_append_left (by omega)] at hs
    exact h l s hs o u hu
  · have hlt := (List.getElem?_eq_some_iff.1 hs).1
    simp at hlt
    obtain rfl : l = k := by omega
    rw [List.getElem?_append_right (by omega), hk, Nat.sub_self] at hs
    injection hs with hs
    subst hs
    exact set6_at _ _ _ _ _ _ _ _ hl o u hu
theorem WrtP.row {ps : List Pt} {n g cap base : Nat} {e : TypeId} {xs : List Value} {w : World} (h : WrtP ps xs) (hn : ps.length = n) (ho : w.ownsRow base e 6 (.slice (some ⟨g, 0, none⟩) n cap) n xs) : PR w (some ⟨g, 0, none⟩) ps := by
  refine ⟨fun _ => ⟨_, rfl⟩, fun a ha i s hs => ?_⟩
  injection ha with ha
  subst ha
  have hin : i < n := by have := (List.getElem?_eq_some_iff.1 hs).1; omega
  have key : ∀ o u, s.cs[o]? = some u → w.cell? ⟨g, i * 6 + o, none⟩ = some u := fun o u hu => by
    have ho6 : o < 6 := (List.getElem?_eq_some_iff.1 hu).1
    rw [ho.cellAt _ (by omega)]
    exact h i s hs o u hu
  rw [addr0]
  exact ⟨key 0 _ rfl, key 1 _ rfl, key 2 _ rfl, key 3 _ rfl, key 4 _ rfl, key 5 _ rfl⟩
theorem dims_pts : ∀ L : List Raw, (∀ s ∈ L, PtT s) → dimsP (L.map ptR) = dimsOf L
  | [], _ => rfl
  | s :: L, h => by
    show (ptR s).r &&& dimsP (L.map ptR) = dimR s &&& dimsOf L
    rw [dims_pts L (fun t ht => h t (List.mem_cons_of_mem _ ht)), (h s List.mem_cons_self).dim.2]
/-- Several points that have been brought to their common type, as a tree. -/
theorem mpt_node (r : Nat) (f : Nat → Nat) (L : List Raw) (hL : L ≠ []) (hPT : ∀ s ∈ L, PtT s) (w : World) (v : Value) (B : Nat → Prop) (hm : MPIs w v (dimsP (L.map ptR)) ((L.map ptR).map fun t => t.force (dimsP (L.map ptR)))) (hb : ∀ pp k cc x, v = .agg #[.slice pp k cc, x] → ∀ a, pp = some a → a.block < w.heap.size → B a.block) : DMpt B w v (nodeT 4 r f L) := by
  obtain ⟨f', e2⟩ := node_one 4 r f L
  rw [e2, if_neg hL, if_neg hL]
  rw [dims_pts L hPT] at hm
  have hD := dimsOf_lt L
  generalize dimsOf L = D at hm hD ⊢
  have hmap : (L.map ptR).map (fun u => u.force D) = (forceTs D L).map ptR := by
    refine List.ext_getElem? fun i => ?_
    rw [List.getElem?_map, List.getElem?_map, List.getElem?_map, forceTs_get]
    cases h : L[i]? with
    | none => rfl
    | some s => simp only [Option.map_some]; rw [((hPT s (List.mem_of_getElem? h)).force D hD).2]
  rw [hmap] at hm
  obtain ⟨hd4, hoks, pp, c, rfl, hpr⟩ := hm
  refine ⟨D, f', forceTs D L, pp, c, rfl, hD, fun s hs' => ?_, by rw [List.length_map], hpr, fun h0 a ha => hb _ _ _ _ rfl a ha (hpr.lt (by rw [List.length_map]; exact h0) a ha)⟩
  obtain ⟨i, hi⟩ := List.getElem?_of_mem hs'
  rw [forceTs_get] at hi
  obtain ⟨u, hu, rfl⟩ := Option.map_eq_some_iff.1 hi
  exact ((hPT u (List.mem_of_getElem? hu)).force D hD).1
end Go.Proofs.YtlpaecafpbbbkaaGreatDoor
namespace Go.Proofs.YtlpaecafpbbbkaaGreatDoor
open Go.RowKit

theorem DMpt.anyf {B : Nat → Prop} {W : World} {v : Value} {k : Int} {d : Int} {n : Nat} {f f' : Nat → Nat} {kids : List Raw} (h : DMpt B W v (.mk k d n f kids)) : DMpt B W v (.mk k d n f' kids) := by
  obtain ⟨r, f0, kids0, p, c, e, h2⟩ := h
  injection e with e1 e2 e3 e4 e5
  subst e1 e2 e3 e5
  exact ⟨r, f', _, p, c, rfl, h2⟩
def zMpt : Value := .agg #[.slice none 0 0, .int .u8 0]
set_option maxRecDepth 100000 in
theorem IsPt (k : Int) (ty b : Nat) (W : World) : Calls Tryz.prog 247 #[.agg #[.int .i64 k, .iface ty (.pointer (some ⟨b, 0, none⟩))]] W fun e w' => e = .returned (.bool (k == 1)) ∧ W.grownBy w' none := by
  go_enter Tryz.func247, Tryz.ntmps247
  go_wp2_with fail
  go_returns
  exact ⟨rfl, by first | exact gt_refl _ _ | exact World.grownBy_alloc _ _ _⟩
theorem mustPt (h : Nat) (B : Nat → Prop) (W : World) (ty b : Nat) (t : Raw) (hd : DGeo h B W (.agg #[.int .i64 1, .iface ty (.pointer (some ⟨b, 0, none⟩))]) t) (hB : ∀ b, B b → b < W.heap.size) : ∃ fx fy fz fm er eb, PtT t ∧ ptR t = ⟨fx, fy, fz, fm, er, eb⟩ ∧ Calls Tryz.prog 75 #[.agg #[.int .i64 1, .iface ty (.pointer (some ⟨b, 0, none⟩))]] W fun e w' => e = .returned (.agg #[.float .f64 fx, .float .f64 fy, .float .f64 fz, .float .f64 fm, .int .u8 er, .bool eb]) ∧ W.grownBy w' none := by
  cases h with
  | zero => exact hd.elim
  | succ h =>
    rcases hd with hd | hd | hd | hd | hd | hd | hd
    all_goals (obtain ⟨b', x, hk, hv, hb, hx, hd⟩ := hd; simp at hv)
    obtain ⟨rfl, rfl⟩ := hv
    obtain ⟨hp, rfl⟩ := hd
    exact ⟨(ptR t).x, (ptR t).y, (ptR t).z, (ptR t).m, (ptR t).r, (ptR t).b, hp, rfl, MustAsPoint _ _ _ _ _ _ _ W (hx 0 _ rfl) (hx 1 _ rfl) (hx 2 _ rfl) (hx 3 _ rfl) (hx 4 _ rfl) (hx 5 _ rfl) (hB _ hb)⟩

set_option maxRecDepth 100000 in
set_option maxHeartbeats 8000000 in
theorem parseMpt_some (h : Nat) (ih : InC h) (V W : World) (pb r n : Nat) (big : Bool) (l : List UInt8) (hr : r < 4) (hl : 4 ≤ l.length) (hn : numL big (l.take 4) = n) (hn0 : 0 < n) (hn2 : n ≤ 4096) (hG : rdL (rdG true h (-1)) n (l.drop 4) ≠ .bad true)
    (hS : ∀ ts l', rdL (rdG true h (-1)) n (l.drop 4) = .ok ts l' → wt (.mk 4 (r : Nat) 0 (fun _ => 0) ts) ≤ 2000) (hSm : ∀ k lk ts, k < n → Rest (rdG true h (-1)) n (l.drop 4) k lk ts → Sm h lk) (hw0 : WP V W pb l (if big = true then 0 else 1) (!big)) :
    Calls Tryz.prog 202 #[.pointer (some ⟨pb, 0, none⟩), .int .u8 r] W (PrPost DMpt zMpt V W pb big ((rdL (rdG true h (-1)) n (l.drop 4)).bind fun ts l3 => .ok (.mk 4 r 0 (fun _ => 0) ts) l3)) := by
  have hpb := hw0.lt
  have HU := Lib.hid (parseU32_ok V _ pb big (!big) l hl (hw0.kept (World.grownBy_alloc W (.cells #[.slice none 0 0, .int .u8 0] 101) none)))
  rw [hn] at HU
  have HG := Lib.hid (gt_some (World.grownBy_alloc W (.cells #[.slice none 0 0, .int .u8 0] 101) none) pb)
  have HC : Hid (∀ w, (W.alloc (.cells #[.slice none 0 0, .int .u8 0] 101)).grownBy w (some pb) → w.cell? ⟨W.heap.size, 0, none⟩ = some (.slice none 0 0) ∧ w.cell? ⟨W.heap.size, 1, none⟩ = some (.int .u8 0) ∧ ∀ j, w.frozen? ⟨W.heap.size, j, none⟩ = false) := fun w g => by
    have hn : some W.heap.size ≠ some pb := fun e => by injection e with e; omega
    have hb := g.block W.heap.size (by simp) hn
    exact ⟨g.cell (by simp) hn, g.cell (by simp) hn, fun j => by rw [World.frozen?_of_block hb]; simp⟩
  obtain ⟨i0, hi, hzz⟩ := Option.map_eq_some_iff.1 infoPt
  simp only [Prod.mk.injEq] at hzz
  have HI := Lib.hid hzz
  have hnb : ((n : Int) == 0) = false := by rw [beq_eq_false_iff_ne]; omega
  have HSt := Lib.hid (Rest.start (rdG true h (-1)) n (l.drop 4))
  have HIn : Hid (∀ w lk, rdG true h (-1) lk ≠ .bad true → Sm h lk → WP V w pb lk (if big = true then 0 else 1) (!big) → Calls Tryz.prog 246 #[.pointer (some ⟨pb, 0, none⟩)] w (InPost (DGeo h) zGeo V w pb (if big = true then 0 else 1) (!big) (rdG true h (-1) lk))) := fun w lk hb hs hw => ih V w pb lk _ _ hw hb hs
  have HGd := Lib.hid hG
  have HSz := Lib.hid hS
  have HSm := Lib.hid hSm
  have HVW : Hid (V.heap.size ≤ W.heap.size) := hw0.g.size
  have HU0 : Hid (∀ w1, (W.alloc (.cells #[.slice none 0 0, .int .u8 0] 101)).grownBy w1 (some pb) → pb < w1.heap.size ∧ W.heap.size < w1.heap.size) := fun w1 g => by have h1 := g.size; simp at h1; omega
  have HCell : Hid (∀ (w : World) (base k : Nat) (xs : List Value), k < n → w.ownsRow base 87 6 (.slice (some ⟨base, 0, none⟩) n n) n xs → (∃ v, w.cell? ⟨base, k * 6, none⟩ = some v) ∧ (∃ v, w.cell? ⟨base, k * 6 + 1, none⟩ = some v) ∧ (∃ v, w.cell? ⟨base, k * 6 + 2, none⟩ = some v) ∧ (∃ v, w.cell? ⟨base, k * 6 + 3, none⟩ = some v) ∧ (∃ v, w.cell? ⟨base, k * 6 + 4, none⟩ = some v) ∧ (∃ v, w.cell? ⟨base, k * 6 + 5, none⟩ = some v) ∧ ∀ j, w.frozen? ⟨base, j, none⟩ = false) := fun w base k xs hk ho => by
    have hl : xs.length = n * 6 := ho.1
    have key : ∀ o, o < 6 → ∃ v, w.cell? ⟨base, k * 6 + o, none⟩ = some v := fun o h6 => by
      rw [ho.cellAt _ (by omega)]
      exact ⟨_, List.getElem?_eq_getElem (by omega)⟩
    exact ⟨key 0 (by omega), key 1 (by omega), key 2 (by omega), key 3 (by omega), key 4 (by omega), key 5 (by omega), fun j => ho.frozenAt j⟩
  have HYg : Hid (∀ (wr w2 : World) (ek : Int) (ety eb : Nat), (W.alloc (.cells #[.slice none 0 0, .int .u8 0] 101)).grownBy wr (some pb) → wr.grownBy w2 (some pb) → ∀ w3, (w2.alloc (.cells #[.int .i64 ek, .iface ety (.pointer (some ⟨eb, 0, none⟩))] 57)).grownBy w3 none → w3.cell? ⟨w2.heap.size, 0, none⟩ = some (.int .i64 ek) ∧ w3.cell? ⟨w2.heap.size, 1, none⟩ = some (.iface ety (.pointer (some ⟨eb, 0, none⟩))) ∧ (w3.cell? ⟨W.heap.size, 0, none⟩ = some (.slice none 0 0) ∧ w3.cell? ⟨W.heap.size, 1, none⟩ = some (.int .u8 0) ∧ ∀ j, w3.frozen? ⟨W.heap.size, j, none⟩ = false) ∧ (W.alloc (.cells #[.slice none 0 0, .int .u8 0] 101)).grownBy w3 (some pb) ∧ wr.grownBy w3 (some pb) ∧ w2.grownBy w3 none) := fun wr w2 ek ety eb g1 g2 w3 g3 => by
    have g23 := gt_trans (World.grownBy_alloc w2 (.cells #[.int .i64 ek, .iface ety (.pointer (some ⟨eb, 0, none⟩))] 57) none) g3 (.inl rfl)
    have g13 := gt_trans g2 g23 (.inr (.inl rfl))
    have g03 := gt_trans g1 g13 (.inl rfl)
    exact ⟨g3.cell (by simp) (by simp), g3.cell (by simp) (by simp), HC.out _ g03, g03, g13, g23⟩
  generalize hl2 : l.drop 4 = l2 at HU HSt HGd HSz HSm ⊢
  clear hw0 hl hn hzz hG hS hSm hl2
  unfold zMpt
  go_enter Tryz.func202, Tryz.ntmps202
  go_wp2_with (first
    | (go_at_call 198; refine HU.out.mono ?_; rintro e w1 ⟨rfl, hw1, hg1⟩; have HW1 := Lib.hid hw1; clear hw1)
    | (at_make; (refine wpList_make_full _ rfl _ _ _ rfl w1.heap.size 87 i0 (.agg #[.float .f64 0, .float .f64 0, .float .f64 0, .float .f64 0, .int .u8 0, .bool false]) 6 Tryz.underlying99 hi HI.out.1 HI.out.2.1 .u32 .u32 _ _ n rfl rfl rfl rfl (by rw [HI.out.2.2]; omega) (by unfold maxLen; omega) (by simp) ?_; intro w2 hown hg2)))
  obtain ⟨hpb1, hrb1⟩ := HU0.out w1 hg1
  obtain ⟨base, hbase⟩ : ∃ base, base = w1.heap.size := ⟨_, rfl⟩
  rw [← hbase] at hown hpb1 hrb1 ⊢
  obtain ⟨xs0, hxs0⟩ : ∃ xs0, xs0 = (madeCells (Value.cells (.agg #[.float .f64 0, .float .f64 0, .float .f64 0, .float .f64 0, .int .u8 0, .bool false])) (n * 6)).toList := ⟨_, rfl⟩
  rw [← hxs0] at hown
  have Hb := Lib.hid hbase
  clear hxs0 hbase
  have G2 := gt_trans hg1 hg2 (.inr (.inl rfl))
  have HVb : Hid (V.heap.size ≤ base) := Lib.hid (by have := HVW.out; omega)
  go_loopw [9] (fun i wr => ∃ (k : Nat) (cs : List Value) (lk : List UInt8) (ts : List Raw), k ≤ n ∧ i = .int .u32 k ∧ (W.alloc (.cells #[.slice none 0 0, .int .u8 0] 101)).grownBy wr (some pb) ∧ WP V wr pb lk (if big = true then 0 else 1) (!big) ∧ wr.ownsRow base 87 6 (.slice (some ⟨base, 0, none⟩) n n) n cs ∧ WrtP ((newTs ts).map ptR) cs ∧ (∀ s ∈ newTs ts, PtT s) ∧ Rest (rdG true h (-1)) n l2 k lk ts ∧ okKs 4 ts = true) (fun i _ => n - (intOf i).toNat)
  case atStart => exact ⟨0, xs0, l2, [], by omega, rfl, G2, HW1.out.kept hg2, hown, fun l t h => absurd h (by simp [newTs]), fun s hs => absurd hs (by simp [newTs]), HSt.out, rfl⟩
  case round =>
    clear hown
    obtain ⟨k, cs, lk, ts, hk, rfl, Gr, hw, hrow, hwp, hpt, hrest, hoks⟩ := hrel
    rename World => wr
    by_cases hkL : k < n
    · have hlg : rdG true h (-1) lk ≠ .bad true := fun e => HGd.out (hrest.bad hkL e)
      have HLk := Lib.hid (HIn.out wr lk hlg (HSm.out k lk ts hkL hrest) hw)
      have HKp := Lib.hid (fun w2 (g : wr.grownBy w2 (some pb)) => World.ownsRow.kept hrow g (.inr fun e => by injection e with e; have e2 : base = pb := e; omega))
      have hcl9 : k * 6 + 6 ≤ cs.length := by
        have h1 : cs.length = n * 6 := hrow.1
        rw [h1]; omega
      have HWp := Lib.hid (fun q => hwp.next (k := k) (by rw [List.length_map, news_len, hrest.1]) q hcl9)
      clear hcl9
      have HPt := Lib.hid hpt
      have HNx := Lib.hid (fun t l' (e : rdG true h (-1) lk = .ok t l') => hrest.next hkL e)
      have HBd := Lib.hid (fun g (e : rdG true h (-1) lk = .bad g) => hrest.bad hkL e)
      have HOff := Lib.hid (fun t l' (e : rdG true h (-1) lk = .ok t l') hb => hrest.off (K := 4) hkL e hb r)
      have HOk := Lib.hid hoks
      have hsf := run_store_flt Tryz.prog
      clear hrow hwp hpt hrest hoks hlg hw
      go_wp2_with (first
        | (go_at_call 246; go_loud (refine HLk.out.mono ?_; unfold zGeo; rintro e w2 ⟨hg2, ⟨hbad, ty, x, rfl⟩ | ⟨t, l', v, hRt, hok, rfl, hd, hw2⟩⟩ <;> (first
            | (have HBad := Lib.hid hbad; clear hbad; have GG := gt_trans Gr (gt_alloc_r hg2 (.cells #[.int .i64 0, .nilIface] 57)) (.inl rfl); obtain ⟨r0, r1, rf⟩ := HC.out _ GG; have rf0 := rf 0; have rf1 := rf 1)
            | (obtain ⟨ek, ety, eb, rfl⟩ := DGeo.form hd; have HD := Lib.hid hd; have HW2 := Lib.hid hw2; have HY := Lib.hid (HYg.out wr w2 ek ety eb Gr hg2); clear hd hw2; by_cases hk2 : ek = 1 <;> (first | (subst hk2; have hb2 : ((1 : Int) == 1) = true := rfl; have HMu := Lib.hid (fun w3 (g : w2.grownBy w3 none) => mustPt h _ w3 ety eb _ ((DGeo.dk h).toDK0.mono g HD.out) (fun b hb => Nat.lt_of_lt_of_le hb.2 g.size))) | (have hb2 : (ek == 1) = false := beq_eq_false_iff_ne.2 hk2))))))
        | (go_at_call 247; go_loud (refine (IsPt _ _ _ _).mono ?_; rintro e w3 ⟨rfl, hg3⟩; obtain ⟨y0, y1, ⟨r0, r1, rf⟩, G3, g3r, g23⟩ := HY.out _ hg3; have rf0 := rf 0; have rf1 := rf 1))
        | (go_at_call 75; go_loud (obtain ⟨fx, fy, fz, fm, er, eb, hpt1, hpr, hcall⟩ := HMu.out w3 g23; refine hcall.mono ?_; rintro e w4 ⟨rfl, hg4⟩; have g4 := gt_trans g3r hg4 (.inr (.inl rfl)); have g24 := gt_trans g23 hg4 (.inl rfl); have HO4 := Lib.hid (HKp.out w4 g4); obtain ⟨⟨v0, x0⟩, ⟨v1, x1⟩, ⟨v2, x2⟩, ⟨v3, x3⟩, ⟨v4, x4⟩, ⟨v5, x5⟩, xf⟩ := HCell.out w4 base k cs hkL HO4.out; have f0 := xf (k * 6); have f1 := xf (k * 6 + 1); have f2 := xf (k * 6 + 2); have f3 := xf (k * 6 + 3); have f4 := xf (k * 6 + 4); have f5 := xf (k * 6 + 5); have HT1 := Lib.hid hpt1; have HPr := Lib.hid hpr; clear hcall hpt1 hpr)))
      · refine bodyPost_ret (by simp [results, Tryz.results202, go_sem, r0, r1]; try rfl) rfl ?_
        refine PrPost.bad (gt_set_r (gt_set_r (gt_trans HG.out GG (.inl rfl)) _ _ (Nat.le_refl _)) _ _ (Nat.le_refl _)) (fun T l' e => ?_)
        cases hF : rdG true h (-1) lk with
        | bad g => rw [HBd.out g hF] at e; cases e
        | ok t l1 => exact HOff.out t l1 hF (by rw [okKs_one, HBad.out t l1 hF, Bool.and_false]) T l' e
      · have hb0 : (W.alloc (.cells #[.slice none 0 0, .int .u8 0] 101)).heap.size ≤ base := by simp; omega
        have hk9 : kindOf t = 1 := kind_is (by decide) (by decide) (HD.out.kind)
        have HW4 := HW2.out.kept g24
        have hWP6 := (((((HW4.put ⟨base, k * 6, none⟩ (.float .f64 fx) HVb.out).put ⟨base, k * 6 + 1, none⟩ (.float .f64 fy) HVb.out).put ⟨base, k * 6 + 2, none⟩ (.float .f64 fz) HVb.out).put ⟨base, k * 6 + 3, none⟩ (.float .f64 fm) HVb.out).put ⟨base, k * 6 + 4, none⟩ (.int .u8 er) HVb.out).put ⟨base, k * 6 + 5, none⟩ (.bool eb) HVb.out
        have hGr6 := gt_set_r (gt_set_r (gt_set_r (gt_set_r (gt_set_r (gt_set_r (gt_trans Gr g4 (.inl rfl)) ⟨base, k * 6, none⟩ (.float .f64 fx) hb0) ⟨base, k * 6 + 1, none⟩ (.float .f64 fy) hb0) ⟨base, k * 6 + 2, none⟩ (.float .f64 fz) hb0) ⟨base, k * 6 + 3, none⟩ (.float .f64 fm) hb0) ⟨base, k * 6 + 4, none⟩ (.int .u8 er) hb0) ⟨base, k * 6 + 5, none⟩ (.bool eb) hb0
        refine ⟨⟨k + 1, _, l', ts ++ [t], by omega, by go_num, hGr6, hWP6, ((((((HO4.out.stored (k * 6) (.float .f64 fx)).1.stored (k * 6 + 1) (.float .f64 fy)).1.stored (k * 6 + 2) (.float .f64 fz)).1.stored (k * 6 + 3) (.float .f64 fm)).1.stored (k * 6 + 4) (.int .u8 er)).1.stored (k * 6 + 5) (.bool eb)).1, ?_, ?_, HNx.out _ _ hRt, ?_⟩, by simp [intOf]; omega⟩
        · rw [newTs_append, List.map_append]
          have e9 : (newTs [t]).map ptR = [⟨fx, fy, fz, fm, er, eb⟩] := by simp only [newTs, List.map_cons, List.map_nil]; rw [HPr.out]
          rw [e9]
          exact HWp.out ⟨fx, fy, fz, fm, er, eb⟩
        · intro s hs
          rw [newTs_append, List.mem_append] at hs
          rcases hs with hs | hs
          · exact HPt.out s hs
          · simp only [newTs, List.mem_singleton] at hs
            rw [hs]; exact HT1.out
        rw [okKs_app, okKs_one, HOk.out, hok, hk9]; decide
      · refine bodyPost_ret (by simp [results, Tryz.results202, go_sem, r0, r1]; try rfl) rfl ?_
        refine PrPost.bad (gt_set_r (gt_set_r (gt_trans HG.out G3 (.inl rfl)) _ _ (Nat.le_refl _)) _ _ (Nat.le_refl _)) (fun T l1 e => HOff.out t l' hRt ?_ T l1 e)
        have hk9 : kindOf t ≠ 1 := fun e => hk2 (by have := HD.out.kind; rw [kindOf_new, e] at this; rw [← this]; decide)
        have e1 : decide (kidOf 4 < 0) = false := by decide
        have e2 : decide (kindOf t = kidOf 4) = false := decide_eq_false (by rw [show kidOf 4 = 1 by decide]; exact hk9)
        rw [okKs_one, e1, e2]; rfl
    · have hkn : n = k := by omega
      have hend : rdL (rdG true h (-1)) n l2 = .ok ts lk := by rw [← hkn] at hrest; exact hrest.end_
      have hw2000 := HSz.out ts lk hend
      have hlen : (newTs ts).length = n := by rw [news_len, hrest.1, hkn]
      have hwk : wts ts ≤ 2000 := by unfold wt at hw2000; omega
      have hn2000 : n ≤ 2000 := by have := wts_len ts; rw [news_len] at hlen; omega
      have hlenP : ((newTs ts).map ptR).length = n := by rw [List.length_map, hlen]
      have hpr := hwp.row hlenP hrow
      have hbr : base < wr.heap.size := (hrow.lt base rfl).2
      have HNW := Lib.hid (NewMultiPoint_any (some ⟨base, 0, none⟩) ((newTs ts).map ptR) n n hlenP hn0 hn2000 (fun t ht => by obtain ⟨s, hs, rfl⟩ := List.mem_map.1 ht; exact (hpt s hs).ok) wr hpr (fun a ha => by injection ha with ha; subst ha; exact hbr))
      have hne : newTs ts ≠ [] := fun e => by rw [e] at hlen; simp at hlen; omega
      have hoks2 : okK (.mk 4 (r : Nat) 0 (fun _ => 0) ts) = true := by unfold okK; simp; exact hoks
      have HFin : Hid (∀ w2 v', wr.grownBy w2 none → MPIs w2 v' (dimsP ((newTs ts).map ptR)) (((newTs ts).map ptR).map fun t => t.force (dimsP ((newTs ts).map ptR))) → (∀ pp k cc x, v' = .agg #[.slice pp k cc, x] → ∀ a, pp = some a → wr.heap.size ≤ a.block) → ∃ px nx cx rx, v' = .agg #[.slice px nx cx, .int .u8 rx] ∧ PrPost DMpt zMpt V W pb big ((rdL (rdG true h (-1)) n l2).bind fun ts l3 => .ok (.mk 4 r 0 (fun _ => 0) ts) l3) (.returned (.tuple #[.agg #[.slice px nx cx, .int .u8 rx], .nilIface])) ((w2.setCell ⟨W.heap.size, 0, none⟩ (.slice px nx cx)).setCell ⟨W.heap.size, 1, none⟩ (.int .u8 rx))) := fun w2 v' g hm hbk => by
        have hd := mpt_node r (fun _ => 0) (newTs ts) hne hpt w2 v' (fun b => wr.heap.size ≤ b ∧ b < w2.heap.size) hm (fun pp k cc x e a ha hl => ⟨hbk pp k cc x e a ha, hl⟩)
        obtain ⟨px, nx, cx, rx, rfl⟩ := DMpt.form hd
        have hsz := HU0.out wr Gr
        have h1 := DMpt.dk.keep (.set (q := ⟨W.heap.size, 1, none⟩) (fun hb => by have := hb.1; simp at this; omega) (.int .u8 rx)) (DMpt.dk.keep (.set (q := ⟨W.heap.size, 0, none⟩) (fun hb => by have := hb.1; simp at this; omega) (.slice px nx cx)) hd)
        refine ⟨px, nx, cx, rx, rfl, PrPost.ok (gt_set_r (gt_set_r (gt_trans HG.out (gt_trans Gr g (.inr (.inl rfl))) (.inl rfl)) _ _ (Nat.le_refl _)) _ _ (Nat.le_refl _)) (by rw [hend]; rfl) hoks2 ?_ (((hw.kept g).put _ _ HVW.out).put _ _ HVW.out)⟩
        rw [newT_part 4 (by decide) (by decide) (by decide) r hr ts hoks]
        exact DMpt.dk.weak (fun b hb => ⟨by have := hb.1; omega, by have := hb.2; simpa [World.setCell] using this⟩) h1
      subst hkn
      unfold zMpt at HFin
      clear hrow hrest hoks hw hend hw2000 hlen hwk hne hoks2 hwp hpt hpr hlenP
      go_wp2_with fail
      go_wp2_with (first
        | (go_at_call 111; refine HNW.out.mono ?_; rintro e w2 ⟨v', rfl, hm, hbk, hg2⟩; obtain ⟨px, nx, cx, rx, rfl, hmp⟩ := HFin.out _ _ hg2 hm hbk; have HMP := Lib.hid hmp; clear hmp hm hbk; obtain ⟨x0, x1, xf⟩ := HC.out _ (gt_trans Gr hg2 (.inr (.inl rfl))); have f0 := xf 0; have f1 := xf 1))
      refine bodyPost_ret (by simp [results, Tryz.results202, go_sem, x0, x1]; try rfl) rfl ?_
      exact HMP.out

set_option maxRecDepth 100000 in
set_option maxHeartbeats 1000000 in
theorem parseMpt_short (V W : World) (pb r o : Nat) (no : Bool) (l : List UInt8) (hl : l.length < 4) (h : WP V W pb l o no) : Calls Tryz.prog 202 #[.pointer (some ⟨pb, 0, none⟩), .int .u8 r] W fun e w' => (∃ ty x, e = .returned (.tuple #[zMpt, .iface ty x])) ∧ W.grownBy w' (some pb) := by
  have hpb := h.lt
  have HU := Lib.hid (parseU32_bad V _ pb o no l hl (h.kept (World.grownBy_alloc W (.cells #[.slice none 0 0, .int .u8 0] 101) none)))
  have HG := Lib.hid (gt_some (World.grownBy_alloc W (.cells #[.slice none 0 0, .int .u8 0] 101) none) pb)
  have HC : Hid (∀ w, (W.alloc (.cells #[.slice none 0 0, .int .u8 0] 101)).grownBy w (some pb) → w.cell? ⟨W.heap.size, 0, none⟩ = some (.slice none 0 0) ∧ w.cell? ⟨W.heap.size, 1, none⟩ = some (.int .u8 0) ∧ ∀ j, w.frozen? ⟨W.heap.size, j, none⟩ = false) := fun w g => by
    have hn : some W.heap.size ≠ some pb := fun e => by injection e with e; omega
    have hb := g.block W.heap.size (by simp) hn
    exact ⟨g.cell (by simp) hn, g.cell (by simp) hn, fun j => by rw [World.frozen?_of_block hb]; simp⟩
  clear h
  unfold zMpt
  go_enter Tryz.func202, Tryz.ntmps202
  go_wp2_with (first
    | (go_at_call 198; refine HU.out.mono ?_; rintro e w1 ⟨⟨ty, x, rfl⟩, hg1⟩; obtain ⟨r0, r1, rf⟩ := HC.out _ hg1; have rf0 := rf 0; have rf1 := rf 1))
  refine bodyPost_ret (by simp [results, Tryz.results202, go_sem, r0, r1]; try rfl) rfl ?_
  exact ⟨⟨_, _, rfl⟩, gt_set_r (gt_set_r (gt_trans HG.out hg1 (.inl rfl)) _ _ (Nat.le_refl _)) _ _ (Nat.le_refl _)⟩

set_option maxRecDepth 100000 in
set_option maxHeartbeats 4000000 in
theorem parseMpt_none (V W : World) (pb r : Nat) (big : Bool) (l : List UInt8) (hr : r < 4) (hl : 4 ≤ l.length) (hn : numL big (l.take 4) = 0) (h : WP V W pb l (if big = true then 0 else 1) (!big)) :
    Calls Tryz.prog 202 #[.pointer (some ⟨pb, 0, none⟩), .int .u8 r] W (PrPost DMpt zMpt V W pb big (.ok (.mk 4 r 0 (fun _ => 0) []) (l.drop 4))) := by
  have hpb := h.lt
  have HU := Lib.hid (parseU32_ok V _ pb big (!big) l hl (h.kept (World.grownBy_alloc W (.cells #[.slice none 0 0, .int .u8 0] 101) none)))
  rw [hn] at HU
  have HG := Lib.hid (gt_some (World.grownBy_alloc W (.cells #[.slice none 0 0, .int .u8 0] 101) none) pb)
  have HC : Hid (∀ w, (W.alloc (.cells #[.slice none 0 0, .int .u8 0] 101)).grownBy w (some pb) → w.cell? ⟨W.heap.size, 0, none⟩ = some (.slice none 0 0) ∧ w.cell? ⟨W.heap.size, 1, none⟩ = some (.int .u8 0) ∧ ∀ j, w.frozen? ⟨W.heap.size, j, none⟩ = false) := fun w g => by
    have hn : some W.heap.size ≠ some pb := fun e => by injection e with e; omega
    have hb := g.block W.heap.size (by simp) hn
    exact ⟨g.cell (by simp) hn, g.cell (by simp) hn, fun j => by rw [World.frozen?_of_block hb]; simp⟩
  have HVW : Hid (V.heap.size ≤ W.heap.size) := h.g.size
  have HF0 := Lib.hid (fun w => MptFC (fun _ => False) w zMpt (.mk 4 ((0 : Nat) : Int) 0 (fun _ => 0) []) r ⟨0, (fun _ => 0), [], none, 0, rfl, by omega, (fun s hs => by cases hs), rfl, ⟨fun h => by simp at h, fun a ha => by cases ha⟩, fun h => by simp at h⟩ (by unfold okT okTs; exact ⟨by omega, by simp, trivial⟩) hr (fun b hb => hb.elim))
  have HFin : Hid (∀ w1 w2 v', (W.alloc (.cells #[.slice none 0 0, .int .u8 0] 101)).grownBy w1 (some pb) → WP V w1 pb (l.drop 4) (if big = true then 0 else 1) (!big) → w1.grownBy w2 none → DMpt (fun b => False ∨ Fr w1 w2 b) w2 v' (forceT r (.mk 4 ((0 : Nat) : Int) 0 (fun _ => 0) [])) → ∃ px nx cx rx, v' = .agg #[.slice px nx cx, .int .u8 rx] ∧ PrPost DMpt zMpt V W pb big (.ok (.mk 4 r 0 (fun _ => 0) []) (l.drop 4)) (.returned (.tuple #[.agg #[.slice px nx cx, .int .u8 rx], .nilIface])) ((w2.setCell ⟨W.heap.size, 0, none⟩ (.slice px nx cx)).setCell ⟨W.heap.size, 1, none⟩ (.int .u8 rx))) := fun w1 w2 v' g1 hw g hd => by
    obtain ⟨px, nx, cx, rx, rfl⟩ := DMpt.form hd
    have s2 := g.size
    have s1 : W.heap.size < w1.heap.size := by have := g1.size; simp at this; omega
    have nB : ∀ b, (False ∨ Fr w1 w2 b) → W.heap.size < b ∧ b < w2.heap.size := fun b hb => by
      rcases hb with hb | hb
      · exact hb.elim
      · have h1 := hb.1; have h2 := hb.2; omega
    rw [force_node] at hd
    have h1 := DMpt.dk.keep (.set (q := ⟨W.heap.size, 1, none⟩) (fun hb => by have := (nB _ hb).1; simp at this) (.int .u8 rx)) (DMpt.dk.keep (.set (q := ⟨W.heap.size, 0, none⟩) (fun hb => by have := (nB _ hb).1; simp at this) (.slice px nx cx)) (DMpt.anyf (f' := fun _ => 0) hd))
    refine ⟨px, nx, cx, rx, rfl, PrPost.ok (gt_set_r (gt_set_r (gt_trans HG.out (gt_trans g1 g (.inr (.inl rfl))) (.inl rfl)) _ _ (Nat.le_refl _)) _ _ (Nat.le_refl _)) rfl (by unfold okK okKs; simp) ?_ (((hw.kept g).put _ _ HVW.out).put _ _ HVW.out)⟩
    rw [newT_part 4 (by decide) (by decide) (by decide) r hr [] rfl]
    exact DMpt.dk.weak (fun b hb => ⟨by have := (nB _ hb).1; omega, by have := (nB _ hb).2; simpa [World.setCell] using this⟩) h1
  generalize l.drop 4 = l2 at HU HFin ⊢
  clear h hl hn
  unfold zMpt at *
  go_enter Tryz.func202, Tryz.ntmps202
  go_wp2_with (first
    | (go_at_call 198; refine HU.out.mono ?_; rintro e w1 ⟨rfl, hw1, hg1⟩; have HW1 := Lib.hid hw1; clear hw1; obtain ⟨r0, r1, rf⟩ := HC.out _ hg1; have rf0 := rf 0; have rf1 := rf 1)
    | (go_at_call 110; refine (HF0.out _).mono ?_; rintro e w2 ⟨v', rfl, hd, hg2⟩; obtain ⟨px, nx, cx, rx, rfl, hmp⟩ := HFin.out _ _ _ hg1 HW1.out hg2 hd; have HMP := Lib.hid hmp; clear hmp hd; obtain ⟨x0, x1, xf⟩ := HC.out _ (gt_trans hg1 hg2 (.inr (.inl rfl))); have f0 := xf 0; have f1 := xf 1))
  refine bodyPost_ret (by simp [results, Tryz.results202, go_sem, x0, x1]; try rfl) rfl ?_
  exact HMP.out

theorem parseMpt_any (h : Nat) (ih : InC h) (V W : World) (pb r : Nat) (big : Bool) (l : List UInt8) (hr : r < 4) (hG : rdK 4 h r big l ≠ .bad true) (hS : ∀ t l', rdK 4 h r big l = .ok t l' → wt t ≤ 2000) (hSm : ∀ n l2, rdC big l = .ok n l2 → ∀ k lk ts, k < n → Rest (rdG true h (-1)) n l2 k lk ts → Sm h lk) (hw : WP V W pb l (if big = true then 0 else 1) (!big)) :
    Calls Tryz.prog 202 #[.pointer (some ⟨pb, 0, none⟩), .int .u8 r] W (PrPost DMpt zMpt V W pb big (rdK 4 h r big l)) := by
  by_cases h4 : l.length < 4
  · have hR : rdK 4 h r big l = .bad false := by
      unfold rdK rdC rdN
      rw [if_pos h4]; rfl
    refine (parseMpt_short V W pb r _ _ l h4 hw).mono fun e w' ⟨⟨ty, x, he⟩, hg⟩ => ?_
    subst he
    exact PrPost.bad hg (fun t l' e => by rw [hR] at e; cases e)
  have hC : rdC big l = if 4096 < numL big (l.take 4) then .bad true else .ok (numL big (l.take 4)) (l.drop 4) := by
    unfold rdC rdN
    rw [if_neg h4]; rfl
  by_cases h5 : 4096 < numL big (l.take 4)
  · refine absurd ?_ hG
    unfold rdK
    rw [hC, if_pos h5]; rfl
  rw [if_neg h5] at hC
  have hP : rdK 4 h r big l = (rdL (rdG true h (-1)) (numL big (l.take 4)) (l.drop 4)).bind fun ts l3 => .ok (.mk 4 r 0 (fun _ => 0) ts) l3 := by
    unfold rdK
    rw [hC]; rfl
  by_cases h0 : numL big (l.take 4) = 0
  · rw [hP, h0]
    exact parseMpt_none V W pb r big l hr (by omega) h0 hw
  have hSm2 := hSm _ _ hC
  rw [hP] at hG hS ⊢
  refine parseMpt_some h ih V W pb r _ big l hr (by omega) rfl (by omega) (by omega) (fun e => hG (by rw [e]; rfl)) (fun ts l' e => hS _ l' (by rw [e]; rfl)) hSm2 hw
end Go.Proofs.YtlpaecafpbbbkaaGreatDoor
