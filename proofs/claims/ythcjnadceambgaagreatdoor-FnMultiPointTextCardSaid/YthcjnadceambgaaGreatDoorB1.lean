/- The package's text of a place and of a sequence. -/
import Derived.Test.YthcjnadceambgaaGreatDoorN
import Derived.Test.YthcjnadceambgaaGreatDoorS
namespace Go.Proofs.YthcjnadceambgaaGreatDoor
open Go.RowKit

set_option maxHeartbeats 400000 in
theorem Is3D_lit (d : Int) (b : Bool) (h : (d = 0 ∧ b = false) ∨ (d = 1 ∧ b = true) ∨ (d = 2 ∧ b = false) ∨ (d = 3 ∧ b = true)) (w : World) :
    Calls Tryz.prog 126 #[.int .u8 d] w fun e w' => e = .returned (.bool b) ∧ w' = w := by
  refine (Is3D_any d (by omega) (by omega) w).mono fun e w' ⟨he, hw⟩ => ⟨?_, hw⟩
  rw [he]
  rcases h with ⟨rfl, rfl⟩ | ⟨rfl, rfl⟩ | ⟨rfl, rfl⟩ | ⟨rfl, rfl⟩ <;> rfl
set_option maxHeartbeats 400000 in
theorem IsMeasured_lit (d : Int) (b : Bool) (h : (d = 0 ∧ b = false) ∨ (d = 1 ∧ b = false) ∨ (d = 2 ∧ b = true) ∨ (d = 3 ∧ b = true)) (w : World) :
    Calls Tryz.prog 153 #[.int .u8 d] w fun e w' => e = .returned (.bool b) ∧ w' = w := by
  rcases h with ⟨rfl, rfl⟩ | ⟨rfl, rfl⟩ | ⟨rfl, rfl⟩ | ⟨rfl, rfl⟩
  all_goals
    have b0 : bits .and .u8 0 2 = 0 := by kernel_rfl
    have b1 : bits .and .u8 1 2 = 0 := by kernel_rfl
    have b2 : bits .and .u8 2 2 = 2 := by kernel_rfl
    have b3 : bits .and .u8 3 2 = 2 := by kernel_rfl
    go_enter Tryz.func153, Tryz.ntmps153
    go_wp2
    go_ret
    exact ⟨rfl, rfl⟩

/-- A place in a text: its numbers with blanks between them. -/
noncomputable def wktPl (T : Nat → Int) (x y z m r : Nat) : List UInt8 := decT T x ++ [32] ++ decT T y ++ (if r % 2 = 1 then [32] ++ decT T z else []) ++ (if r / 2 = 1 then [32] ++ decT T m else [])
theorem wktPl_len (T : Nat → Int) (x y z m r : Nat) : (wktPl T x y z m r).length ≤ 16003 := by
  have h1 := decT_len T x
  have h2 := decT_len T y
  have h3 := decT_len T z
  have h4 := decT_len T m
  unfold wktPl
  split <;> split <;> (simp only [List.length_append, List.length_cons, List.length_nil]; omega)
def par (b : Bool) (c : UInt8) : List UInt8 := if b then [c] else []
theorem par_len (b : Bool) (c : UInt8) : (par b c).length ≤ 1 := by cases b <;> simp [par]

set_option maxRecDepth 100000 in
set_option maxHeartbeats 4000000 in
theorem appendWKTCoords_any (T : Nat → Int) (hT : ∀ i, U64 (T i)) (x y z m r : Nat) (d : Int) (hdr : d = r) (p : Bool) (hx : x < 18446744073709551616) (hy : y < 18446744073709551616) (hz : z < 18446744073709551616) (hm : m < 18446744073709551616) (hr : r < 4)
    (base : Nat) (v : Value) (l : List UInt8) (w : World) (hown : w.ownsRow base 5 1 v l.length (Bs l)) (hbase : base ≤ w.heap.size) (hl : l.length ≤ 35184372000000) (ht : Tabs T w) (hg3 : 3 < base) (hg2 : 2 < base) :
    Calls Tryz.prog 146 #[v, .agg #[.float .f64 x, .float .f64 y, .float .f64 z, .float .f64 m, .int .u8 d], .bool p] w (AppEnd 5 base w v (l ++ (par p 40 ++ wktPl T x y z m r ++ par p 41))) := by
  have hlx := decT_len T x
  have hly := decT_len T y
  have hlz := decT_len T z
  have hlm := decT_len T m
  have HG := Lib.hid (World.grownBy_alloc w (.cells #[.float .f64 x, .float .f64 y, .float .f64 z, .float .f64 m, .int .u8 d] 69) none)
  have HO := Lib.hid hown
  have H := AppB.start (hown.alloc (.cells #[.float .f64 x, .float .f64 y, .float .f64 z, .float .f64 m, .int .u8 d] 69))
  have HT := Lib.hid (ht.mono HG.out (by simp) (by simp))
  have hlt := hown.lt
  have hn3 : v.ownBlock ≠ some 3 := fun e => by have := hlt _ e; omega
  have hn2 : v.ownBlock ≠ some 2 := fun e => by have := hlt _ e; omega
  have hnb : v.ownBlock ≠ some w.heap.size := fun e => by have := hlt _ e; omega
  have hbase0 : base ≤ (w.alloc (.cells #[.float .f64 x, .float .f64 y, .float .f64 z, .float .f64 m, .int .u8 d] 69)).heap.size := by simp; omega
  have HC : Hid (∀ W v' l', AppB 5 base (w.alloc (.cells #[.float .f64 x, .float .f64 y, .float .f64 z, .float .f64 m, .int .u8 d] 69)) v W v' l' →
      W.cell? ⟨w.heap.size, 0, none⟩ = some (.float .f64 x) ∧ W.cell? ⟨w.heap.size, 1, none⟩ = some (.float .f64 y) ∧ W.cell? ⟨w.heap.size, 2, none⟩ = some (.float .f64 z) ∧ W.cell? ⟨w.heap.size, 3, none⟩ = some (.float .f64 m) ∧ W.cell? ⟨w.heap.size, 4, none⟩ = some (.int .u8 d)) := by
    intro W v' l' h
    refine ⟨?_, ?_, ?_, ?_, ?_⟩ <;> (rw [h.cell (by simp) hnb]; simp)
  obtain ⟨k0, k1, k2, k3, k4⟩ := HC.out _ _ _ H
  have hfin : Hid (∀ W v', AppB 5 base (w.alloc (.cells #[.float .f64 x, .float .f64 y, .float .f64 z, .float .f64 m, .int .u8 d] 69)) v W v' (l ++ (par p 40 ++ wktPl T x y z m r ++ par p 41)) → AppEnd 5 base w v (l ++ (par p 40 ++ wktPl T x y z m r ++ par p 41)) (.returned v') W) :=
    fun W v' h => ⟨v', rfl, AppB.later HO.out HG.out h⟩
  clear hown ht hlt hnb
  rcases (by omega : r = 0 ∨ r = 1 ∨ r = 2 ∨ r = 3) with rfl | rfl | rfl | rfl
  all_goals
    subst hdr
    cases p
  all_goals
    go_enter Tryz.func146, Tryz.ntmps146
    go_wp2_with (first
      | (at_builtin; refine app_byte rfl _ _ _ rfl Tryz.underlying33 infoB H rfl _ 40 rfl rfl (by first | rfl | simp) hbase0 (by (try simp only [List.length_append, List.length_cons, List.length_nil]); omega) ?_; intro v1 w1 H1; clear H; have H := H1; clear H1; clear k0 k1 k2 k3 k4; obtain ⟨k0, k1, k2, k3, k4⟩ := HC.out _ _ _ H)
      | (at_builtin; refine app_byte rfl _ _ _ rfl Tryz.underlying33 infoB H rfl _ 32 rfl rfl (by first | rfl | simp) hbase0 (by (try simp only [List.length_append, List.length_cons, List.length_nil]); omega) ?_; intro v1 w1 H1; clear H; have H := H1; clear H1; clear k0 k1 k2 k3 k4; obtain ⟨k0, k1, k2, k3, k4⟩ := HC.out _ _ _ H)
      | (at_builtin; refine app_byte rfl _ _ _ rfl Tryz.underlying33 infoB H rfl _ 41 rfl rfl (by first | rfl | simp) hbase0 (by (try simp only [List.length_append, List.length_cons, List.length_nil]); omega) ?_; intro v1 w1 H1; clear H; have H := H1; clear H1)
      | (go_at_call 125; refine (appendFloat_any T hT _ (by assumption) base _ _ _ H.own (H.based hbase0) (by (try simp only [List.length_append, List.length_cons, List.length_nil]); omega) (HT.out.mono H.grown hn3 hn2) hg3 hg2).mono ?_; rintro e w' ⟨v', rfl, H'⟩; have H1 := H.trans H'; clear H H'; have H := H1; clear H1; clear k0 k1 k2 k3 k4; obtain ⟨k0, k1, k2, k3, k4⟩ := HC.out _ _ _ H)
      | (go_at_call 126; refine (Is3D_lit _ _ (by first | exact .inl ⟨rfl, rfl⟩ | exact .inr (.inl ⟨rfl, rfl⟩) | exact .inr (.inr (.inl ⟨rfl, rfl⟩)) | exact .inr (.inr (.inr ⟨rfl, rfl⟩))) _).mono ?_; rintro e w' ⟨rfl, rfl⟩)
      | (go_at_call 153; refine (IsMeasured_lit _ _ (by first | exact .inl ⟨rfl, rfl⟩ | exact .inr (.inl ⟨rfl, rfl⟩) | exact .inr (.inr (.inl ⟨rfl, rfl⟩)) | exact .inr (.inr (.inr ⟨rfl, rfl⟩))) _).mono ?_; rintro e w' ⟨rfl, rfl⟩))
    go_ret
    refine hfin.out _ _ ?_
    simpa [wktPl, par, List.append_assoc] using H


/-- The text of a sequence's first k places. -/
noncomputable def wSeq (T : Nat → Int) (p : Bool) (r : Nat) (f : Nat → Nat) : Nat → List UInt8 := cTo fun k => par p 40 ++ wktPl T (plX r f k) (plY r f k) (plZ r f k) (plM r f k) r ++ par p 41
theorem wSeq_len (T : Nat → Int) (p : Bool) (r : Nat) (f : Nat → Nat) : ∀ k, (wSeq T p r f k).length ≤ k * 16006
  | 0 => by simp [wSeq, cTo]
  | k + 1 => by
    have h := wSeq_len T p r f k
    have h1 := wktPl_len T (plX r f k) (plY r f k) (plZ r f k) (plM r f k) r
    have h2 := par_len p 40
    have h3 := par_len p 41
    show (wSeq T p r f k ++ (if 0 < k then [44] else []) ++ (par p 40 ++ wktPl T (plX r f k) (plY r f k) (plZ r f k) (plM r f k) r ++ par p 41)).length ≤ _
    split <;> (simp only [List.length_append, List.length_cons, List.length_nil]; omega)
theorem fval_plM {W : World} {p : Option Addr} {n : Nat} {f : Nat → Nat} (h : FVal W p n f) (r i : Nat) : plM r f i < 18446744073709551616 := by unfold plM; split; exact h.lt _; omega
theorem fval_plZ {W : World} {p : Option Addr} {n : Nat} {f : Nat → Nat} (h : FVal W p n f) (r i : Nat) : plZ r f i < 18446744073709551616 := by unfold plZ; split; exact h.lt _; omega

set_option maxRecDepth 100000 in
set_option maxHeartbeats 2000000 in
theorem appendWKTSequence_any (T : Nat → Int) (hT : ∀ i, U64 (T i)) (r n : Nat) (a : Addr) (f : Nat → Nat) (p : Bool) (hr : r < 4) (hn : n ≤ 2000)
    (base : Nat) (v : Value) (l : List UInt8) (W : World) (hf : FVal W (some a) n f) (hab : a.block < base) (hown : W.ownsRow base 5 1 v l.length (Bs l)) (hbase : base ≤ W.heap.size) (hl : l.length ≤ 35000000000000) (ht : Tabs T W) (hg3 : 3 < base) (hg2 : 2 < base) :
    Calls Tryz.prog 143 #[v, .agg #[.int .u8 r, .slice (some a) n n], .bool p] W (AppEnd 5 base W v (l ++ [40] ++ wSeq T p r f (n / widN r) ++ [41])) := by
  have HG := Lib.hid (World.grownBy_alloc W (.cells #[.int .u8 r, .slice (some a) n n] 43) none)
  have HO := Lib.hid hown
  have H := AppB.start (hown.alloc (.cells #[.int .u8 r, .slice (some a) n n] 43))
  have HT := Lib.hid (ht.mono HG.out (by simp) (by simp))
  have hlt := hown.lt
  have hn3 : v.ownBlock ≠ some 3 := fun e => by have := hlt _ e; omega
  have hn2 : v.ownBlock ≠ some 2 := fun e => by have := hlt _ e; omega
  have hnb : v.ownBlock ≠ some W.heap.size := fun e => by have := hlt _ e; omega
  have hna : ∀ a', some a = some a' → v.ownBlock ≠ some a'.block := fun a' ha e => by have := hlt _ e; injection ha with ha; subst ha; omega
  have hbase0 : base ≤ (W.alloc (.cells #[.int .u8 r, .slice (some a) n n] 43)).heap.size := by simp; omega
  have HC : Hid (∀ W' v' l', AppB 5 base (W.alloc (.cells #[.int .u8 r, .slice (some a) n n] 43)) v W' v' l' → W'.cell? ⟨W.heap.size, 0, none⟩ = some (.int .u8 r) ∧ W'.cell? ⟨W.heap.size, 1, none⟩ = some (.slice (some a) n n)) := by
    intro W' v' l' h
    refine ⟨?_, ?_⟩ <;> (rw [h.cell (by simp) hnb]; simp)
  have HF : Hid (∀ W' v' l', AppB 5 base (W.alloc (.cells #[.int .u8 r, .slice (some a) n n] 43)) v W' v' l' → FVal W' (some a) n f) := fun W' v' l' h => (hf.mono HG.out).kept h.grown hna
  have hw2 : 2 ≤ widN r ∧ widN r ≤ 4 := by unfold widN; omega
  obtain ⟨L, hL⟩ : ∃ L : Nat, L = n / widN r := ⟨_, rfl⟩
  have hLb : L ≤ 2000 := by rw [hL]; exact Nat.le_trans (Nat.div_le_self _ _) hn
  have HLen := Lib.hid (fun W' => Length_any r n hr (some a) n hn W')
  have HGet := Lib.hid (fun (i : Nat) (hi : i < L) W' (h : FVal W' (some a) n f) => Get_any r n i a f hr hn (by
    rw [hL] at hi
    have h1 : (i + 1) * widN r ≤ n := Nat.le_trans (Nat.mul_le_mul_right _ hi) (Nat.div_mul_le_self n (widN r))
    rw [Nat.succ_mul] at h1; exact h1) W' h)
  have HCo := Lib.hid (fun (i : Nat) => appendWKTCoords_any T hT (plX r f i) (plY r f i) (plZ r f i) (plM r f i) r r rfl p (hf.lt _) (hf.lt _) (fval_plZ hf r i) (fval_plM hf r i) hr base)
  have HSL := Lib.hid (fun k (hk : k ≤ L) => wSeq_len T p r f k)
  rw [← hL] at HLen ⊢
  have hfin : Hid (∀ W' v', AppB 5 base (W.alloc (.cells #[.int .u8 r, .slice (some a) n n] 43)) v W' v' (l ++ [40] ++ wSeq T p r f L ++ [41]) → AppEnd 5 base W v (l ++ [40] ++ wSeq T p r f L ++ [41]) (.returned v') W') :=
    fun W' v' h => ⟨v', rfl, AppB.later HO.out HG.out h⟩
  obtain ⟨S, hS⟩ : ∃ S : Nat → List UInt8, S = wSeq T p r f := ⟨_, rfl⟩
  obtain ⟨s, hs⟩ : ∃ s : Nat → List UInt8, s = fun k => par p 40 ++ wktPl T (plX r f k) (plY r f k) (plZ r f k) (plM r f k) r ++ par p 41 := ⟨_, rfl⟩
  have hs' : ∀ k, par p 40 ++ wktPl T (plX r f k) (plY r f k) (plZ r f k) (plM r f k) r ++ par p 41 = s k := fun k => by rw [hs]
  simp only [hs'] at HCo
  rw [← hS] at HSL hfin ⊢
  have HSQ : Hid (∀ k, S (k + 1) = S k ++ (if 0 < k then [44] else []) ++ s k) := by rw [hS, hs]; exact fun k => rfl
  have hS0 : S 0 = [] := by rw [hS]; rfl
  clear hS hs hs' hL hf hown ht hlt hnb hna hw2
  go_enter Tryz.func143, Tryz.ntmps143
  go_wp2_with (first
      | (go_at_call 69; refine (HLen.out _).mono ?_; rintro e w' ⟨rfl, hgl⟩; have H1 := H.beside hgl; clear H; have H := H1; clear H1 hgl)
      | (at_builtin; refine app_byte rfl _ _ _ rfl Tryz.underlying33 infoB H rfl _ 40 rfl rfl (by first | rfl | simp) hbase0 (by (try simp only [List.length_append, List.length_cons, List.length_nil]); omega) ?_; intro v1 w1 H1; clear H; have H := H1; clear H1; obtain ⟨k0, k1⟩ := HC.out _ _ _ H))
  go_loopw [0, 8] (fun x i wr => ∃ k : Nat, k ≤ L ∧ i = .int .i64 k ∧ AppB 5 base (W.alloc (.cells #[.int .u8 r, .slice (some a) n n] 43)) v wr x (l ++ [40] ++ S k)) (fun _ i _ => L - (intOf i).toNat)
  case atStart => exact ⟨0, by omega, rfl, by rw [hS0, List.append_nil]; exact H⟩
  case round =>
    clear H
    obtain ⟨k, hk, rfl, H⟩ := hrel
    rename World => wr
    have hsl := HSL.out k hk
    have hsl2 : (S k).length ≤ 64024000 := by omega
    clear hsl
    obtain ⟨k0, k1⟩ := HC.out _ _ _ H
    by_cases hkL : k < L
    · by_cases hk0 : 0 < k
      · have e : S (k + 1) = S k ++ [44] ++ s k := by rw [HSQ.out k, if_pos hk0]
        go_wp2_with (first
      | (at_builtin; refine app_byte rfl _ _ _ rfl Tryz.underlying33 infoB H rfl _ 44 rfl rfl (by first | rfl | simp) hbase0 (by (try simp only [List.length_append, List.length_cons, List.length_nil]); omega) ?_; intro v1 w1 H1; clear H; have H := H1; clear H1; clear k0 k1; obtain ⟨k0, k1⟩ := HC.out _ _ _ H)
      | (go_at_call 72; refine (HGet.out k hkL _ (HF.out _ _ _ H)).mono ?_; rintro e w' ⟨rfl, hgl⟩; have H1 := H.beside hgl; clear H; have H := H1; clear H1 hgl)
      | (go_at_call 146; refine (HCo.out k _ _ _ H.own (H.based hbase0) (by (try simp only [List.length_append, List.length_cons, List.length_nil]); omega) (HT.out.mono H.grown hn3 hn2) hg3 hg2).mono ?_; rintro e w' ⟨v', rfl, H'⟩; have H1 := H.trans H'; clear H H'; have H := H1; clear H1))
        exact ⟨⟨k + 1, by omega, by go_num, by rw [e]; simpa only [List.append_assoc] using H⟩, by simp [intOf]; omega⟩
      · obtain rfl : k = 0 := by omega
        have e : S 1 = S 0 ++ [] ++ s 0 := by rw [HSQ.out 0, if_neg (by omega)]
        go_wp2_with (first
      | (go_at_call 72; refine (HGet.out 0 hkL _ (HF.out _ _ _ H)).mono ?_; rintro e w' ⟨rfl, hgl⟩; have H1 := H.beside hgl; clear H; have H := H1; clear H1 hgl)
      | (go_at_call 146; refine (HCo.out 0 _ _ _ H.own (H.based hbase0) (by (try simp only [List.length_append, List.length_cons, List.length_nil]); omega) (HT.out.mono H.grown hn3 hn2) hg3 hg2).mono ?_; rintro e w' ⟨v', rfl, H'⟩; have H1 := H.trans H'; clear H H'; have H := H1; clear H1))
        exact ⟨⟨1, by omega, by go_num, by rw [e]; simpa only [List.append_assoc, List.append_nil] using H⟩, by simp [intOf]; omega⟩
    · obtain rfl : k = L := by omega
      go_wp2_with (first
      | (at_builtin; refine app_byte rfl _ _ _ rfl Tryz.underlying33 infoB H rfl _ 41 rfl rfl (by first | rfl | simp) hbase0 (by (try simp only [List.length_append, List.length_cons, List.length_nil]); omega) ?_; intro v1 w1 H1; clear H; have H := H1; clear H1))
      go_ret
      exact hfin.out w1 v1 (by simpa only [List.append_assoc] using H)

end Go.Proofs.YthcjnadceambgaaGreatDoor
