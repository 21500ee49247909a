/- The package's text of a place and of a sequence. The package's text of a line string. The package's text of a line string: its methods. A geometry that can be read as data lies in memory as KG says. Geometries as trees of plain data, and how they lie in memory. What the reference makes of a geometry, and its text: plain functions. -/
import Derived.Lib.SmallJoins
import Derived.OpenShut
import Derived.ProofKit
import Derived.ChangeShapes
import Derived.Test.YthcjnadceambgaaGreatDoorJST3
namespace Go.Proofs.YthcjnadceambgaaGreatDoor
open Go.RowKit

set_option maxHeartbeats 400000 in
theorem Is3D_lit (d : Int) (b : Bool) (h : (d = 0 ∧ b = false) ∨ (d = 1 ∧ b = true) ∨ (d = 2 ∧ b = false) ∨ (d = 3 ∧ b = true)) (w : World) :
    Calls Tryz.prog 126 #[.int .u8 d] w fun e w' => e = .returned (.bool b) ∧ w' = w := by
  refine (Is3D_any d (by omega) (by omega) w).mono fun e w' ⟨he, hw⟩ => ⟨?_, hw⟩
  rw [he]
  rcases h with ⟨rfl, rfl⟩ | ⟨rfl, rfl⟩ | ⟨rfl, rfl⟩ | ⟨rfl, rfl⟩ <;> rfl
set_option maxHeartbeats 400000 in
theorem IsMeasured_lit (d : Int) (b : Bool) (h : (d = 0 ∧ b = false) ∨ (d = 1 ∧ b = false) ∨ (d = 2 ∧ b = true) ∨ (d = 3 ∧ b = true)) (w : World) :
    Calls Tryz.prog 153 #[.int .u8 d] w fun e w' => e = .returned (.bool b) ∧ w' = w := by
  rcases h with ⟨rfl, rfl⟩ | ⟨rfl, rfl⟩ | ⟨rfl, rfl⟩ | ⟨rfl, rfl⟩
  all_goals
    have b0 : bits .and .u8 0 2 = 0 := by kernel_rfl
    have b1 : bits .and .u8 1 2 = 0 := by kernel_rfl
    have b2 : bits .and .u8 2 2 = 2 := by kernel_rfl
    have b3 : bits .and .u8 3 2 = 2 := by kernel_rfl
    go_enter Tryz.func153, Tryz.ntmps153
    go_wp2
    go_ret
    exact ⟨rfl, rfl⟩

/-- A place in a text: its numbers with blanks between them. -/
noncomputable def wktPl (T : Nat → Int) (x y z m r : Nat) : List UInt8 := decT T x ++ [32] ++ decT T y ++ (if r % 2 = 1 then [32] ++ decT T z else []) ++ (if r / 2 = 1 then [32] ++ decT T m else [])
theorem wktPl_len (T : Nat → Int) (x y z m r : Nat) : (wktPl T x y z m r).length ≤ 16003 := by
  have h1 := decT_len T x
  have h2 := decT_len T y
  have h3 := decT_len T z
  have h4 := decT_len T m
  unfold wktPl
  split <;> split <;> (simp only [List.length_append, List.length_cons, List.length_nil]; omega)
def par (b : Bool) (c : UInt8) : List UInt8 := if b then [c] else []
theorem par_len (b : Bool) (c : UInt8) : (par b c).length ≤ 1 := by cases b <;> simp [par]

set_option maxRecDepth 100000 in
set_option maxHeartbeats 4000000 in
theorem appendWKTCoords_any (T : Nat → Int) (hT : ∀ i, U64 (T i)) (x y z m r : Nat) (d : Int) (hdr : d = r) (p : Bool) (hx : x < 18446744073709551616) (hy : y < 18446744073709551616) (hz : z < 18446744073709551616) (hm : m < 18446744073709551616) (hr : r < 4)
    (base : Nat) (v : Value) (l : List UInt8) (w : World) (hown : w.ownsRow base 5 1 v l.length (Bs l)) (hbase : base ≤ w.heap.size) (hl : l.length ≤ 35184372000000) (ht : Tabs T w) (hg3 : 3 < base) (hg2 : 2 < base) :
    Calls Tryz.prog 146 #[v, .agg #[.float .f64 x, .float .f64 y, .float .f64 z, .float .f64 m, .int .u8 d], .bool p] w (AppEnd 5 base w v (l ++ (par p 40 ++ wktPl T x y z m r ++ par p 41))) := by
  have hlx := decT_len T x
  have hly := decT_len T y
  have hlz := decT_len T z
  have hlm := decT_len T m
  have HG := Lib.hid (World.grownBy_alloc w (.cells #[.float .f64 x, .float .f64 y, .float .f64 z, .float .f64 m, .int .u8 d] 69) none)
  have HO := Lib.hid hown
  have H := AppB.start (hown.alloc (.cells #[.float .f64 x, .float .f64 y, .float .f64 z, .float .f64 m, .int .u8 d] 69))
  have HT := Lib.hid (ht.mono HG.out (by simp) (by simp))
  have hlt := hown.lt
  have hn3 : v.ownBlock ≠ some 3 := fun e => by have := hlt _ e; omega
  have hn2 : v.ownBlock ≠ some 2 := fun e => by have := hlt _ e; omega
  have hnb : v.ownBlock ≠ some w.heap.size := fun e => by have := hlt _ e; omega
  have hbase0 : base ≤ (w.alloc (.cells #[.float .f64 x, .float .f64 y, .float .f64 z, .float .f64 m, .int .u8 d] 69)).heap.size := by simp; omega
  have HC : Hid (∀ W v' l', AppB 5 base (w.alloc (.cells #[.float .f64 x, .float .f64 y, .float .f64 z, .float .f64 m, .int .u8 d] 69)) v W v' l' →
      W.cell? ⟨w.heap.size, 0, none⟩ = some (.float .f64 x) ∧ W.cell? ⟨w.heap.size, 1, none⟩ = some (.float .f64 y) ∧ W.cell? ⟨w.heap.size, 2, none⟩ = some (.float .f64 z) ∧ W.cell? ⟨w.heap.size, 3, none⟩ = some (.float .f64 m) ∧ W.cell? ⟨w.heap.size, 4, none⟩ = some (.int .u8 d)) := by
    intro W v' l' h
    refine ⟨?_, ?_, ?_, ?_, ?_⟩ <;> (rw [h.cell (by simp) hnb]; simp)
  obtain ⟨k0, k1, k2, k3, k4⟩ := HC.out _ _ _ H
  have hfin : Hid (∀ W v', AppB 5 base (w.alloc (.cells #[.float .f64 x, .float .f64 y, .float .f64 z, .float .f64 m, .int .u8 d] 69)) v W v' (l ++ (par p 40 ++ wktPl T x y z m r ++ par p 41)) → AppEnd 5 base w v (l ++ (par p 40 ++ wktPl T x y z m r ++ par p 41)) (.returned v') W) :=
    fun W v' h => ⟨v', rfl, AppB.later HO.out HG.out h⟩
  clear hown ht hlt hnb
  rcases (by omega : r = 0 ∨ r = 1 ∨ r = 2 ∨ r = 3) with rfl | rfl | rfl | rfl
  all_goals
    subst hdr
    cases p
  all_goals
    go_enter Tryz.func146, Tryz.ntmps146
    go_wp2_with (first
      | (at_builtin; refine app_byte rfl _ _ _ rfl Tryz.underlying33 infoB H rfl _ 40 rfl rfl (by first | rfl | simp) hbase0 (by (try simp only [List.length_append, List.length_cons, List.length_nil]); omega) ?_; intro v1 w1 H1; clear H; have H := H1; clear H1; clear k0 k1 k2 k3 k4; obtain ⟨k0, k1, k2, k3, k4⟩ := HC.out _ _ _ H)
      | (at_builtin; refine app_byte rfl _ _ _ rfl Tryz.underlying33 infoB H rfl _ 32 rfl rfl (by first | rfl | simp) hbase0 (by (try simp only [List.length_append, List.length_cons, List.length_nil]); omega) ?_; intro v1 w1 H1; clear H; have H := H1; clear H1; clear k0 k1 k2 k3 k4; obtain ⟨k0, k1, k2, k3, k4⟩ := HC.out _ _ _ H)
      | (at_builtin; refine app_byte rfl _ _ _ rfl Tryz.underlying33 infoB H rfl _ 41 rfl rfl (by first | rfl | simp) hbase0 (by (try simp only [List.length_append, List.length_cons, List.length_nil]); omega) ?_; intro v1 w1 H1; clear H; have H := H1; clear H1)
      | (go_at_call 125; refine (appendFloat_any T hT _ (by assumption) base _ _ _ H.own (H.based hbase0) (by (try simp only [List.length_append, List.length_cons, List.length_nil]); omega) (HT.out.mono H.grown hn3 hn2) hg3 hg2).mono ?_; rintro e w' ⟨v', rfl, H'⟩; have H1 := H.trans H'; clear H H'; have H := H1; clear H1; clear k0 k1 k2 k3 k4; obtain ⟨k0, k1, k2, k3, k4⟩ := HC.out _ _ _ H)
      | (go_at_call 126; refine (Is3D_lit _ _ (by first | exact .inl ⟨rfl, rfl⟩ | exact .inr (.inl ⟨rfl, rfl⟩) | exact .inr (.inr (.inl ⟨rfl, rfl⟩)) | exact .inr (.inr (.inr ⟨rfl, rfl⟩))) _).mono ?_; rintro e w' ⟨rfl, rfl⟩)
      | (go_at_call 153; refine (IsMeasured_lit _ _ (by first | exact .inl ⟨rfl, rfl⟩ | exact .inr (.inl ⟨rfl, rfl⟩) | exact .inr (.inr (.inl ⟨rfl, rfl⟩)) | exact .inr (.inr (.inr ⟨rfl, rfl⟩))) _).mono ?_; rintro e w' ⟨rfl, rfl⟩))
    go_ret
    refine hfin.out _ _ ?_
    simpa [wktPl, par, List.append_assoc] using H


/-- The text of a sequence's first k places. -/
noncomputable def wSeq (T : Nat → Int) (p : Bool) (r : Nat) (f : Nat → Nat) : Nat → List UInt8 := cTo fun k => par p 40 ++ wktPl T (plX r f k) (plY r f k) (plZ r f k) (plM r f k) r ++ par p 41
theorem wSeq_len (T : Nat → Int) (p : Bool) (r : Nat) (f : Nat → Nat) : ∀ k, (wSeq T p r f k).length ≤ k * 16006
  | 0 => by simp [wSeq, cTo]
  | k + 1 => by
    have h := wSeq_len T p r f k
    have h1 := wktPl_len T (plX r f k) (plY r f k) (plZ r f k) (plM r f k) r
    have h2 := par_len p 40
    have h3 := par_len p 41
    show (wSeq T p r f k ++ (if 0 < k then [44] else []) ++ (par p 40 ++ wktPl T (plX r f k) (plY r f k) (plZ r f k) (plM r f k) r ++ par p 41)).length ≤ _
    split <;> (simp only [List.length_append, List.length_cons, List.length_nil]; omega)
theorem fval_plM {W : World} {p : Option Addr} {n : Nat} {f : Nat → Nat} (h : FVal W p n f) (r i : Nat) : plM r f i < 18446744073709551616 := by unfold plM; split; exact h.lt _; omega
theorem fval_plZ {W : World} {p : Option Addr} {n : Nat} {f : Nat → Nat} (h : FVal W p n f) (r i : Nat) : plZ r f i < 18446744073709551616 := by unfold plZ; split; exact h.lt _; omega

set_option maxRecDepth 100000 in
set_option maxHeartbeats 2000000 in
theorem appendWKTSequence_any (T : Nat → Int) (hT : ∀ i, U64 (T i)) (r n : Nat) (a : Addr) (f : Nat → Nat) (p : Bool) (hr : r < 4) (hn : n ≤ 2000)
    (base : Nat) (v : Value) (l : List UInt8) (W : World) (hf : FVal W (some a) n f) (hab : a.block < base) (hown : W.ownsRow base 5 1 v l.length (Bs l)) (hbase : base ≤ W.heap.size) (hl : l.length ≤ 35000000000000) (ht : Tabs T W) (hg3 : 3 < base) (hg2 : 2 < base) :
    Calls Tryz.prog 143 #[v, .agg #[.int .u8 r, .slice (some a) n n], .bool p] W (AppEnd 5 base W v (l ++ [40] ++ wSeq T p r f (n / widN r) ++ [41])) := by
  have HG := Lib.hid (World.grownBy_alloc W (.cells #[.int .u8 r, .slice (some a) n n] 43) none)
  have HO := Lib.hid hown
  have H := AppB.start (hown.alloc (.cells #[.int .u8 r, .slice (some a) n n] 43))
  have HT := Lib.hid (ht.mono HG.out (by simp) (by simp))
  have hlt := hown.lt
  have hn3 : v.ownBlock ≠ some 3 := fun e => by have := hlt _ e; omega
  have hn2 : v.ownBlock ≠ some 2 := fun e => by have := hlt _ e; omega
  have hnb : v.ownBlock ≠ some W.heap.size := fun e => by have := hlt _ e; omega
  have hna : ∀ a', some a = some a' → v.ownBlock ≠ some a'.block := fun a' ha e => by have := hlt _ e; injection ha with ha; subst ha; omega
  have hbase0 : base ≤ (W.alloc (.cells #[.int .u8 r, .slice (some a) n n] 43)).heap.size := by simp; omega
  have HC : Hid (∀ W' v' l', AppB 5 base (W.alloc (.cells #[.int .u8 r, .slice (some a) n n] 43)) v W' v' l' → W'.cell? ⟨W.heap.size, 0, none⟩ = some (.int .u8 r) ∧ W'.cell? ⟨W.heap.size, 1, none⟩ = some (.slice (some a) n n)) := by
    intro W' v' l' h
    refine ⟨?_, ?_⟩ <;> (rw [h.cell (by simp) hnb]; simp)
  have HF : Hid (∀ W' v' l', AppB 5 base (W.alloc (.cells #[.int .u8 r, .slice (some a) n n] 43)) v W' v' l' → FVal W' (some a) n f) := fun W' v' l' h => (hf.mono HG.out).kept h.grown hna
  have hw2 : 2 ≤ widN r ∧ widN r ≤ 4 := by unfold widN; omega
  obtain ⟨L, hL⟩ : ∃ L : Nat, L = n / widN r := ⟨_, rfl⟩
  have hLb : L ≤ 2000 := by rw [hL]; exact Nat.le_trans (Nat.div_le_self _ _) hn
  have HLen := Lib.hid (fun W' => Length_any r n hr (some a) n hn W')
  have HGet := Lib.hid (fun (i : Nat) (hi : i < L) W' (h : FVal W' (some a) n f) => Get_any r n i a f hr hn (by
    rw [hL] at hi
    have h1 : (i + 1) * widN r ≤ n := Nat.le_trans (Nat.mul_le_mul_right _ hi) (Nat.div_mul_le_self n (widN r))
    rw [Nat.succ_mul] at h1; exact h1) W' h)
  have HCo := Lib.hid (fun (i : Nat) => appendWKTCoords_any T hT (plX r f i) (plY r f i) (plZ r f i) (plM r f i) r r rfl p (hf.lt _) (hf.lt _) (fval_plZ hf r i) (fval_plM hf r i) hr base)
  have HSL := Lib.hid (fun k (hk : k ≤ L) => wSeq_len T p r f k)
  rw [← hL] at HLen ⊢
  have hfin : Hid (∀ W' v', AppB 5 base (W.alloc (.cells #[.int .u8 r, .slice (some a) n n] 43)) v W' v' (l ++ [40] ++ wSeq T p r f L ++ [41]) → AppEnd 5 base W v (l ++ [40] ++ wSeq T p r f L ++ [41]) (.returned v') W') :=
    fun W' v' h => ⟨v', rfl, AppB.later HO.out HG.out h⟩
  obtain ⟨S, hS⟩ : ∃ S : Nat → List UInt8, S = wSeq T p r f := ⟨_, rfl⟩
  obtain ⟨s, hs⟩ : ∃ s : Nat → List UInt8, s = fun k => par p 40 ++ wktPl T (plX r f k) (plY r f k) (plZ r f k) (plM r f k) r ++ par p 41 := ⟨_, rfl⟩
  have hs' : ∀ k, par p 40 ++ wktPl T (plX r f k) (plY r f k) (plZ r f k) (plM r f k) r ++ par p 41 = s k := fun k => by rw [hs]
  simp only [hs'] at HCo
  rw [← hS] at HSL hfin ⊢
  have HSQ : Hid (∀ k, S (k + 1) = S k ++ (if 0 < k then [44] else []) ++ s k) := by rw [hS, hs]; exact fun k => rfl
  have hS0 : S 0 = [] := by rw [hS]; rfl
  clear hS hs hs' hL hf hown ht hlt hnb hna hw2
  go_enter Tryz.func143, Tryz.ntmps143
  go_wp2_with (first
      | (go_at_call 69; refine (HLen.out _).mono ?_; rintro e w' ⟨rfl, hgl⟩; have H1 := H.beside hgl; clear H; have H := H1; clear H1 hgl)
      | (at_builtin; refine app_byte rfl _ _ _ rfl Tryz.underlying33 infoB H rfl _ 40 rfl rfl (by first | rfl | simp) hbase0 (by (try simp only [List.length_append, List.length_cons, List.length_nil]); omega) ?_; intro v1 w1 H1; clear H; have H := H1; clear H1; obtain ⟨k0, k1⟩ := HC.out _ _ _ H))
  go_loopw [0, 8] (fun x i wr => ∃ k : Nat, k ≤ L ∧ i = .int .i64 k ∧ AppB 5 base (W.alloc (.cells #[.int .u8 r, .slice (some a) n n] 43)) v wr x (l ++ [40] ++ S k)) (fun _ i _ => L - (intOf i).toNat)
  case atStart => exact ⟨0, by omega, rfl, by rw [hS0, List.append_nil]; exact H⟩
  case round =>
    clear H
    obtain ⟨k, hk, rfl, H⟩ := hrel
    rename World => wr
    have hsl := HSL.out k hk
    have hsl2 : (S k).length ≤ 64024000 := by omega
    clear hsl
    obtain ⟨k0, k1⟩ := HC.out _ _ _ H
    by_cases hkL : k < L
    · by_cases hk0 : 0 < k
      · have e : S (k + 1) = S k ++ [44] ++ s k := by rw [HSQ.out k, if_pos hk0]
        go_wp2_with (first
      | (at_builtin; refine app_byte rfl _ _ _ rfl Tryz.underlying33 infoB H rfl _ 44 rfl rfl (by first | rfl | simp) hbase0 (by (try simp only [List.length_append, List.length_cons, List.length_nil]); omega) ?_; intro v1 w1 H1; clear H; have H := H1; clear H1; clear k0 k1; obtain ⟨k0, k1⟩ := HC.out _ _ _ H)
      | (go_at_call 72; refine (HGet.out k hkL _ (HF.out _ _ _ H)).mono ?_; rintro e w' ⟨rfl, hgl⟩; have H1 := H.beside hgl; clear H; have H := H1; clear H1 hgl)
      | (go_at_call 146; refine (HCo.out k _ _ _ H.own (H.based hbase0) (by (try simp only [List.length_append, List.length_cons, List.length_nil]); omega) (HT.out.mono H.grown hn3 hn2) hg3 hg2).mono ?_; rintro e w' ⟨v', rfl, H'⟩; have H1 := H.trans H'; clear H H'; have H := H1; clear H1))
        exact ⟨⟨k + 1, by omega, by go_num, by rw [e]; simpa only [List.append_assoc] using H⟩, by simp [intOf]; omega⟩
      · obtain rfl : k = 0 := by omega
        have e : S 1 = S 0 ++ [] ++ s 0 := by rw [HSQ.out 0, if_neg (by omega)]
        go_wp2_with (first
      | (go_at_call 72; refine (HGet.out 0 hkL _ (HF.out _ _ _ H)).mono ?_; rintro e w' ⟨rfl, hgl⟩; have H1 := H.beside hgl; clear H; have H := H1; clear H1 hgl)
      | (go_at_call 146; refine (HCo.out 0 _ _ _ H.own (H.based hbase0) (by (try simp only [List.length_append, List.length_cons, List.length_nil]); omega) (HT.out.mono H.grown hn3 hn2) hg3 hg2).mono ?_; rintro e w' ⟨v', rfl, H'⟩; have H1 := H.trans H'; clear H H'; have H := H1; clear H1))
        exact ⟨⟨1, by omega, by go_num, by rw [e]; simpa only [List.append_assoc, List.append_nil] using H⟩, by simp [intOf]; omega⟩
    · obtain rfl : k = L := by omega
      go_wp2_with (first
      | (at_builtin; refine app_byte rfl _ _ _ rfl Tryz.underlying33 infoB H rfl _ 41 rfl rfl (by first | rfl | simp) hbase0 (by (try simp only [List.length_append, List.length_cons, List.length_nil]); omega) ?_; intro v1 w1 H1; clear H; have H := H1; clear H1))
      go_ret
      exact hfin.out w1 v1 (by simpa only [List.append_assoc] using H)

end Go.Proofs.YthcjnadceambgaaGreatDoor
namespace Go.Proofs.YthcjnadceambgaaGreatDoor
open Go.RowKit

def tag : Nat → List UInt8
  | 0 => []
  | 1 => [32, 90, 32]
  | 2 => [32, 77, 32]
  | _ => [32, 90, 77, 32]
def EMPTY : List UInt8 := [69, 77, 80, 84, 89]
def wE (c : UInt8) : List UInt8 := if c = 40 ∨ c = 44 ∨ c = 32 then EMPTY else 32 :: EMPTY

set_option maxRecDepth 100000 in
set_option maxHeartbeats 1000000 in
theorem appendWKTHeader_any (name : List UInt8) (r : Nat) (hr : r < 4) (hname : name.length ≤ 100)
    (base : Nat) (v : Value) (l : List UInt8) (w : World) (hown : w.ownsRow base 5 1 v l.length (Bs l)) (hbase : base ≤ w.heap.size) (hl : l.length ≤ 35000000000000) :
    Calls Tryz.prog 116 #[v, .string ⟨name.toArray⟩, .int .u8 r] w (AppEnd 5 base w v (l ++ (name ++ tag r))) := by
  have H := AppB.start hown
  clear hown
  have hsz : (⟨name.toArray⟩ : ByteArray).size = name.length := by simp [ByteArray.size]
  rcases (by omega : r = 0 ∨ r = 1 ∨ r = 2 ∨ r = 3) with rfl | rfl | rfl | rfl
  all_goals
    have i0 : ∀ (w : World), (Instr.index 157 (.agg #[.string ⟨#[]⟩, .string ⟨#[32, 90, 32]⟩, .string ⟨#[32, 77, 32]⟩, .string ⟨#[32, 90, 77, 32]⟩]) (.int .u8 0)).run Tryz.prog w = .ok (.string ⟨#[]⟩) w := fun _ => by kernel_rfl
    have i1 : ∀ (w : World), (Instr.index 157 (.agg #[.string ⟨#[]⟩, .string ⟨#[32, 90, 32]⟩, .string ⟨#[32, 77, 32]⟩, .string ⟨#[32, 90, 77, 32]⟩]) (.int .u8 1)).run Tryz.prog w = .ok (.string ⟨#[32, 90, 32]⟩) w := fun _ => by kernel_rfl
    have i2 : ∀ (w : World), (Instr.index 157 (.agg #[.string ⟨#[]⟩, .string ⟨#[32, 90, 32]⟩, .string ⟨#[32, 77, 32]⟩, .string ⟨#[32, 90, 77, 32]⟩]) (.int .u8 2)).run Tryz.prog w = .ok (.string ⟨#[32, 77, 32]⟩) w := fun _ => by kernel_rfl
    have i3 : ∀ (w : World), (Instr.index 157 (.agg #[.string ⟨#[]⟩, .string ⟨#[32, 90, 32]⟩, .string ⟨#[32, 77, 32]⟩, .string ⟨#[32, 90, 77, 32]⟩]) (.int .u8 3)).run Tryz.prog w = .ok (.string ⟨#[32, 90, 77, 32]⟩) w := fun _ => by kernel_rfl
    go_enter Tryz.func116, Tryz.ntmps116
    go_wp2_with (first
      | (at_builtin; refine app_str rfl _ _ _ _ rfl Tryz.underlying33 Tryz.underlying9 infoB H rfl _ rfl hbase (by (try rw [hsz]); (try simp only [List.length_append, List.length_cons, List.length_nil]); (try simp [ByteArray.size]); omega) ?_; intro v1 w1 H1; clear H; have H := H1; clear H1))
    go_ret
    exact ⟨_, rfl, by simpa [tag, List.append_assoc] using H⟩

set_option maxRecDepth 100000 in
set_option maxHeartbeats 1000000 in
theorem appendWKTEmpty_any (l' : List UInt8) (c : UInt8)
    (base : Nat) (v : Value) (l : List UInt8) (hl' : l = l' ++ [c]) (w : World) (hown : w.ownsRow base 5 1 v l.length (Bs l)) (hbase : base ≤ w.heap.size) (hl : l.length ≤ 35000000000000) :
    Calls Tryz.prog 120 #[v] w (AppEnd 5 base w v (l ++ wE c)) := by
  have H := AppB.start hown
  obtain ⟨n, hn⟩ : ∃ n, n = l'.length := ⟨_, rfl⟩
  have hlen : l.length = n + 1 := by rw [hl', hn]; simp
  obtain ⟨a, cap, rfl, hcell⟩ : ∃ a cap, v = .slice (some a) (n + 1) cap ∧ w.cell? (a.add n) = some (.int .u8 (c.toNat : Int)) := by
    rcases hown.2 with ⟨_, h0⟩ | ⟨g, cap, cur, hv, _⟩
    · omega
    · refine ⟨⟨g, 0, none⟩, cap, by rw [hv, hlen], hown.cells (g := g) (by rw [hv]; rfl) n _ ?_⟩
      rw [hl', hn]
      simp [Bs]
  have hln : n ≤ 35000000000000 := by omega
  clear hown hn hl'
  by_cases h1 : c = 40 ∨ c = 44 ∨ c = 32
  · have e : wE c = EMPTY := by unfold wE; rw [if_pos h1]
    rw [e]
    clear e
    rcases h1 with rfl | rfl | rfl
    all_goals
      go_enter Tryz.func120, Tryz.ntmps120
      go_wp2_with (first
        | (at_builtin; refine app_str rfl _ _ _ _ rfl Tryz.underlying33 Tryz.underlying9 infoB H rfl _ rfl hbase (by (try simp only [List.length_append, List.length_cons, List.length_nil]); (try simp [ByteArray.size]); omega) ?_; intro v1 w1 H1; clear H; have H := H1; clear H1))
      go_ret
      exact ⟨_, rfl, by simpa [EMPTY] using H⟩
  · have e : wE c = 32 :: EMPTY := by unfold wE; rw [if_neg h1]
    rw [e]
    have hc := c.toNat_lt
    have n1 : ¬ c.toNat = 40 := fun h => h1 (.inl (UInt8.toNat_inj.1 (h.trans (by rfl))))
    have n2 : ¬ c.toNat = 44 := fun h => h1 (.inr (.inl (UInt8.toNat_inj.1 (h.trans (by rfl)))))
    have n3 : ¬ c.toNat = 32 := fun h => h1 (.inr (.inr (UInt8.toNat_inj.1 (h.trans (by rfl)))))
    have m1 : ((c.toNat : Int) == 40) = false := by simpa using fun h => n1 (by omega)
    have m2 : ((c.toNat : Int) == 44) = false := by simpa using fun h => n2 (by omega)
    have m3 : ((c.toNat : Int) == 32) = false := by simpa using fun h => n3 (by omega)
    clear e h1 n1 n2 n3
    go_enter Tryz.func120, Tryz.ntmps120
    go_wp2_with (first
      | (at_builtin; refine app_byte rfl _ _ _ rfl Tryz.underlying33 infoB H rfl _ 32 rfl rfl (by first | rfl | simp) hbase (by omega) ?_; intro v1 w1 H1; clear H; have H := H1; clear H1)
      | (at_builtin; refine app_str rfl _ _ _ _ rfl Tryz.underlying33 Tryz.underlying9 infoB H rfl _ rfl hbase (by (try simp only [List.length_append, List.length_cons, List.length_nil]); (try simp [ByteArray.size]); omega) ?_; intro v1 w1 H1; clear H; have H := H1; clear H1))
    go_ret
    exact ⟨_, rfl, by simpa [EMPTY] using H⟩
end Go.Proofs.YthcjnadceambgaaGreatDoor
namespace Go.Proofs.YthcjnadceambgaaGreatDoor
open Go.RowKit

/-- The text behind a line string's name and tag; c is what stands ahead of it. -/
noncomputable def lineB (T : Nat → Int) (c : UInt8) (r n : Nat) (f : Nat → Nat) : List UInt8 := if n / widN r = 0 then wE c else [40] ++ wSeq T false r f (n / widN r) ++ [41]
theorem wE_len (c : UInt8) : (wE c).length ≤ 6 := by unfold wE EMPTY; split <;> decide
theorem lineB_len (T : Nat → Int) (c : UInt8) (r n : Nat) (f : Nat → Nat) (hn : n ≤ 2000) : (lineB T c r n f).length ≤ 32012008 := by
  have h := wSeq_len T false r f (n / widN r)
  have h1 := wE_len c
  have h2 : n / widN r ≤ 2000 := Nat.le_trans (Nat.div_le_self _ _) hn
  unfold lineB
  split
  · omega
  · simp only [List.length_append, List.length_cons, List.length_nil]; omega

set_option maxRecDepth 100000 in
set_option maxHeartbeats 1000000 in
theorem LineIsEmpty_any (r n : Nat) (hr : r < 4) (a : Option Addr) (hn : n ≤ 2000) (W : World) :
    Calls Tryz.prog 142 #[.agg #[.int .u8 r, .slice a n n]] W fun e w' => e = .returned (.bool (((n / widN r : Nat) : Int) == 0)) ∧ W.grownBy w' none := by
  have HL := Lib.hid (fun w => Length_any r n hr a n hn w)
  have HG := Lib.hid (World.grownBy_alloc W (.cells #[.int .u8 r, .slice a n n] 45) none)
  generalize n / widN r = L at HL ⊢
  go_enter Tryz.func142, Tryz.ntmps142
  go_wp2_with (first | (go_at_call 69; refine (HL.out _).mono ?_; rintro e w' ⟨rfl, hg⟩))
  go_ret
  exact ⟨rfl, gt_trans HG.out hg (.inl rfl)⟩

set_option maxRecDepth 100000 in
set_option maxHeartbeats 1000000 in
theorem LineBody_any (T : Nat → Int) (hT : ∀ i, U64 (T i)) (r n : Nat) (a : Addr) (f : Nat → Nat) (hr : r < 4) (hn : n ≤ 2000) (l' : List UInt8) (c : UInt8)
    (base : Nat) (v : Value) (l : List UInt8) (hl' : l = l' ++ [c]) (W : World) (hf : FVal W (some a) n f) (hab : a.block < base) (hown : W.ownsRow base 5 1 v l.length (Bs l)) (hbase : base ≤ W.heap.size) (hl : l.length ≤ 35000000000000) (ht : Tabs T W) (hg3 : 3 < base) (hg2 : 2 < base) :
    Calls Tryz.prog 117 #[.agg #[.int .u8 r, .slice (some a) n n], v] W (AppEnd 5 base W v (l ++ lineB T c r n f)) := by
  have HG := Lib.hid (World.grownBy_alloc W (.cells #[.int .u8 r, .slice (some a) n n] 45) none)
  have HO := Lib.hid hown
  have HC : Hid (∀ W', (W.alloc (.cells #[.int .u8 r, .slice (some a) n n] 45)).grownBy W' none → W'.cell? ⟨W.heap.size, 0, none⟩ = some (.int .u8 r) ∧ W'.cell? ⟨W.heap.size, 1, none⟩ = some (.slice (some a) n n)) := fun W' g => ⟨g.cell (by simp) (by simp), g.cell (by simp) (by simp)⟩
  have HIE := Lib.hid (fun w => LineIsEmpty_any r n hr (some a) hn w)
  have HE := Lib.hid (fun w (h : w.ownsRow base 5 1 v l.length (Bs l)) (hb : base ≤ w.heap.size) => appendWKTEmpty_any l' c base v l hl' w h hb hl)
  have HS := Lib.hid (fun w (hf : FVal w (some a) n f) (h : w.ownsRow base 5 1 v l.length (Bs l)) (hb : base ≤ w.heap.size) (ht : Tabs T w) => appendWKTSequence_any T hT r n a f false hr hn base v l w hf hab h hb hl ht hg3 hg2)
  have hfin : Hid (∀ s W1 W' v', W.grownBy W1 none → AppB 5 base W1 v W' v' s → AppEnd 5 base W v s (.returned v') W') := fun s W1 W' v' g h => ⟨v', rfl, AppB.later HO.out g h⟩
  have HF := Lib.hid (fun w (g : W.grownBy w none) => hf.mono g)
  have HT := Lib.hid (fun w (g : W.grownBy w none) => ht.mono g (by simp) (by simp))
  have HB : Hid (∀ w, W.grownBy w none → base ≤ w.heap.size) := fun w g => Nat.le_trans hbase g.size
  clear hf ht hown
  by_cases hL : n / widN r = 0
  · have e : lineB T c r n f = wE c := by unfold lineB; rw [if_pos hL]
    rw [e]
    have hb : (((n / widN r : Nat) : Int) == 0) = true := by rw [hL]; rfl
    rw [hb] at HIE
    clear e hb hL
    go_enter Tryz.func117, Tryz.ntmps117
    go_wp2_with (first
      | (go_at_call 142; refine (HIE.out _).mono ?_; rintro e w' ⟨rfl, hg⟩; have G := gt_trans HG.out hg (.inl rfl); obtain ⟨k0, k1⟩ := HC.out _ hg)
      | (go_at_call 120; refine (HE.out _ (own_later HO.out G) (HB.out _ G)).mono ?_; rintro e w2 ⟨v', rfl, H⟩))
    go_ret
    exact hfin.out _ _ _ _ G H
  · have e : lineB T c r n f = [40] ++ wSeq T false r f (n / widN r) ++ [41] := by unfold lineB; rw [if_neg hL]
    rw [e]
    have hb : (((n / widN r : Nat) : Int) == 0) = false := by simp only [beq_eq_false_iff_ne]; omega
    rw [hb] at HIE
    clear e hb hL
    go_enter Tryz.func117, Tryz.ntmps117
    go_wp2_with (first
      | (go_at_call 142; refine (HIE.out _).mono ?_; rintro e w' ⟨rfl, hg⟩; have G := gt_trans HG.out hg (.inl rfl); obtain ⟨k0, k1⟩ := HC.out _ hg)
      | (go_at_call 143; refine (HS.out _ (HF.out _ G) (own_later HO.out G) (HB.out _ G) (HT.out _ G)).mono ?_; rintro e w2 ⟨v', rfl, H⟩))
    go_ret
    have H1 : AppB 5 base w' v w2 v' (l ++ ([40] ++ wSeq T false r f (n / widN r) ++ [41])) := by simpa only [List.append_assoc] using H
    exact hfin.out _ _ _ _ G H1

theorem tag_last (name : List UInt8) (c0 : UInt8) (r : Nat) (hr : r < 4) : ∃ l', (name ++ [c0]) ++ tag r = l' ++ [if r = 0 then c0 else 32] := by
  rcases (by omega : r = 0 ∨ r = 1 ∨ r = 2 ∨ r = 3) with rfl | rfl | rfl | rfl
  · exact ⟨name, by simp [tag]⟩
  · exact ⟨name ++ [c0] ++ [32, 90], by simp [tag]⟩
  · exact ⟨name ++ [c0] ++ [32, 77], by simp [tag]⟩
  · exact ⟨name ++ [c0] ++ [32, 90, 77], by simp [tag]⟩
def nLINE : List UInt8 := [76, 73, 78, 69, 83, 84, 82, 73, 78, 71]
noncomputable def lineW (T : Nat → Int) (r n : Nat) (f : Nat → Nat) : List UInt8 := nLINE ++ tag r ++ lineB T (if r = 0 then 71 else 32) r n f
theorem tag_len (r : Nat) : (tag r).length ≤ 4 := by
  match r with
  | 0 => decide
  | 1 => decide
  | 2 => decide
  | n + 3 => simp [tag]
theorem lineW_len (T : Nat → Int) (r n : Nat) (f : Nat → Nat) (hn : n ≤ 2000) : (lineW T r n f).length ≤ 32012100 := by
  have h := lineB_len T (if r = 0 then 71 else 32) r n f hn
  have h1 := tag_len r
  unfold lineW nLINE
  simp only [List.length_append, List.length_cons, List.length_nil]; omega

set_option maxRecDepth 100000 in
set_option maxHeartbeats 1000000 in
theorem LineCT_any (r : Nat) (y : Value) (hy : ∃ p n c, y = .slice p n c) (W : World) :
    Calls Tryz.prog 100 #[.agg #[.int .u8 r, y]] W fun e w' => e = .returned (.int .u8 r) ∧ W.grownBy w' none := by
  obtain ⟨p, n, c, rfl⟩ := hy
  go_enter Tryz.func100, Tryz.ntmps100
  go_wp2_with go_in
  go_ret
  exact ⟨rfl, gt_alloc_r (World.grownBy_alloc _ _ _) _⟩

set_option maxRecDepth 100000 in
set_option maxHeartbeats 2000000 in
theorem LineAppendWKT_nil (T : Nat → Int) (hT : ∀ i, U64 (T i)) (r n : Nat) (a : Addr) (f : Nat → Nat) (hr : r < 4) (hn : n ≤ 2000) (W : World) (hf : FVal W (some a) n f) (hab : a.block < W.heap.size) (ht : Tabs T W) :
    Calls Tryz.prog 57 #[.agg #[.int .u8 r, .slice (some a) n n], .slice none 0 0] W (AppEnd 5 W.heap.size W (.slice none 0 0) (lineW T r n f)) := by
  have hg3 := ht.lt3
  have hg2 := ht.lt2
  have HG := Lib.hid (World.grownBy_alloc W (.cells #[.int .u8 r, .slice (some a) n n] 45) none)
  have HC : Hid (∀ W', (W.alloc (.cells #[.int .u8 r, .slice (some a) n n] 45)).grownBy W' none → W'.cell? ⟨W.heap.size, 0, none⟩ = some (.int .u8 r) ∧ W'.cell? ⟨W.heap.size, 1, none⟩ = some (.slice (some a) n n)) := fun W' g => ⟨g.cell (by simp) (by simp), g.cell (by simp) (by simp)⟩
  have HCT := Lib.hid (fun w => LineCT_any r (.slice (some a) n n) ⟨_, _, _, rfl⟩ w)
  have HH := Lib.hid (fun w (h : w.ownsRow W.heap.size 5 1 (.slice none 0 0) ([] : List UInt8).length (Bs [])) (hb : W.heap.size ≤ w.heap.size) => appendWKTHeader_any nLINE r hr (by decide) W.heap.size (.slice none 0 0) [] w h hb (by simp))
  obtain ⟨l', hl'⟩ := tag_last [76, 73, 78, 69, 83, 84, 82, 73, 78] 71 r hr
  have HBd := Lib.hid (fun w v (hf : FVal w (some a) n f) (h : w.ownsRow W.heap.size 5 1 v (nLINE ++ tag r).length (Bs (nLINE ++ tag r))) (hb : W.heap.size ≤ w.heap.size) (ht : Tabs T w) => LineBody_any T hT r n a f hr hn l' (if r = 0 then 71 else 32) W.heap.size v (nLINE ++ tag r) hl' w hf hab h hb (by have := tag_len r; simp only [nLINE, List.length_append, List.length_cons, List.length_nil]; omega) ht hg3 hg2)
  have HF := Lib.hid (fun w (g : W.grownBy w none) => hf.mono g)
  have HT := Lib.hid (fun w (g : W.grownBy w none) => ht.mono g (by simp) (by simp))
  have hfin : Hid (∀ s W1 W' v', W.grownBy W1 none → AppB 5 W.heap.size W1 (.slice none 0 0) W' v' s → AppEnd 5 W.heap.size W (.slice none 0 0) s (.returned v') W') := fun s W1 W' v' g h => ⟨v', rfl, AppB.later (l := []) (World.ownsRow_nil _ _ _ _) g h⟩
  have HW : lineW T r n f = nLINE ++ tag r ++ lineB T (if r = 0 then 71 else 32) r n f := rfl
  rw [HW]
  generalize (if r = 0 then (71 : UInt8) else 32) = cc at HBd ⊢
  generalize lineB T cc r n f = LB at HBd ⊢
  generalize tag r = tg at HH HBd ⊢
  clear hf ht HW hl'
  go_enter Tryz.func57, Tryz.ntmps57
  go_wp2_with (first
    | (go_at_call 100; refine (HCT.out _).mono ?_; rintro e w' ⟨rfl, hg⟩; have G := gt_trans HG.out hg (.inl rfl); obtain ⟨k0, k1⟩ := HC.out _ hg)
    | (go_at_call 116; refine (HH.out _ (World.ownsRow_nil _ _ _ _) G.size).mono ?_; rintro e w2 ⟨v', rfl, H⟩; clear k0 k1; obtain ⟨k0, k1⟩ := HC.out _ (gt_trans hg H.grown (.inl rfl)); have G2 := gt_trans G H.grown (.inl rfl))
    | (go_at_call 117; refine (HBd.out _ _ (HF.out _ G2) H.own G2.size (HT.out _ G2)).mono ?_; rintro e w3 ⟨v3, rfl, H3⟩; have H4 := H.trans H3))
  go_ret
  exact hfin.out _ _ _ _ G H4
end Go.Proofs.YthcjnadceambgaaGreatDoor
namespace Go.Proofs.YthcjnadceambgaaGreatDoor
open Go.Joins Go.ChangeShapes Go.WideShapes Go.RowKit Go.Deep Go.ChangeAt

theorem KG.up : ∀ {h : Nat} {W : World} {v : Value}, KG h W v → KG (h + 1) W v
  | 0, _, _, h => h.elim
  | _ + 1, _, _, ⟨k, d, p, n, cap, q, m, c2, e, f, h1, h2, h3, h4⟩ => ⟨k, d, p, n, cap, q, m, c2, e, f, h1, h2, h3, fun a ha i hi => by
      obtain ⟨c0, c1, c2, c3, k0, k1, k2, k3, k4⟩ := h4 a ha i hi
      exact ⟨c0, c1, c2, c3, KG.up k0, k1, k2, k3, k4⟩⟩

theorem add_add (a : Addr) (j : Nat) (hj : j ≠ 0) : a.add j = ⟨a.block, a.off + j, none⟩ := by
  unfold Addr.add
  simp [hj]

theorem list4 {α : Type} {cs : List α} (h : cs.length = 4) : ∃ c0 c1 c2 c3, cs = [c0, c1, c2, c3] := by
  match cs, h with
  | [c0, c1, c2, c3], _ => exact ⟨c0, c1, c2, c3, rfl⟩
section
variable {H : Type} {enc : TypeId × Value → H} {W : World} {base : Nat} {spare : Nat → Bool} {held : Bool}
theorem trod_float1 {fuel : Nat} {t : TypeId} {cs : List Value} {x : DataW H × List MemPlace} {k : FloatKind} {P : Program} (ht : P.underlying t = some (.float k)) (h : DataW.trod enc P W base spare held fuel t cs = some x) : ∃ n, cs = [.float k n] ∧ (Lit.float k n).wf = true := by
  cases fuel with
  | zero => simp [DataW.trod] at h
  | succ n =>
    unfold DataW.trod at h
    rw [ht] at h
    split at h <;> simp_all

theorem FRow_of_trod {fuel : Nat} {c : Value} {x : DataW H × List MemPlace} (h : DataW.trod enc Tryz.prog W base spare held fuel 22 [c] = some x) : ∃ p n cap, c = .slice p n cap ∧ FRow W p n cap ∧ (p = none → cap = 0) := by
  rcases DataW.trod_slice Tryz.underlying22 h with ⟨e, _⟩ | ⟨a, len, cap, elems, rest, n, _, e, _, hb, hlc, hcm, hel, hat, _⟩
  · simp only [List.cons.injEq, and_true] at e
    exact ⟨none, 0, 0, e, ⟨Nat.le_refl _, by decide, fun h => by omega, fun a ha => by cases ha⟩, fun _ => rfl⟩
  · simp only [List.cons.injEq, and_true] at e
    refine ⟨some a, len, cap, e, ⟨hlc, hcm, fun _ => ⟨a, rfl⟩, fun a' ha i hi => ?_⟩, fun h => by cases h⟩
    injection ha with ha
    subst ha
    have h1 := hat i hi
    rw [show Tryz.prog.cellsOf 60 = 1 by kernel_rfl, Nat.mul_one] at h1
    have hx : ∃ y, elems[i]? = some y := ⟨_, List.getElem?_eq_getElem (by omega)⟩
    obtain ⟨y, hy⟩ := hx
    rw [hy] at h1
    obtain ⟨cs, hc, ht⟩ := Option.bind_eq_some_iff.1 h1
    obtain ⟨b, rfl, hb⟩ := trod_float1 Tryz.underlying60 ht
    exact ⟨b, cell_of_cells?_one hc, of_decide_eq_true hb⟩

set_option maxRecDepth 100000 in
theorem KG_of_trod : ∀ (fuel : Nat) (cs : List Value) (x : DataW H × List MemPlace), DataW.trod enc Tryz.prog W base spare held fuel 25 cs = some x →
    ∃ c0 c1 c2 c3, cs = [c0, c1, c2, c3] ∧ KG fuel W (.agg #[c0, c1, c2, c3]) := by
  intro fuel
  induction fuel using Nat.strongRecOn with
  | ind fuel ih =>
    intro cs x h
    obtain ⟨xs, n, rfl, rfl, hl, hlen, hf⟩ := DataW.trod_struct Tryz.underlying25 h
    have hC : Tryz.prog.cellsOf 25 = 4 := by kernel_rfl
    rw [hC] at hl
    obtain ⟨c0, c1, c2, c3, rfl⟩ := list4 hl
    obtain ⟨y0, y1, y2, y3, rfl⟩ := list4 hlen
    · · have g0 : DataW.trod enc Tryz.prog W base spare held n 3 (([c0, c1, c2, c3].drop 0).take (Tryz.prog.cellsOf 3)) = some y0 := hf 0 _ rfl
        have g1 : DataW.trod enc Tryz.prog W base spare held n 3 (([c0, c1, c2, c3].drop 1).take (Tryz.prog.cellsOf 3)) = some y1 := hf 1 _ rfl
        have g2 : DataW.trod enc Tryz.prog W base spare held n 22 (([c0, c1, c2, c3].drop 2).take (Tryz.prog.cellsOf 22)) = some y2 := hf 2 _ rfl
        have g3 : DataW.trod enc Tryz.prog W base spare held n 23 (([c0, c1, c2, c3].drop 3).take (Tryz.prog.cellsOf 23)) = some y3 := hf 3 _ rfl
        have s3 : Tryz.prog.cellsOf 3 = 1 := by kernel_rfl
        have sf : Tryz.prog.cellsOf 22 = 1 := by kernel_rfl
        have sg : Tryz.prog.cellsOf 23 = 1 := by kernel_rfl
        simp only [s3, sf, sg, List.drop_zero, List.drop_succ_cons, List.take_succ_cons, List.take_zero] at g0 g1 g2 g3
        obtain ⟨k, e0, _, _⟩ := DataW.trod_int Tryz.underlying3 g0
        obtain ⟨d, e1, _, _⟩ := DataW.trod_int Tryz.underlying3 g1
        obtain ⟨p, nn, cap, e2, hr, _⟩ := FRow_of_trod g2
        simp only [List.cons.injEq, and_true] at e0 e1
        refine ⟨c0, c1, c2, c3, rfl, ?_⟩
        rcases DataW.trod_slice Tryz.underlying23 g3 with ⟨e, _⟩ | ⟨a, len, cap3, elems, rest, m, em, e, _, hb, hlc, hcm, hel, hat, _⟩
        · simp only [List.cons.injEq, and_true] at e
          exact ⟨k, d, p, nn, cap, none, 0, 0, by rw [e0, e1, e2, e], hr, Nat.le_refl _, by decide, fun h => by omega, fun a ha => by cases ha⟩
        · simp only [List.cons.injEq, and_true] at e
          refine ⟨k, d, p, nn, cap, some a, len, cap3, by rw [e0, e1, e2, e], hr, hlc, hcm, fun _ => ⟨a, rfl⟩, fun a' ha i hi => ?_⟩
          injection ha with ha
          subst ha
          have h1 := hat i hi
          rw [hC] at h1
          have hx : ∃ y, elems[i]? = some y := ⟨_, List.getElem?_eq_getElem (by omega)⟩
          obtain ⟨y, hy⟩ := hx
          rw [hy] at h1
          obtain ⟨cs', hc, ht⟩ := Option.bind_eq_some_iff.1 h1
          obtain ⟨d0, d1, d2, d3, rfl, hk⟩ := ih m (by omega) cs' y ht
          subst em
          have hcell := World.cells?_some hc
          obtain ⟨_, hlen', hcell⟩ := hcell
          refine ⟨d0, d1, d2, d3, hk.up, ?_, ?_, ?_, ?_⟩
          · have := hcell 0 (by omega)
            simpa [Addr.add] using this
          · have := hcell 1 (by omega)
            rw [add_add _ 1 (by omega)] at this
            simpa using this
          · have := hcell 2 (by omega)
            rw [add_add _ 2 (by omega)] at this
            simpa using this
          · have := hcell 3 (by omega)
            rw [add_add _ 3 (by omega)] at this
            simpa using this
end
end Go.Proofs.YthcjnadceambgaaGreatDoor
namespace Go.Proofs.YthcjnadceambgaaGreatDoor
open Go.Joins Go.ChangeShapes Go.WideShapes Go.RowKit Go.Deep Go.ChangeAt

/-- A geometry: its kind, its type of coordinates, its numbers (n of them, as bits), its parts. -/
inductive Raw where
  | mk (k d : Int) (n : Nat) (f : Nat → Nat) (kids : List Raw)

mutual
/-- How many geometries and numbers. -/
def wt : Raw → Nat
  | .mk _ _ n _ kids => 1 + n + wts kids
def wts : List Raw → Nat
  | [] => 0
  | t :: ts => wt t + wts ts
end
theorem wts_append : ∀ (l m : List Raw), wts (l ++ m) = wts l + wts m
  | [], m => by simp [wts]
  | t :: l, m => by simp only [List.cons_append, wts, wts_append l m]; omega
theorem wts_take_succ (l : List Raw) (j : Nat) (t : Raw) (h : l[j]? = some t) : wts (l.take (j + 1)) = wts (l.take j) + wt t := by
  obtain ⟨hj, rfl⟩ := List.getElem?_eq_some_iff.1 h
  rw [List.take_succ_eq_append_getElem hj, wts_append]
  simp [wts]
theorem wt_pos (t : Raw) : 1 ≤ wt t := by cases t; unfold wt; omega
theorem wts_len : ∀ (l : List Raw), l.length ≤ wts l
  | [] => by simp [wts]
  | t :: l => by
    have := wts_len l
    have := wt_pos t
    simp only [List.length_cons, wts]; omega
theorem wts_mem : ∀ (l : List Raw) (i : Nat) (t : Raw), l[i]? = some t → wt t ≤ wts l
  | [], _, _, h => by simp at h
  | s :: l, 0, t, h => by simp at h; subst h; simp only [wts]; omega
  | s :: l, i + 1, t, h => by
    have := wts_mem l i t (by simpa using h)
    simp only [wts]; omega

/-- A geometry t in memory, to the depth h, all of it in blocks of which B is true. -/
def KD (B : Nat → Prop) : Nat → World → Value → Raw → Prop
  | 0, _, _, _ => False
  | h + 1, W, v, .mk k d n f kids => ∃ p cap q c2, v = .agg #[.int .i64 k, .int .i64 d, .slice p n cap, .slice q kids.length c2] ∧ FVal W p n f ∧ n ≤ cap ∧ cap ≤ maxLen ∧ (p = none → cap = 0) ∧ kids.length ≤ c2 ∧ c2 ≤ maxLen ∧ (q = none → c2 = 0) ∧
      (∀ a, q = some a → ∀ i t, kids[i]? = some t → ∃ c0 c1 c2 c3, KD B h W (.agg #[c0, c1, c2, c3]) t ∧ W.cell? (a.add (i * 4)) = some c0 ∧ W.cell? ⟨(a.add (i * 4)).block, (a.add (i * 4)).off + 1, none⟩ = some c1 ∧ W.cell? ⟨(a.add (i * 4)).block, (a.add (i * 4)).off + 2, none⟩ = some c2 ∧ W.cell? ⟨(a.add (i * 4)).block, (a.add (i * 4)).off + 3, none⟩ = some c3) ∧
      (∀ a, p = some a → B a.block) ∧ ∀ a, q = some a → B a.block
/-- What stands in blocks of which B is true stands there in W', too. -/
def Kept (B : Nat → Prop) (W W' : World) : Prop := ∀ a x, B a.block → W.cell? a = some x → W'.cell? a = some x
theorem Kept.grown {B : Nat → Prop} {W W' : World} (g : W.grownBy W' none) : Kept B W W' := fun _ _ _ h => g.cell h (by simp)
theorem Kept.set {B : Nat → Prop} {W : World} {q : Addr} (hq : ¬ B q.block) (x : Value) : Kept B W (W.setCell q x) := fun a y ha h => by
  rw [World.cell?_setCell_other (h := fun e => by subst e; exact hq ha)]
  exact h
theorem Kept.grownRow {B : Nat → Prop} {W W' : World} {r : Option Nat} (g : W.grownBy W' r) (hr : ∀ b, r = some b → ¬ B b) : Kept B W W' := fun a x ha h => g.cell h (fun e => hr _ e.symm ha)
theorem Kept.trans {B : Nat → Prop} {W W1 W2 : World} (h : Kept B W W1) (h' : Kept B W1 W2) : Kept B W W2 := fun a x ha k => h' a x ha (h a x ha k)
theorem add_block (a : Addr) (i : Nat) : (a.add i).block = a.block := by unfold Addr.add; split <;> rfl
theorem FVal.keep {B : Nat → Prop} {W W' : World} (hg : Kept B W W') {p : Option Addr} {n : Nat} {f : Nat → Nat} (h : FVal W p n f) (hp : ∀ a, p = some a → B a.block) : FVal W' p n f :=
  ⟨h.some_, fun a ha i hi => hg _ _ (by rw [add_block]; exact hp a ha) (h.at_ a ha i hi), h.lt⟩
theorem KD.keep {B : Nat → Prop} {W W' : World} (hg : Kept B W W') : ∀ {h : Nat} {v : Value} {t : Raw}, KD B h W v t → KD B h W' v t
  | 0, _, _, h => h.elim
  | _ + 1, _, .mk _ _ _ _ _, ⟨p, cap, q, c2, e, f, h1, h2, h3, h4, h5, h6, h7, h8, h9⟩ => ⟨p, cap, q, c2, e, f.keep hg h8, h1, h2, h3, h4, h5, h6, fun a ha i t hi => by
      obtain ⟨c0, c1, c2, c3, k0, k1, k2, k3, k4⟩ := h7 a ha i t hi
      have hb : B (a.add (i * 4)).block := by rw [add_block]; exact h9 a ha
      exact ⟨c0, c1, c2, c3, KD.keep hg k0, hg _ _ hb k1, hg _ _ hb k2, hg _ _ hb k3, hg _ _ hb k4⟩, h8, h9⟩
theorem KD.mono {B : Nat → Prop} {W W' : World} (hg : W.grownBy W' none) {h : Nat} {v : Value} {t : Raw} (k : KD B h W v t) : KD B h W' v t := k.keep (.grown hg)
theorem KD.weak {B B' : Nat → Prop} (hl : ∀ b, B b → B' b) : ∀ {h : Nat} {W : World} {v : Value} {t : Raw}, KD B h W v t → KD B' h W v t
  | 0, _, _, _, h => h.elim
  | _ + 1, _, _, .mk _ _ _ _ _, ⟨p, cap, q, c2, e, f, h1, h2, h3, h4, h5, h6, h7, h8, h9⟩ => ⟨p, cap, q, c2, e, f, h1, h2, h3, h4, h5, h6, fun a ha i t hi => by
      obtain ⟨c0, c1, c2, c3, k0, k1, k2, k3, k4⟩ := h7 a ha i t hi
      exact ⟨c0, c1, c2, c3, KD.weak hl k0, k1, k2, k3, k4⟩, fun a ha => hl _ (h8 a ha), fun a ha => hl _ (h9 a ha)⟩
theorem KD.up {B : Nat → Prop} : ∀ {h : Nat} {W : World} {v : Value} {t : Raw}, KD B h W v t → KD B (h + 1) W v t
  | 0, _, _, _, h => h.elim
  | _ + 1, _, _, .mk _ _ _ _ _, ⟨p, cap, q, c2, e, f, h1, h2, h3, h4, h5, h6, h7, h8⟩ => ⟨p, cap, q, c2, e, f, h1, h2, h3, h4, h5, h6, fun a ha i t hi => by
      obtain ⟨c0, c1, c2, c3, k0, k1, k2, k3, k4⟩ := h7 a ha i t hi
      exact ⟨c0, c1, c2, c3, KD.up k0, k1, k2, k3, k4⟩, h8⟩
theorem KD.le {B : Nat → Prop} {h h' : Nat} (hh : h ≤ h') {W : World} {v : Value} {t : Raw} (k : KD B h W v t) : KD B h' W v t := by
  induction hh with
  | refl => exact k
  | step _ ih => exact ih.up
theorem FVal.frow {W : World} {p : Option Addr} {n cap : Nat} {f : Nat → Nat} (h : FVal W p n f) (h1 : n ≤ cap) (h2 : cap ≤ maxLen) : FRow W p n cap :=
  ⟨h1, h2, h.some_, fun a ha i hi => ⟨f i, h.at_ a ha i hi, h.lt i⟩⟩
theorem KD.kg {B : Nat → Prop} : ∀ {h : Nat} {W : World} {v : Value} {t : Raw}, KD B h W v t → KG h W v
  | 0, _, _, _, h => h.elim
  | _ + 1, _, _, .mk k d n f kids, ⟨p, cap, q, c2, e, hf, h1, h2, h3, h4, h5, h6, h7, _⟩ => ⟨k, d, p, n, cap, q, kids.length, c2, e, hf.frow h1 h2, h4, h5, fun hp => by
      cases q with
      | none => have := h6 rfl; omega
      | some a => exact ⟨a, rfl⟩, fun a ha i hi => by
      obtain ⟨c0, c1, c2, c3, k0, k1, k2, k3, k4⟩ := h7 a ha i kids[i] (List.getElem?_eq_getElem hi)
      exact ⟨c0, c1, c2, c3, KD.kg k0, k1, k2, k3, k4⟩⟩
theorem KD.form {B : Nat → Prop} {W : World} : ∀ {h : Nat} {v : Value} {t : Raw}, KD B h W v t → ∃ k d n f kids p cap q c2, t = .mk k d n f kids ∧ v = .agg #[.int .i64 k, .int .i64 d, .slice p n cap, .slice q kids.length c2]
  | 0, _, _, h => by cases h
  | _ + 1, _, .mk k d n f kids, ⟨p, cap, q, c2, e, _⟩ => ⟨k, d, n, f, kids, p, cap, q, c2, rfl, e⟩
theorem KD.form4 {B : Nat → Prop} {W : World} {h : Nat} {c0 c1 c2 c3 : Value} {t : Raw} (hk : KD B h W (.agg #[c0, c1, c2, c3]) t) : ∃ k d n f kids p cap q c, t = .mk k d n f kids ∧ c0 = .int .i64 k ∧ c1 = .int .i64 d ∧ c2 = .slice p n cap ∧ c3 = .slice q kids.length c := by
  obtain ⟨k, d, n, f, kids, p, cap, q, c, rfl, e⟩ := hk.form
  simp only [Value.agg.injEq, Array.mk.injEq, List.cons.injEq, and_true] at e
  exact ⟨k, d, n, f, kids, p, cap, q, c, rfl, e⟩

theorem list_of {α : Type} {P : Nat → α → Prop} : ∀ (n : Nat), (∀ i, i < n → ∃ t, P i t) → ∃ l : List α, l.length = n ∧ ∀ i t, l[i]? = some t → P i t
  | 0, _ => ⟨[], rfl, fun i t h => by simp at h⟩
  | n + 1, h => by
    obtain ⟨l, hl, hp⟩ := list_of n fun i hi => h i (by omega)
    obtain ⟨t, ht⟩ := h n (by omega)
    refine ⟨l ++ [t], by simp [hl], fun i s hs => ?_⟩
    by_cases hi : i < n
    · rw [List.getElem?_append_left (by omega)] at hs
      exact hp i s hs
    · rw [List.getElem?_append_right (by omega)] at hs
      obtain ⟨h0, h1⟩ := List.getElem?_eq_some_iff.1 hs
      have : i = n := by simp at h0; omega
      subst this
      simp [hl] at h1
      subst h1
      exact ht

section
variable {H : Type} {enc : TypeId × Value → H} {W : World} {base : Nat} {spare : Nat → Bool} {held : Bool}
set_option maxRecDepth 100000 in
theorem KD_of_trod : ∀ (fuel : Nat) (cs : List Value) (x : DataW H × List MemPlace), DataW.trod enc Tryz.prog W base spare held fuel 25 cs = some x →
    ∃ c0 c1 c2 c3 t, cs = [c0, c1, c2, c3] ∧ KD (fun _ => True) fuel W (.agg #[c0, c1, c2, c3]) t := by
  intro fuel
  induction fuel using Nat.strongRecOn with
  | ind fuel ih =>
    intro cs x h
    obtain ⟨xs, n, rfl, rfl, hl, hlen, hf⟩ := DataW.trod_struct Tryz.underlying25 h
    have hC : Tryz.prog.cellsOf 25 = 4 := by kernel_rfl
    rw [hC] at hl
    obtain ⟨c0, c1, c2, c3, rfl⟩ := list4 hl
    obtain ⟨y0, y1, y2, y3, rfl⟩ := list4 hlen
    have g0 : DataW.trod enc Tryz.prog W base spare held n 3 (([c0, c1, c2, c3].drop 0).take (Tryz.prog.cellsOf 3)) = some y0 := hf 0 _ rfl
    have g1 : DataW.trod enc Tryz.prog W base spare held n 3 (([c0, c1, c2, c3].drop 1).take (Tryz.prog.cellsOf 3)) = some y1 := hf 1 _ rfl
    have g2 : DataW.trod enc Tryz.prog W base spare held n 22 (([c0, c1, c2, c3].drop 2).take (Tryz.prog.cellsOf 22)) = some y2 := hf 2 _ rfl
    have g3 : DataW.trod enc Tryz.prog W base spare held n 23 (([c0, c1, c2, c3].drop 3).take (Tryz.prog.cellsOf 23)) = some y3 := hf 3 _ rfl
    have s3 : Tryz.prog.cellsOf 3 = 1 := by kernel_rfl
    have sf : Tryz.prog.cellsOf 22 = 1 := by kernel_rfl
    have sg : Tryz.prog.cellsOf 23 = 1 := by kernel_rfl
    simp only [s3, sf, sg, List.drop_zero, List.drop_succ_cons, List.take_succ_cons, List.take_zero] at g0 g1 g2 g3
    obtain ⟨k, e0, _, _⟩ := DataW.trod_int Tryz.underlying3 g0
    obtain ⟨d, e1, _, _⟩ := DataW.trod_int Tryz.underlying3 g1
    obtain ⟨p, nn, cap, e2, hr, hpn⟩ := FRow_of_trod g2
    obtain ⟨f, hfv⟩ := hr.vals
    simp only [List.cons.injEq, and_true] at e0 e1
    rcases DataW.trod_slice Tryz.underlying23 g3 with ⟨e, _⟩ | ⟨a, len, cap3, elems, rest, m, em, e, _, hb, hlc, hcm, hel, hat, _⟩
    · simp only [List.cons.injEq, and_true] at e
      exact ⟨c0, c1, c2, c3, .mk k d nn f [], rfl, p, cap, none, 0, by rw [e0, e1, e2, e]; rfl, hfv, hr.le, hr.most, hpn, Nat.le_refl _, by decide, fun _ => rfl, (fun a ha => by cases ha), fun _ _ => trivial, fun _ _ => trivial⟩
    · simp only [List.cons.injEq, and_true] at e
      obtain ⟨kids, hkl, hkp⟩ := list_of (P := fun i t => ∃ d0 d1 d2 d3, KD (fun _ => True) n W (.agg #[d0, d1, d2, d3]) t ∧ W.cell? (a.add (i * 4)) = some d0 ∧ W.cell? ⟨(a.add (i * 4)).block, (a.add (i * 4)).off + 1, none⟩ = some d1 ∧ W.cell? ⟨(a.add (i * 4)).block, (a.add (i * 4)).off + 2, none⟩ = some d2 ∧ W.cell? ⟨(a.add (i * 4)).block, (a.add (i * 4)).off + 3, none⟩ = some d3) len (fun i hi => by
        have h1 := hat i hi
        rw [hC] at h1
        have hx : ∃ y, elems[i]? = some y := ⟨_, List.getElem?_eq_getElem (by omega)⟩
        obtain ⟨y, hy⟩ := hx
        rw [hy] at h1
        obtain ⟨cs', hc, ht⟩ := Option.bind_eq_some_iff.1 h1
        obtain ⟨d0, d1, d2, d3, t, rfl, hk⟩ := ih m (by omega) cs' y ht
        have hcell := World.cells?_some hc
        obtain ⟨_, hlen', hcell⟩ := hcell
        refine ⟨t, d0, d1, d2, d3, hk.le (by omega), ?_, ?_, ?_, ?_⟩
        · have := hcell 0 (by omega)
          simpa [Addr.add] using this
        · have := hcell 1 (by omega)
          rw [add_add _ 1 (by omega)] at this
          simpa using this
        · have := hcell 2 (by omega)
          rw [add_add _ 2 (by omega)] at this
          simpa using this
        · have := hcell 3 (by omega)
          rw [add_add _ 3 (by omega)] at this
          simpa using this)
      refine ⟨c0, c1, c2, c3, .mk k d nn f kids, rfl, p, cap, some a, cap3, by rw [e0, e1, e2, e, hkl], hfv, hr.le, hr.most, hpn, by omega, hcm, (fun h => by cases h), fun a' ha i t hi => ?_, fun _ _ => trivial, fun _ _ => trivial⟩
      injection ha with ha
      subst ha
      exact hkp i t hi
end
end Go.Proofs.YthcjnadceambgaaGreatDoor
namespace Go.Proofs.YthcjnadceambgaaGreatDoor
open Go.RowKit

/-- Texts with commas between them. -/
def joinC (ps : List (List UInt8)) : List UInt8 := cTo (fun i => ps.getD i []) ps.length
theorem cTo_congr {s s' : Nat → List UInt8} : ∀ {k : Nat}, (∀ i, i < k → s i = s' i) → cTo s k = cTo s' k
  | 0, _ => rfl
  | k + 1, h => by unfold cTo; rw [cTo_congr (fun i hi => h i (by omega)), h k (by omega)]
theorem joinC_snoc (ps : List (List UInt8)) (p : List UInt8) : joinC (ps ++ [p]) = joinC ps ++ (if 0 < ps.length then [44] else []) ++ p := by
  unfold joinC
  rw [List.length_append, List.length_singleton]
  show cTo _ ps.length ++ _ ++ _ = _
  rw [cTo_congr (s' := fun i => ps.getD i []) (fun i hi => by simp [List.getD_eq_getElem?_getD, List.getElem?_append_left hi])]
  simp [List.getD_eq_getElem?_getD]
def lensum : List (List UInt8) → Nat
  | [] => 0
  | p :: ps => p.length + 1 + lensum ps
theorem lensum_append : ∀ (a b : List (List UInt8)), lensum (a ++ b) = lensum a + lensum b
  | [], b => by simp [lensum]
  | p :: a, b => by simp only [List.cons_append, lensum, lensum_append a b]; omega
theorem joinC_len (ps : List (List UInt8)) : (joinC ps).length ≤ lensum ps := by
  have key : ∀ (n : Nat) (ps : List (List UInt8)), ps.length = n → (joinC ps).length ≤ lensum ps := by
    intro n
    induction n with
    | zero => intro ps h; obtain rfl := List.eq_nil_of_length_eq_zero h; simp [joinC, cTo]
    | succ n ih =>
      intro ps h
      obtain ⟨qs, q, rfl⟩ : ∃ qs q, ps = qs ++ [q] := ⟨ps.dropLast, ps.getLast (by intro e; subst e; simp at h), (List.dropLast_concat_getLast _).symm⟩
      have h1 := ih qs (by simpa using h)
      rw [joinC_snoc, lensum_append]
      simp only [lensum, List.length_append]
      split <;> simp <;> omega
  exact key _ ps rfl

def kidOf (k : Int) : Int := if k = 4 then 1 else if k = 3 ∨ k = 5 then 2 else if k = 6 then 3 else -1
def kindOf : Raw → Int
  | .mk k _ _ _ _ => k
def dimR : Raw → Nat
  | .mk _ d _ _ _ => d.toNat
/-- The numbers of forced places. -/
def fF (r r' : Nat) (f : Nat → Nat) (i : Nat) : Nat :=
  if i % widN r' = 0 then plX r f (i / widN r') else if i % widN r' = 1 then plY r f (i / widN r') else if i % widN r' = 2 ∧ r' % 2 = 1 then plZ r f (i / widN r') else plM r f (i / widN r')
mutual
def forceT (r' : Nat) : Raw → Raw
  | .mk k d n f kids => .mk k r' (n / widN d.toNat * widN r') (fF d.toNat r' f) (forceTs r' kids)
def forceTs (r' : Nat) : List Raw → List Raw
  | [] => []
  | t :: ts => forceT r' t :: forceTs r' ts
end
def dimsOf : List Raw → Nat
  | [] => 3
  | t :: ts => dimR t &&& dimsOf ts
def keepT (k : Int) (m : Raw) : Bool := decide (kidOf k < 0) || decide (kidOf k = kindOf m)
def nodeT (k : Int) (r : Nat) (f : Nat → Nat) (ks : List Raw) : Raw := if ks = [] then .mk k r 0 f [] else forceT (dimsOf ks) (.mk k r 0 f ks)
def kindN (k : Int) : Int := if k < 0 ∨ 6 < k then 0 else k
mutual
def newT : Raw → Raw
  | .mk k d n f kids =>
    if kindN k = 1 then .mk 1 (d % 4) (min (n / widN (d % 4).toNat) 1 * widN (d % 4).toNat) f []
    else if kindN k = 2 then .mk 2 (d % 4) (n / widN (d % 4).toNat * widN (d % 4).toNat) f []
    else nodeT (kindN k) (d % 4).toNat f ((newTs kids).filter (keepT (kindN k)))
def newTs : List Raw → List Raw
  | [] => []
  | t :: ts => newT t :: newTs ts
end

mutual
/-- How many geometries and places. -/
def pl : Raw → Nat
  | .mk _ d n _ kids => 1 + n / widN d.toNat + pls kids
def pls : List Raw → Nat
  | [] => 0
  | t :: ts => pl t + pls ts
end
mutual
def dimsOk : Raw → Prop
  | .mk _ d _ _ kids => 0 ≤ d ∧ d < 4 ∧ dimsOks kids
def dimsOks : List Raw → Prop
  | [] => True
  | t :: ts => dimsOk t ∧ dimsOks ts
end
theorem widN_le (r : Nat) (hr : r < 4) : 2 ≤ widN r ∧ widN r ≤ 4 := by unfold widN; omega
theorem widN_pos (r : Nat) : 2 ≤ widN r := by unfold widN; omega
mutual
theorem pl_force (r' : Nat) : ∀ t : Raw, pl (forceT r' t) = pl t
  | .mk k d n f kids => by
    unfold forceT pl
    rw [pls_force r' kids]
    have h := widN_pos r'
    simp only [Int.toNat_natCast]
    rw [Nat.mul_div_cancel _ (by omega)]
theorem pls_force (r' : Nat) : ∀ ts : List Raw, pls (forceTs r' ts) = pls ts
  | [] => rfl
  | t :: ts => by unfold forceTs pls; rw [pl_force r' t, pls_force r' ts]
end
mutual
theorem dims_force (r' : Nat) (hr : r' < 4) : ∀ t : Raw, dimsOk (forceT r' t)
  | .mk k d n f kids => by unfold forceT dimsOk; exact ⟨by omega, by omega, dimss_force r' hr kids⟩
theorem dimss_force (r' : Nat) (hr : r' < 4) : ∀ ts : List Raw, dimsOks (forceTs r' ts)
  | [] => trivial
  | t :: ts => by unfold forceTs dimsOks; exact ⟨dims_force r' hr t, dimss_force r' hr ts⟩
end
theorem dimsOf_lt : ∀ ks : List Raw, dimsOf ks < 4
  | [] => by decide
  | t :: ts => by
    unfold dimsOf
    have h := dimsOf_lt ts
    exact Nat.lt_of_le_of_lt Nat.and_le_right h
theorem pls_filter (p : Raw → Bool) : ∀ ts : List Raw, pls (ts.filter p) ≤ pls ts
  | [] => Nat.le_refl _
  | t :: ts => by
    have h := pls_filter p ts
    by_cases hp : p t = true
    · rw [List.filter_cons_of_pos hp]; simp only [pls]; omega
    · rw [List.filter_cons_of_neg hp]; simp only [pls]; omega
theorem pl_node (k : Int) (r : Nat) (f : Nat → Nat) (ks : List Raw) : pl (nodeT k r f ks) ≤ 1 + pls ks := by
  unfold nodeT
  split
  · simp [pl, pls]
  · rw [pl_force]; simp [pl]
theorem dims_node (k : Int) (r : Nat) (hr : r < 4) (f : Nat → Nat) (ks : List Raw) : dimsOk (nodeT k r f ks) := by
  unfold nodeT
  split
  · exact ⟨by omega, by omega, trivial⟩
  · exact dims_force _ (dimsOf_lt ks) _
mutual
theorem pl_new : ∀ t : Raw, pl (newT t) ≤ wt t
  | .mk k d n f kids => by
    unfold newT wt
    have hd : n / widN (d % 4).toNat ≤ n := Nat.div_le_self _ _
    have hw := widN_pos (d % 4).toNat
    split
    · unfold pl pls
      rw [Nat.mul_div_cancel _ (by omega)]
      omega
    · split
      · unfold pl pls
        rw [Nat.mul_div_cancel _ (by omega)]
        omega
      · have h1 := pl_node (kindN k) (d % 4).toNat f ((newTs kids).filter (keepT (kindN k)))
        have h2 := pls_filter (keepT (kindN k)) (newTs kids)
        have h3 := pls_new kids
        omega
theorem pls_new : ∀ ts : List Raw, pls (newTs ts) ≤ wts ts
  | [] => Nat.le_refl _
  | t :: ts => by
    have h1 := pl_new t
    have h2 := pls_new ts
    unfold newTs pls wts
    omega
end
theorem dims_new : ∀ t : Raw, dimsOk (newT t)
  | .mk k d n f kids => by
    unfold newT
    split
    · exact ⟨by omega, by omega, trivial⟩
    · split
      · exact ⟨by omega, by omega, trivial⟩
      · exact dims_node _ _ (by omega) _ _
theorem forceTs_len (r' : Nat) : ∀ ts : List Raw, (forceTs r' ts).length = ts.length
  | [] => rfl
  | t :: ts => by unfold forceTs; simp [forceTs_len r' ts]
theorem forceTs_get (r' : Nat) : ∀ (ts : List Raw) (i : Nat), (forceTs r' ts)[i]? = (ts[i]?).map (forceT r')
  | [], i => by simp [forceTs]
  | t :: ts, 0 => by simp [forceTs]
  | t :: ts, i + 1 => by simp [forceTs, forceTs_get r' ts i]
theorem forceTs_snoc (r' : Nat) : ∀ (ts : List Raw) (t : Raw), forceTs r' (ts ++ [t]) = forceTs r' ts ++ [forceT r' t]
  | [], t => rfl
  | s :: ts, t => by simp only [List.cons_append, forceTs, forceTs_snoc r' ts t]
theorem newTs_snoc : ∀ (ts : List Raw) (t : Raw), newTs (ts ++ [t]) = newTs ts ++ [newT t]
  | [], t => rfl
  | s :: ts, t => by simp only [List.cons_append, newTs, newTs_snoc ts t]
theorem dimsOf_snoc : ∀ (ts : List Raw) (t : Raw), dimsOf (ts ++ [t]) = dimsOf ts &&& dimR t
  | [], t => by simp [dimsOf, Nat.and_comm]
  | s :: ts, t => by simp only [List.cons_append, dimsOf, dimsOf_snoc ts t, Nat.and_assoc]
theorem dimsOks_mem : ∀ (ts : List Raw), dimsOks ts → ∀ (i : Nat) (t : Raw), ts[i]? = some t → dimsOk t
  | [], _, _, _, h => by simp at h
  | s :: ts, hd, 0, t, h => by simp at h; subst h; exact hd.1
  | s :: ts, hd, i + 1, t, h => dimsOks_mem ts hd.2 i t (by simpa using h)
theorem pls_mem : ∀ (l : List Raw) (i : Nat) (t : Raw), l[i]? = some t → pl t ≤ pls l
  | [], _, _, h => by simp at h
  | s :: l, 0, t, h => by simp at h; subst h; simp only [pls]; omega
  | s :: l, i + 1, t, h => by
    have := pls_mem l i t (by simpa using h)
    simp only [pls]; omega
theorem pl_pos (t : Raw) : 1 ≤ pl t := by cases t; unfold pl; exact Nat.le_trans (Nat.le_add_right 1 _) (Nat.le_add_right _ _)
theorem pls_len : ∀ (l : List Raw), l.length ≤ pls l
  | [] => by simp [pls]
  | t :: l => by
    have := pls_len l
    have := pl_pos t
    simp only [List.length_cons, pls]; omega
end Go.Proofs.YthcjnadceambgaaGreatDoor
