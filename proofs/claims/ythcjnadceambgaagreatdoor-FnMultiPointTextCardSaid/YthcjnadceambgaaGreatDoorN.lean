/- The package's GeoJSON of a line. -/
import Derived.Test.YthcjnadceambgaaGreatDoorL
import Derived.Test.YthcjnadceambgaaGreatDoorA8
namespace Go.Proofs.YthcjnadceambgaaGreatDoor
open Go.RowKit

def plX (r : Nat) (f : Nat → Nat) (i : Nat) : Nat := f (i * widN r)
def plY (r : Nat) (f : Nat → Nat) (i : Nat) : Nat := f (i * widN r + 1)
def plZ (r : Nat) (f : Nat → Nat) (i : Nat) : Nat := if r % 2 = 1 then f (i * widN r + 2) else 0
def plM (r : Nat) (f : Nat → Nat) (i : Nat) : Nat := if r / 2 = 1 then f (i * widN r + widN r - 1) else 0

theorem Get_any (r n i : Nat) (a : Addr) (f : Nat → Nat) (hr : r < 4) (hn : n ≤ 2000) (hi : i * widN r + widN r ≤ n) (W : World) (hf : FVal W (some a) n f) :
    Calls Tryz.prog 72 #[.agg #[.int .u8 r, .slice (some a) n n], .int .i64 i] W fun e w' => e = .returned (.agg #[.float .f64 (plX r f i), .float .f64 (plY r f i), .float .f64 (plZ r f i), .float .f64 (plM r f i), .int .u8 r]) ∧ W.grownBy w' none := by
  rcases (by omega : r = 0 ∨ r = 1 ∨ r = 2 ∨ r = 3) with rfl | rfl | rfl | rfl
  · exact Get_0 n i a f hn (by simp [widN] at hi; omega) W hf
  · exact Get_1 n i a f hn (by simp [widN] at hi; omega) W hf
  · exact Get_2 n i a f hn (by simp [widN] at hi; omega) W hf
  · exact Get_3 n i a f hn (by simp [widN] at hi; omega) W hf

/-- What is written of the first k places. -/
noncomputable def seqTo (T : Nat → Int) (r : Nat) (f : Nat → Nat) : Nat → List UInt8
  | 0 => []
  | k + 1 => seqTo T r f k ++ (if 0 < k then [44] else []) ++ jsonPl T (plX r f k) (plY r f k) (plZ r f k) r
theorem jsonPl_len (T : Nat → Int) (x y z : Nat) (d : Int) : (jsonPl T x y z d).length ≤ 12010 := by
  have hx := decT_len T x
  have hy := decT_len T y
  have hz := decT_len T z
  unfold jsonPl
  split <;> simp only [List.length_append, List.length_cons, List.length_nil] <;> omega
theorem seqTo_len (T : Nat → Int) (r : Nat) (f : Nat → Nat) : ∀ k, (seqTo T r f k).length ≤ k * 12011
  | 0 => by simp [seqTo]
  | k + 1 => by
    have h := seqTo_len T r f k
    have h2 := jsonPl_len T (plX r f k) (plY r f k) (plZ r f k) r
    unfold seqTo
    split <;> simp only [List.length_append, List.length_cons, List.length_nil] <;> omega

theorem FVal.kept {W W' : World} {p : Option Addr} {n : Nat} {f : Nat → Nat} {r : Option Nat} (h : FVal W p n f) (hg : W.grownBy W' r) (hr : ∀ a, p = some a → r ≠ some a.block) : FVal W' p n f :=
  ⟨h.some_, fun a ha i hi => hg.cell (h.at_ a ha i hi) (fun e => by
    have hb : (a.add i).block = a.block := by unfold Addr.add; split <;> rfl
    rw [hb] at e
    exact hr a ha e.symm), h.lt⟩

set_option maxRecDepth 100000 in
set_option maxHeartbeats 2000000 in
theorem appendGeoJSONSequence_any (T : Nat → Int) (hT : ∀ i, U64 (T i)) (r n : Nat) (a : Addr) (f : Nat → Nat) (hr : r < 4) (hn : n ≤ 2000)
    (base : Nat) (v : Value) (l : List UInt8) (W : World) (hf : FVal W (some a) n f) (hab : a.block < base) (hown : W.ownsRow base 5 1 v l.length (Bs l)) (hbase : base ≤ W.heap.size) (hl : l.length ≤ 1000) (ht : Tabs T W) (hg3 : 3 < base) (hg2 : 2 < base) :
    Calls Tryz.prog 74 #[v, .agg #[.int .u8 r, .slice (some a) n n]] W (AppEnd 5 base W v (l ++ [91] ++ seqTo T r f (n / widN r) ++ [93])) := by
  have HG := Lib.hid (World.grownBy_alloc W (.cells #[.int .u8 r, .slice (some a) n n] 43) none)
  have HO := Lib.hid hown
  have H := AppB.start (hown.alloc (.cells #[.int .u8 r, .slice (some a) n n] 43))
  have HT := Lib.hid (ht.mono HG.out (by simp) (by simp))
  have hlt := hown.lt
  have hn3 : v.ownBlock ≠ some 3 := fun e => by have := hlt _ e; omega
  have hn2 : v.ownBlock ≠ some 2 := fun e => by have := hlt _ e; omega
  have hnb : v.ownBlock ≠ some W.heap.size := fun e => by have := hlt _ e; omega
  have hna : ∀ a', some a = some a' → v.ownBlock ≠ some a'.block := fun a' ha e => by have := hlt _ e; injection ha with ha; subst ha; omega
  have hbase0 : base ≤ (W.alloc (.cells #[.int .u8 r, .slice (some a) n n] 43)).heap.size := by simp; omega
  have HC : Hid (∀ W' v' l', AppB 5 base (W.alloc (.cells #[.int .u8 r, .slice (some a) n n] 43)) v W' v' l' → W'.cell? ⟨W.heap.size, 0, none⟩ = some (.int .u8 r) ∧ W'.cell? ⟨W.heap.size, 1, none⟩ = some (.slice (some a) n n)) := by
    intro W' v' l' h
    refine ⟨?_, ?_⟩ <;> (rw [h.cell (by simp) hnb]; simp)
  have HF : Hid (∀ W' v' l', AppB 5 base (W.alloc (.cells #[.int .u8 r, .slice (some a) n n] 43)) v W' v' l' → FVal W' (some a) n f) := fun W' v' l' h => (hf.mono HG.out).kept h.grown hna
  have hw2 : 2 ≤ widN r ∧ widN r ≤ 4 := by unfold widN; omega
  obtain ⟨L, hL⟩ : ∃ L : Nat, L = n / widN r := ⟨_, rfl⟩
  have hLb : L ≤ 2000 := by rw [hL]; exact Nat.le_trans (Nat.div_le_self _ _) hn
  have HLen := Lib.hid (fun W' => Length_any r n hr (some a) n hn W')
  have HGet := Lib.hid (fun (i : Nat) (hi : i < L) W' (h : FVal W' (some a) n f) => Get_any r n i a f hr hn (by
    rw [hL] at hi
    have h1 : (i + 1) * widN r ≤ n := Nat.le_trans (Nat.mul_le_mul_right _ hi) (Nat.div_mul_le_self n (widN r))
    rw [Nat.succ_mul] at h1; exact h1) W' h)
  have HCo := Lib.hid (fun (i : Nat) => appendGeoJSONCoordinate_any T hT (plX r f i) (plY r f i) (plZ r f i) (plM r f i) r (hf.lt _) (hf.lt _) (by unfold plZ; split; exact hf.lt _; omega) (by omega) (by omega) base)
  have HSL := Lib.hid (fun k (hk : k ≤ L) => (seqTo_len T r f k))
  have HJL := Lib.hid (fun k => jsonPl_len T (plX r f k) (plY r f k) (plZ r f k) r)
  rw [← hL] at HLen ⊢
  have hfin : Hid (∀ W' v', AppB 5 base (W.alloc (.cells #[.int .u8 r, .slice (some a) n n] 43)) v W' v' (l ++ [91] ++ seqTo T r f L ++ [93]) → AppEnd 5 base W v (l ++ [91] ++ seqTo T r f L ++ [93]) (.returned v') W') :=
    fun W' v' h => ⟨v', rfl, AppB.later HO.out HG.out h⟩
  obtain ⟨S, hS⟩ : ∃ S : Nat → List UInt8, S = seqTo T r f := ⟨_, rfl⟩
  rw [← hS] at HSL hfin ⊢
  have HSQ : Hid (∀ k, S (k + 1) = S k ++ (if 0 < k then [44] else []) ++ jsonPl T (plX r f k) (plY r f k) (plZ r f k) r) := by rw [hS]; exact fun k => rfl
  have hS0 : S 0 = [] := by rw [hS]; rfl
  clear hS hL hf hown ht hlt hnb hna hw2
  go_enter Tryz.func74, Tryz.ntmps74
  go_wp2_with (first
    | (at_builtin; refine app_byte rfl _ _ _ rfl Tryz.underlying33 infoB H rfl _ 91 rfl rfl (by first | rfl | simp) hbase0 (by (try simp only [List.length_append, List.length_cons, List.length_nil]); omega) ?_; intro v1 w1 H1; clear H; have H := H1; clear H1; obtain ⟨k0, k1⟩ := HC.out _ _ _ H)
    | (go_at_call 69; refine (HLen.out _).mono ?_; rintro e w' ⟨rfl, hgl⟩; have H1 := H.beside hgl; clear H; have H := H1; clear H1 hgl))
  go_loopw [0, 6] (fun x i wr => ∃ k : Nat, k ≤ L ∧ i = .int .i64 k ∧ AppB 5 base (W.alloc (.cells #[.int .u8 r, .slice (some a) n n] 43)) v wr x (l ++ [91] ++ S k)) (fun _ i _ => L - (intOf i).toNat)
  case atStart => exact ⟨0, by omega, rfl, by rw [hS0, List.append_nil]; exact H⟩
  case round =>
    clear H
    obtain ⟨k, hk, rfl, H⟩ := hrel
    rename World => wr
    have hsl := HSL.out k hk
    have hsl2 : (S k).length ≤ 24022000 := by omega
    clear hsl
    obtain ⟨k0, k1⟩ := HC.out _ _ _ H
    by_cases hkL : k < L
    · by_cases hk0 : 0 < k
      · have e : S (k + 1) = S k ++ [44] ++ jsonPl T (plX r f k) (plY r f k) (plZ r f k) r := by rw [HSQ.out k, if_pos hk0]
        go_wp2_with (first
          | (at_builtin; refine app_byte rfl _ _ _ rfl Tryz.underlying33 infoB H rfl _ 44 rfl rfl (by first | rfl | simp) hbase0 (by (try simp only [List.length_append, List.length_cons, List.length_nil]); omega) ?_; intro v1 w1 H1; clear H; have H := H1; clear H1; clear k0 k1; obtain ⟨k0, k1⟩ := HC.out _ _ _ H)
          | (go_at_call 72; refine (HGet.out k hkL _ (HF.out _ _ _ H)).mono ?_; rintro e w' ⟨rfl, hgl⟩; have H1 := H.beside hgl; clear H; have H := H1; clear H1 hgl)
          | (go_at_call 73; refine (HCo.out k _ _ _ H.own (H.based hbase0) (by (try simp only [List.length_append, List.length_cons, List.length_nil]); omega) (HT.out.mono H.grown hn3 hn2) hg3 hg2).mono ?_; rintro e w' ⟨v', rfl, H'⟩; have H1 := H.trans H'; clear H H'; have H := H1; clear H1))
        exact ⟨⟨k + 1, by omega, by go_num, by rw [e]; simpa only [List.append_assoc] using H⟩, by simp [intOf]; omega⟩
      · obtain rfl : k = 0 := by omega
        have e : S 1 = S 0 ++ [] ++ jsonPl T (plX r f 0) (plY r f 0) (plZ r f 0) r := by rw [HSQ.out 0, if_neg (by omega)]
        go_wp2_with (first
          | (go_at_call 72; refine (HGet.out 0 hkL _ (HF.out _ _ _ H)).mono ?_; rintro e w' ⟨rfl, hgl⟩; have H1 := H.beside hgl; clear H; have H := H1; clear H1 hgl)
          | (go_at_call 73; refine (HCo.out 0 _ _ _ H.own (H.based hbase0) (by (try simp only [List.length_append, List.length_cons, List.length_nil]); omega) (HT.out.mono H.grown hn3 hn2) hg3 hg2).mono ?_; rintro e w' ⟨v', rfl, H'⟩; have H1 := H.trans H'; clear H H'; have H := H1; clear H1))
        exact ⟨⟨1, by omega, by go_num, by rw [e]; simpa only [List.append_assoc, List.append_nil] using H⟩, by simp [intOf]; omega⟩
    · obtain rfl : k = L := by omega
      go_wp2_with (first
        | (at_builtin; refine app_byte rfl _ _ _ rfl Tryz.underlying33 infoB H rfl _ 93 rfl rfl (by first | rfl | simp) hbase0 (by (try simp only [List.length_append, List.length_cons, List.length_nil]); omega) ?_; intro v1 w1 H1; clear H; have H := H1; clear H1))
      go_ret
      exact hfin.out w1 v1 (by simpa only [List.append_assoc] using H)

end Go.Proofs.YthcjnadceambgaaGreatDoor
