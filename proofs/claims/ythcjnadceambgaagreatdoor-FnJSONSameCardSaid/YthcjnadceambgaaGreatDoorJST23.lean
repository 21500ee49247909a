/- The package's GeoJSON of rows of sequences and of rows of rows. The package's GeoJSON objects of polygons, several lines, several polygons. Rows of bytes in memory; the row that goes with an error of nil. The reference's GeoJSON objects. -/
import Derived.Lib.ConvBytes
import Derived.Test.YthcjnadceambgaaGreatDoorJST22
namespace Go.Proofs.YthcjnadceambgaaGreatDoor
open Go.RowKit

set_option maxRecDepth 100000 in
set_option maxHeartbeats 4000000 in
theorem SeqsQC (T : Nat → Int) (hT : ∀ i, U64 (T i)) {kk : Int} (hk1 : kk ≠ 1) : QC (DSq kk) 77 T := by
  intro B W v t l base vv hd hok hown hbs hl hB
  obtain ⟨r, f, kids, p, rfl, rfl, hrow⟩ := hd
  obtain ⟨n, hn⟩ : ∃ n, kids.length = n := ⟨_, rfl⟩
  have hn2 : n ≤ 2000 := by rw [← hn]; unfold okT at hok; exact hok.2.1
  have hoks : okTs kids := by unfold okT at hok; exact hok.2.2
  rw [pl_node0] at hl
  have hnp : ∀ s ∈ kids, noPt s = false := by
    intro s hs
    obtain ⟨i, hi⟩ := List.getElem?_of_mem hs
    obtain ⟨a, ha⟩ := hrow.1 (by have := (List.getElem?_eq_some_iff.1 hi).1; omega)
    obtain ⟨c0, c1, h0, h1, hd⟩ := (hrow.2 a ha).2 i s hi
    obtain ⟨r, n, f, p, rfl, _⟩ := hd
    exact noPt_ne (by decide)
  have hbase := hbs.le
  have H0 : AppB 5 base W vv W vv l := AppB.start hown
  have hob : ∀ b, vv.ownBlock = some b → base ≤ b := fun b e => (hown.lt b e).1
  have HKp : Hid (∀ w v' l1, AppB 5 base W vv w v' l1 → Kept B W w) := fun w v' l1 H => .grownRow H.grown (fun b e hb => (hB b hb).2 e)
  have HBs : Hid (∀ w v' l1, AppB 5 base W vv w v' l1 → Bsd T base w) := fun w v' l1 H => hbs.mono H.grown hob
  have HOb : Hid (∀ w v' l1, AppB 5 base W vv w v' l1 → ∀ b, B b → b < w.heap.size ∧ v'.ownBlock ≠ some b) := fun w v' l1 H b hb => ⟨Nat.lt_of_lt_of_le (hB b hb).1 H.grown.size, fun e => by
    rcases H.at_ with h | ⟨b', h, h2⟩
    · exact (hB b hb).2 (h ▸ e)
    · rw [h] at e; injection e with e; have := (hB b hb).1; omega⟩
  obtain ⟨P, hP⟩ : ∃ P, P = 16100 * pls kids := ⟨_, rfl⟩
  obtain ⟨S, hS⟩ : ∃ S : Nat → List UInt8, S = jJ T kids := ⟨_, rfl⟩
  have HRow : Hid (∀ w, Kept B W w → ∀ k, k < n → ∃ t a c0 c1, kids[k]? = some t ∧ p = some a ∧ w.cell? (a.add (k * 2)) = some c0 ∧ w.cell? ⟨(a.add (k * 2)).block, (a.add (k * 2)).off + 1, none⟩ = some c1 ∧ DLine B W (.agg #[c0, c1]) t ∧ (S k).length + 16100 * pl t ≤ P ∧ S (k + 1) = S k ++ (if 0 < k then [44] else []) ++ jbT T t) := fun w g k hk => by
    obtain ⟨a, ha⟩ := hrow.1 (by omega)
    obtain ⟨hba, h2⟩ := hrow.2 a ha
    have hi : kids[k]? = some (kids[k]'(by omega)) := List.getElem?_eq_getElem (by omega)
    obtain ⟨c0, c1, h0, h1, hd⟩ := h2 k _ hi
    refine ⟨_, a, c0, c1, hi, ha, g _ _ (by rw [add_block]; exact hba) h0, g _ _ (by show B (a.add (k * 2)).block; rw [add_block]; exact hba) h1, hd, ?_, by rw [hS]; exact jJ_succ T kids k _ hi hnp⟩
    have h3 := jJ_len T kids k
    have h4 := pls_tk kids k _ hi
    have h5 := pls_tk_le kids (k + 1)
    rw [hS, hP]
    omega
  have HIt : Hid (∀ w l1 v' cv k t, kids[k]? = some t → DLine B W cv t → Kept B W w → w.ownsRow base 5 1 v' l1.length (Bs l1) → Bsd T base w → (∀ b, B b → b < w.heap.size ∧ v'.ownBlock ≠ some b) → l1.length + 16100 * pl t ≤ 35000000000000 → Calls Tryz.prog 74 #[v', cv] w (AppEnd 5 base w v' (l1 ++ jbT T t))) := fun w l1 v' cv k t hi hd g ho hbs hb hl => (SeqQC T hT) B w cv t l1 base v' (DLine.dk.keep g hd) (okTs_mem hoks hi) ho hbs hl hb
  have HSl : Hid (∀ k, (S k).length ≤ P) := fun k => by
    have h3 := jJ_len T kids k
    have h5 := pls_tk_le kids k
    rw [hS, hP]; omega
  have hSn := HSl.out n
  have hS0 : S 0 = [] := by rw [hS]; exact jJ_zero T kids
  have hfin : Hid (∀ w' v', AppB 5 base W vv w' v' (l ++ [91] ++ S n ++ [93]) → AppEnd 5 base W vv (l ++ jbT T (.mk kk (r : Nat) 0 f kids)) (.returned v') w') := fun w' v' H => by
    refine ⟨v', rfl, ?_⟩
    rw [node_jb T kk r f kids hk1, hn, ← hS]
    simpa only [List.append_assoc] using H
  have hPl : l.length + P + 16000 ≤ 35000000000000 := by rw [hP]; omega
  have H := H0
  rw [hn]
  clear H0 hrow hown hbs hok hoks hS hP hl hnp hob hB hn
  go_enter Tryz.func77, Tryz.ntmps77
  go_wp2_with (first
    | (at_builtin; refine app_byte rfl _ _ _ rfl Tryz.underlying33 infoB H rfl _ 91 rfl rfl (by first | rfl | simp) hbase (by (try simp only [List.length_append, List.length_cons, List.length_nil]); omega) ?_; intro v1 w1 H1; clear H; have H := H1; clear H1))
  go_loopw [0, 12] (fun x i wr => ∃ k : Nat, k ≤ n ∧ i = .int .i64 k ∧ AppB 5 base W vv wr x (l ++ [91] ++ S k)) (fun _ i _ => n - (intOf i).toNat)
  case atStart => exact ⟨0, by omega, rfl, by rw [hS0, List.append_nil]; exact H⟩
  case round =>
    clear H
    obtain ⟨k, hk, rfl, H⟩ := hrel
    rename World => wr
    by_cases hkL : k < n
    · obtain ⟨t, a, c0, c1, hti, rfl, q0, q1, hd, hpl, hsc⟩ := HRow.out wr (HKp.out _ _ _ H) k hkL
      have HI1 := Lib.hid (fun w l1 v' g ho hbs hb hl => HIt.out w l1 v' _ k t hti hd g ho hbs hb hl)
      obtain ⟨er, ep, en, ec, he⟩ := DLine.form2 hd
      simp only [Value.agg.injEq, Array.mk.injEq, List.cons.injEq, and_true] at he
      obtain ⟨rfl, rfl⟩ := he
      have HSc := Lib.hid hsc
      generalize jbT T t = it at HI1 HSc
      generalize pl t = plt at HI1 hpl
      clear hti hd hsc
      by_cases hk0 : 0 < k
      · have HS1 : Hid (S (k + 1) = S k ++ [44] ++ it) := by rw [HSc.out, if_pos hk0]; rfl
        have hk0i : (0 : Int) < (k : Int) := by omega
        have hlt := H.own.lt
        go_wp2_with (first
          | (at_builtin; refine app_byte rfl _ _ _ rfl Tryz.underlying33 infoB (AppB.start (H.own.alloc _)) rfl _ 44 rfl rfl (by first | rfl | simp) (by have := H.based hbase; simp; omega) (by (try simp only [List.length_append, List.length_cons, List.length_nil]); omega) ?_; intro v1 w1 H1; have z0 : w1.cell? ⟨wr.heap.size, 0, none⟩ = some (.int .u8 er) := by { rw [H1.cell (by simp) (fun e => Nat.lt_irrefl wr.heap.size (hlt _ e).2)]; simp }; have z1 : w1.cell? ⟨wr.heap.size, 1, none⟩ = some (.slice ep en ec) := by { rw [H1.cell (by simp) (fun e => Nat.lt_irrefl wr.heap.size (hlt _ e).2)]; simp }; have H2 := (H.beside (World.grownBy_alloc _ _ _)).trans H1; clear H H1; have H := H2; clear H2)
          | (go_at_call 74; refine (HI1.out _ _ _ (HKp.out _ _ _ H) H.own (HBs.out _ _ _ H) (HOb.out _ _ _ H) (by (try simp only [List.length_append, List.length_cons, List.length_nil]); omega)).mono ?_; rintro e w' ⟨v', rfl, H'⟩; have H1 := H.trans H'; clear H H'; have H := H1; clear H1))
        exact ⟨⟨k + 1, by omega, by go_num, by rw [HS1.out]; simpa only [List.append_assoc] using H⟩, by simp [intOf]; omega⟩
      · have hk00 : k = 0 := by omega
        have hSk : S k = [] := by rw [hk00]; exact hS0
        have HS1 : Hid (S (k + 1) = it) := by rw [HSc.out, if_neg hk0, hSk]; rfl
        rw [hSk, List.append_nil] at H
        have hk0i : ¬ (0 : Int) < (k : Int) := by omega
        clear hk00 hSk
        go_wp2_with (first
          | (go_at_call 74; refine (HI1.out _ _ _ (HKp.out _ _ _ (H.beside (World.grownBy_alloc _ _ _))) (H.beside (World.grownBy_alloc _ _ _)).own (HBs.out _ _ _ (H.beside (World.grownBy_alloc _ _ _))) (HOb.out _ _ _ (H.beside (World.grownBy_alloc _ _ _))) (by (try simp only [List.length_append, List.length_cons, List.length_nil]); omega)).mono ?_; rintro e w' ⟨v', rfl, H'⟩; have H1 := (H.beside (World.grownBy_alloc _ _ _)).trans H'; clear H H'; have H := H1; clear H1))
        exact ⟨⟨k + 1, by omega, by go_num, by rw [HS1.out]; simpa only [List.append_assoc] using H⟩, by simp [intOf]; omega⟩
    · obtain rfl : k = n := by omega
      go_wp2_with (first
        | (at_builtin; refine app_byte rfl _ _ _ rfl Tryz.underlying33 infoB H rfl _ 93 rfl rfl (by first | rfl | simp) hbase (by (try simp only [List.length_append, List.length_cons, List.length_nil]); omega) ?_; intro v1 w1 H1; clear H; have H := H1; clear H1))
      go_ret
      exact hfin.out _ _ H

set_option maxRecDepth 100000 in
set_option maxHeartbeats 4000000 in
theorem MatQC (T : Nat → Int) (hT : ∀ i, U64 (T i)) {kk : Int} (hk1 : kk ≠ 1) : QC (DSs kk) 83 T := by
  intro B W v t l base vv hd hok hown hbs hl hB
  obtain ⟨r, f, kids, p, rfl, rfl, hrow⟩ := hd
  obtain ⟨n, hn⟩ : ∃ n, kids.length = n := ⟨_, rfl⟩
  have hn2 : n ≤ 2000 := by rw [← hn]; unfold okT at hok; exact hok.2.1
  have hoks : okTs kids := by unfold okT at hok; exact hok.2.2
  rw [pl_node0] at hl
  have hnp : ∀ s ∈ kids, noPt s = false := by
    intro s hs
    obtain ⟨i, hi⟩ := List.getElem?_of_mem hs
    obtain ⟨a, ha⟩ := hrow.1 (by have := (List.getElem?_eq_some_iff.1 hi).1; omega)
    obtain ⟨c0, h0, hd⟩ := (hrow.2 a ha).2 i s hi
    obtain ⟨r, f, kids, p, rfl, _⟩ := hd
    exact noPt_ne (by decide)
  have hbase := hbs.le
  have H0 : AppB 5 base W vv W vv l := AppB.start hown
  have hob : ∀ b, vv.ownBlock = some b → base ≤ b := fun b e => (hown.lt b e).1
  have HKp : Hid (∀ w v' l1, AppB 5 base W vv w v' l1 → Kept B W w) := fun w v' l1 H => .grownRow H.grown (fun b e hb => (hB b hb).2 e)
  have HBs : Hid (∀ w v' l1, AppB 5 base W vv w v' l1 → Bsd T base w) := fun w v' l1 H => hbs.mono H.grown hob
  have HOb : Hid (∀ w v' l1, AppB 5 base W vv w v' l1 → ∀ b, B b → b < w.heap.size ∧ v'.ownBlock ≠ some b) := fun w v' l1 H b hb => ⟨Nat.lt_of_lt_of_le (hB b hb).1 H.grown.size, fun e => by
    rcases H.at_ with h | ⟨b', h, h2⟩
    · exact (hB b hb).2 (h ▸ e)
    · rw [h] at e; injection e with e; have := (hB b hb).1; omega⟩
  obtain ⟨P, hP⟩ : ∃ P, P = 16100 * pls kids := ⟨_, rfl⟩
  obtain ⟨S, hS⟩ : ∃ S : Nat → List UInt8, S = jJ T kids := ⟨_, rfl⟩
  have HRow : Hid (∀ w, Kept B W w → ∀ k, k < n → ∃ t a c0, kids[k]? = some t ∧ p = some a ∧ w.cell? (a.add k) = some c0 ∧ (DSq 3) B W c0 t ∧ (S k).length + 16100 * pl t ≤ P ∧ S (k + 1) = S k ++ (if 0 < k then [44] else []) ++ jbT T t) := fun w g k hk => by
    obtain ⟨a, ha⟩ := hrow.1 (by omega)
    obtain ⟨hba, h2⟩ := hrow.2 a ha
    have hi : kids[k]? = some (kids[k]'(by omega)) := List.getElem?_eq_getElem (by omega)
    obtain ⟨c0, h0, hd⟩ := h2 k _ hi
    refine ⟨_, a, c0, hi, ha, g _ _ (by rw [add_block]; exact hba) h0, hd, ?_, by rw [hS]; exact jJ_succ T kids k _ hi hnp⟩
    have h3 := jJ_len T kids k
    have h4 := pls_tk kids k _ hi
    have h5 := pls_tk_le kids (k + 1)
    rw [hS, hP]
    omega
  have HIt : Hid (∀ w l1 v' cv k t, kids[k]? = some t → (DSq 3) B W cv t → Kept B W w → w.ownsRow base 5 1 v' l1.length (Bs l1) → Bsd T base w → (∀ b, B b → b < w.heap.size ∧ v'.ownBlock ≠ some b) → l1.length + 16100 * pl t ≤ 35000000000000 → Calls Tryz.prog 77 #[v', cv] w (AppEnd 5 base w v' (l1 ++ jbT T t))) := fun w l1 v' cv k t hi hd g ho hbs hb hl => (SeqsQC T hT (by decide : (3 : Int) ≠ 1)) B w cv t l1 base v' (DSq.dk.keep g hd) (okTs_mem hoks hi) ho hbs hl hb
  have HSl : Hid (∀ k, (S k).length ≤ P) := fun k => by
    have h3 := jJ_len T kids k
    have h5 := pls_tk_le kids k
    rw [hS, hP]; omega
  have hSn := HSl.out n
  have hS0 : S 0 = [] := by rw [hS]; exact jJ_zero T kids
  have hfin : Hid (∀ w' v', AppB 5 base W vv w' v' (l ++ [91] ++ S n ++ [93]) → AppEnd 5 base W vv (l ++ jbT T (.mk kk (r : Nat) 0 f kids)) (.returned v') w') := fun w' v' H => by
    refine ⟨v', rfl, ?_⟩
    rw [node_jb T kk r f kids hk1, hn, ← hS]
    simpa only [List.append_assoc] using H
  have hPl : l.length + P + 16000 ≤ 35000000000000 := by rw [hP]; omega
  have H := H0
  rw [hn]
  clear H0 hrow hown hbs hok hoks hS hP hl hnp hob hB hn
  go_enter Tryz.func83, Tryz.ntmps83
  go_wp2_with (first
    | (at_builtin; refine app_byte rfl _ _ _ rfl Tryz.underlying33 infoB H rfl _ 91 rfl rfl (by first | rfl | simp) hbase (by (try simp only [List.length_append, List.length_cons, List.length_nil]); omega) ?_; intro v1 w1 H1; clear H; have H := H1; clear H1))
  go_loopw [0, 12] (fun x i wr => ∃ k : Nat, k ≤ n ∧ i = .int .i64 k ∧ AppB 5 base W vv wr x (l ++ [91] ++ S k)) (fun _ i _ => n - (intOf i).toNat)
  case atStart => exact ⟨0, by omega, rfl, by rw [hS0, List.append_nil]; exact H⟩
  case round =>
    clear H
    obtain ⟨k, hk, rfl, H⟩ := hrel
    rename World => wr
    by_cases hkL : k < n
    · obtain ⟨t, a, c0, hti, rfl, q0, hd, hpl, hsc⟩ := HRow.out wr (HKp.out _ _ _ H) k hkL
      have HI1 := Lib.hid (fun w l1 v' g ho hbs hb hl => HIt.out w l1 v' _ k t hti hd g ho hbs hb hl)
      obtain ⟨ep, en, he⟩ := DSq.form hd
      subst he
      have HSc := Lib.hid hsc
      generalize jbT T t = it at HI1 HSc
      generalize pl t = plt at HI1 hpl
      clear hti hd hsc
      by_cases hk0 : 0 < k
      · have HS1 : Hid (S (k + 1) = S k ++ [44] ++ it) := by rw [HSc.out, if_pos hk0]; rfl
        have hk0i : (0 : Int) < (k : Int) := by omega
        have hlt := H.own.lt
        go_wp2_with (first
          | (at_builtin; refine app_byte rfl _ _ _ rfl Tryz.underlying33 infoB H rfl _ 44 rfl rfl (by first | rfl | simp) hbase (by (try simp only [List.length_append, List.length_cons, List.length_nil]); omega) ?_; intro v1 w1 H1; clear H; have H := H1; clear H1)
          | (go_at_call 77; refine (HI1.out _ _ _ (HKp.out _ _ _ H) H.own (HBs.out _ _ _ H) (HOb.out _ _ _ H) (by (try simp only [List.length_append, List.length_cons, List.length_nil]); omega)).mono ?_; rintro e w' ⟨v', rfl, H'⟩; have H1 := H.trans H'; clear H H'; have H := H1; clear H1))
        exact ⟨⟨k + 1, by omega, by go_num, by rw [HS1.out]; simpa only [List.append_assoc] using H⟩, by simp [intOf]; omega⟩
      · have hk00 : k = 0 := by omega
        have hSk : S k = [] := by rw [hk00]; exact hS0
        have HS1 : Hid (S (k + 1) = it) := by rw [HSc.out, if_neg hk0, hSk]; rfl
        rw [hSk, List.append_nil] at H
        have hk0i : ¬ (0 : Int) < (k : Int) := by omega
        clear hk00 hSk
        go_wp2_with (first
          | (go_at_call 77; refine (HI1.out _ _ _ (HKp.out _ _ _ H) H.own (HBs.out _ _ _ H) (HOb.out _ _ _ H) (by (try simp only [List.length_append, List.length_cons, List.length_nil]); omega)).mono ?_; rintro e w' ⟨v', rfl, H'⟩; have H1 := H.trans H'; clear H H'; have H := H1; clear H1))
        exact ⟨⟨k + 1, by omega, by go_num, by rw [HS1.out]; simpa only [List.append_assoc] using H⟩, by simp [intOf]; omega⟩
    · obtain rfl : k = n := by omega
      go_wp2_with (first
        | (at_builtin; refine app_byte rfl _ _ _ rfl Tryz.underlying33 infoB H rfl _ 93 rfl rfl (by first | rfl | simp) hbase (by (try simp only [List.length_append, List.length_cons, List.length_nil]); omega) ?_; intro v1 w1 H1; clear H; have H := H1; clear H1))
      go_ret
      exact hfin.out _ _ H
end Go.Proofs.YthcjnadceambgaaGreatDoor
namespace Go.Proofs.YthcjnadceambgaaGreatDoor
open Go.RowKit
def jHead1 : List UInt8 := [123, 34, 116, 121, 112, 101, 34, 58, 34, 80, 111, 105, 110, 116, 34, 44, 34, 99, 111, 111, 114, 100, 105, 110, 97, 116, 101, 115, 34, 58]
def jHead2 : List UInt8 := [123, 34, 116, 121, 112, 101, 34, 58, 34, 76, 105, 110, 101, 83, 116, 114, 105, 110, 103, 34, 44, 34, 99, 111, 111, 114, 100, 105, 110, 97, 116, 101, 115, 34, 58]
def jHead3 : List UInt8 := [123, 34, 116, 121, 112, 101, 34, 58, 34, 80, 111, 108, 121, 103, 111, 110, 34, 44, 34, 99, 111, 111, 114, 100, 105, 110, 97, 116, 101, 115, 34, 58]
def jHead4 : List UInt8 := [123, 34, 116, 121, 112, 101, 34, 58, 34, 77, 117, 108, 116, 105, 80, 111, 105, 110, 116, 34, 44, 34, 99, 111, 111, 114, 100, 105, 110, 97, 116, 101, 115, 34, 58]
def jHead5 : List UInt8 := [123, 34, 116, 121, 112, 101, 34, 58, 34, 77, 117, 108, 116, 105, 76, 105, 110, 101, 83, 116, 114, 105, 110, 103, 34, 44, 34, 99, 111, 111, 114, 100, 105, 110, 97, 116, 101, 115, 34, 58]
def jHead6 : List UInt8 := [123, 34, 116, 121, 112, 101, 34, 58, 34, 77, 117, 108, 116, 105, 80, 111, 108, 121, 103, 111, 110, 34, 44, 34, 99, 111, 111, 114, 100, 105, 110, 97, 116, 101, 115, 34, 58]
def jHead (k : Int) : List UInt8 := if k = 1 then jHead1 else if k = 2 then jHead2 else if k = 3 then jHead3 else if k = 4 then jHead4 else if k = 5 then jHead5 else jHead6
theorem DSs.form {k : Int} {B : Nat → Prop} {W : World} {v : Value} {t : Raw} : DSs k B W v t → ∃ (p : Option Addr) (n : Nat), v = .slice p n n := fun ⟨r, f, kids, p, e, ev, h⟩ => ⟨p, _, ev⟩
/-- A function that makes the GeoJSON object of a value of kind k. -/
def JMC (D : (Nat → Prop) → World → Value → Raw → Prop) (f : Nat) (T : Nat → Int) (k : Int) : Prop := ∀ (B : Nat → Prop) (W : World) (v : Value) (t : Raw), D B W v t → okT t → pl t ≤ 3000 → (∀ b, B b → b < W.heap.size) → Tabs T W → Calls Tryz.prog f #[v] W fun e w' => ∃ v', e = .returned (.tuple #[v', .nilIface]) ∧ AppB 5 W.heap.size W (.slice none 0 0) w' v' (jHead k ++ jbT T t ++ [125])

set_option maxRecDepth 100000 in
set_option maxHeartbeats 2000000 in
theorem PgMarshal (T : Nat → Int) (hT : ∀ i, U64 (T i)) : JMC DPg 45 T 3 := by
  intro B W v t hd hok hpl hB ht
  obtain ⟨p, n, c, r, rfl⟩ := DNode.form hd
  have hlen := jbT_len T t
  have HG := Lib.hid (World.grownBy_alloc W (.cells #[.slice p n c, .int .u8 r] 76) none)
  have H : AppB 5 W.heap.size (W.alloc (.cells #[.slice p n c, .int .u8 r] 76)) (.slice none 0 0) (W.alloc (.cells #[.slice p n c, .int .u8 r] 76)) (.slice none 0 0) [] := AppB.nil _ _ _
  have hbase0 : W.heap.size ≤ (W.alloc (.cells #[.slice p n c, .int .u8 r] 76)).heap.size := by simp
  have HC : Hid (∀ w v' l', AppB 5 W.heap.size (W.alloc (.cells #[.slice p n c, .int .u8 r] 76)) (.slice none 0 0) w v' l' → w.cell? ⟨W.heap.size, 0, none⟩ = some (.slice p n c) ∧ w.cell? ⟨W.heap.size, 1, none⟩ = some (.int .u8 r)) := fun w v' l' h => by
    refine ⟨?_, ?_⟩ <;> (rw [h.cell (by simp) (by simp [Value.ownBlock])]; simp)
  have HN : Hid (∀ w v' l', AppB 5 W.heap.size (W.alloc (.cells #[.slice p n c, .int .u8 r] 76)) (.slice none 0 0) w v' l' → Calls Tryz.prog 78 #[.agg #[.slice p n c, .int .u8 r]] w (FPost (DSq 3) B w t)) := fun w v' l' h => by
    have g0 : W.grownBy w none := gt_trans HG.out h.grown (.inl rfl)
    exact PgNC B w _ t (DPg.dk.mono g0 hd) hok (fun b hb => Nat.lt_of_lt_of_le (hB b hb) g0.size)
  have HA : Hid (∀ w w2 v' l' v2, AppB 5 W.heap.size (W.alloc (.cells #[.slice p n c, .int .u8 r] 76)) (.slice none 0 0) w v' l' → w.grownBy w2 none → (DSq 3) (fun b => B b ∨ Fr w w2 b) w2 v2 t → l'.length ≤ 1000 → Calls Tryz.prog 77 #[v', v2] w2 (AppEnd 5 W.heap.size w2 v' (l' ++ jbT T t))) := fun w w2 v' l' v2 h g hd2 hl => by
    have g0 : W.grownBy w2 none := gt_trans (gt_trans HG.out h.grown (.inl rfl)) g (.inl rfl)
    have ho := (h.beside g).own
    refine (SeqsQC T hT (by decide : (3 : Int) ≠ 1)) _ w2 v2 t l' W.heap.size v' hd2 hok ho ((⟨ht, ht.lt3, ht.lt2, Nat.le_refl _⟩ : Bsd T W.heap.size W).mono g0 (fun b e => by cases e)) (by omega) (fun b hb => ?_)
    have hlt := h.own.lt
    have hs := g.size
    rcases hb with hb | hb
    · have := hB b hb
      exact ⟨Nat.lt_of_lt_of_le this g0.size, fun e => by have := (hlt b e).1; omega⟩
    · exact ⟨hb.2, fun e => by have := (hlt b e).2; have := hb.1; omega⟩
  have HFO : Hid (∀ (B : Nat → Prop) (W : World) (v : Value) (t : Raw), (DSq 3) B W v t → ∃ (p : Option Addr) (n : Nat), v = .slice p n n) := fun B W v t h => DSq.form h
  generalize jbT T t = tx at HA hlen ⊢
  have htx : tx.length ≤ 48300000 := by omega
  clear hd hok hpl hB ht hlen
  go_enter Tryz.func45, Tryz.ntmps45
  go_wp2_with (first
    | (at_builtin; refine app_str rfl _ _ _ _ rfl Tryz.underlying33 Tryz.underlying9 infoB H rfl _ rfl hbase0 (by simp [ByteArray.size]) ?_; intro v1 w1 H1; clear H; have H := H1; clear H1; obtain ⟨k0, k1⟩ := HC.out _ _ _ H)
    | (go_at_call 78; refine (HN.out _ _ _ H).mono ?_; rintro e w2 ⟨v2, rfl, hd2, hg2⟩; have HD2 := Lib.hid hd2; obtain ⟨ep, en, rfl⟩ := HFO.out _ _ _ _ hd2; clear hd2)
    | (go_at_call 77; refine (HA.out _ _ _ _ _ H hg2 HD2.out (by simp)).mono ?_; rintro e w' ⟨v', rfl, H'⟩; have H1 := (H.beside hg2).trans H'; clear H H'; have H := H1; clear H1)
    | (at_builtin; refine app_byte rfl _ _ _ rfl Tryz.underlying33 infoB H rfl _ 125 rfl rfl (by first | rfl | simp) hbase0 (by (try simp only [List.length_append, List.length_cons, List.length_nil]); omega) ?_; intro v1 w1 H1; clear H; have H := H1; clear H1))
  have H2 := ((AppB.nil W 5 W.heap.size).beside HG.out).trans H
  go_returns
  refine ⟨v1, rfl, ?_⟩
  have hh : jHead 3 = jHead3 := by simp [jHead]
  rw [hh]
  simpa only [jHead3, List.append_assoc, List.nil_append] using H2

set_option maxRecDepth 100000 in
set_option maxHeartbeats 2000000 in
theorem MlMarshal (T : Nat → Int) (hT : ∀ i, U64 (T i)) : JMC DMl 48 T 5 := by
  intro B W v t hd hok hpl hB ht
  obtain ⟨p, n, c, r, rfl⟩ := DNode.form hd
  have hlen := jbT_len T t
  have HG := Lib.hid (World.grownBy_alloc W (.cells #[.slice p n c, .int .u8 r] 79) none)
  have H : AppB 5 W.heap.size (W.alloc (.cells #[.slice p n c, .int .u8 r] 79)) (.slice none 0 0) (W.alloc (.cells #[.slice p n c, .int .u8 r] 79)) (.slice none 0 0) [] := AppB.nil _ _ _
  have hbase0 : W.heap.size ≤ (W.alloc (.cells #[.slice p n c, .int .u8 r] 79)).heap.size := by simp
  have HC : Hid (∀ w v' l', AppB 5 W.heap.size (W.alloc (.cells #[.slice p n c, .int .u8 r] 79)) (.slice none 0 0) w v' l' → w.cell? ⟨W.heap.size, 0, none⟩ = some (.slice p n c) ∧ w.cell? ⟨W.heap.size, 1, none⟩ = some (.int .u8 r)) := fun w v' l' h => by
    refine ⟨?_, ?_⟩ <;> (rw [h.cell (by simp) (by simp [Value.ownBlock])]; simp)
  have HN : Hid (∀ w v' l', AppB 5 W.heap.size (W.alloc (.cells #[.slice p n c, .int .u8 r] 79)) (.slice none 0 0) w v' l' → Calls Tryz.prog 82 #[.agg #[.slice p n c, .int .u8 r]] w (FPost (DSq 5) B w t)) := fun w v' l' h => by
    have g0 : W.grownBy w none := gt_trans HG.out h.grown (.inl rfl)
    exact MlNC B w _ t (DMl.dk.mono g0 hd) hok (fun b hb => Nat.lt_of_lt_of_le (hB b hb) g0.size)
  have HA : Hid (∀ w w2 v' l' v2, AppB 5 W.heap.size (W.alloc (.cells #[.slice p n c, .int .u8 r] 79)) (.slice none 0 0) w v' l' → w.grownBy w2 none → (DSq 5) (fun b => B b ∨ Fr w w2 b) w2 v2 t → l'.length ≤ 1000 → Calls Tryz.prog 77 #[v', v2] w2 (AppEnd 5 W.heap.size w2 v' (l' ++ jbT T t))) := fun w w2 v' l' v2 h g hd2 hl => by
    have g0 : W.grownBy w2 none := gt_trans (gt_trans HG.out h.grown (.inl rfl)) g (.inl rfl)
    have ho := (h.beside g).own
    refine (SeqsQC T hT (by decide : (5 : Int) ≠ 1)) _ w2 v2 t l' W.heap.size v' hd2 hok ho ((⟨ht, ht.lt3, ht.lt2, Nat.le_refl _⟩ : Bsd T W.heap.size W).mono g0 (fun b e => by cases e)) (by omega) (fun b hb => ?_)
    have hlt := h.own.lt
    have hs := g.size
    rcases hb with hb | hb
    · have := hB b hb
      exact ⟨Nat.lt_of_lt_of_le this g0.size, fun e => by have := (hlt b e).1; omega⟩
    · exact ⟨hb.2, fun e => by have := (hlt b e).2; have := hb.1; omega⟩
  have HFO : Hid (∀ (B : Nat → Prop) (W : World) (v : Value) (t : Raw), (DSq 5) B W v t → ∃ (p : Option Addr) (n : Nat), v = .slice p n n) := fun B W v t h => DSq.form h
  generalize jbT T t = tx at HA hlen ⊢
  have htx : tx.length ≤ 48300000 := by omega
  clear hd hok hpl hB ht hlen
  go_enter Tryz.func48, Tryz.ntmps48
  go_wp2_with (first
    | (at_builtin; refine app_str rfl _ _ _ _ rfl Tryz.underlying33 Tryz.underlying9 infoB H rfl _ rfl hbase0 (by simp [ByteArray.size]) ?_; intro v1 w1 H1; clear H; have H := H1; clear H1; obtain ⟨k0, k1⟩ := HC.out _ _ _ H)
    | (go_at_call 82; refine (HN.out _ _ _ H).mono ?_; rintro e w2 ⟨v2, rfl, hd2, hg2⟩; have HD2 := Lib.hid hd2; obtain ⟨ep, en, rfl⟩ := HFO.out _ _ _ _ hd2; clear hd2)
    | (go_at_call 77; refine (HA.out _ _ _ _ _ H hg2 HD2.out (by simp)).mono ?_; rintro e w' ⟨v', rfl, H'⟩; have H1 := (H.beside hg2).trans H'; clear H H'; have H := H1; clear H1)
    | (at_builtin; refine app_byte rfl _ _ _ rfl Tryz.underlying33 infoB H rfl _ 125 rfl rfl (by first | rfl | simp) hbase0 (by (try simp only [List.length_append, List.length_cons, List.length_nil]); omega) ?_; intro v1 w1 H1; clear H; have H := H1; clear H1))
  have H2 := ((AppB.nil W 5 W.heap.size).beside HG.out).trans H
  go_returns
  refine ⟨v1, rfl, ?_⟩
  have hh : jHead 5 = jHead5 := by simp [jHead]
  rw [hh]
  simpa only [jHead5, List.append_assoc, List.nil_append] using H2

set_option maxRecDepth 100000 in
set_option maxHeartbeats 2000000 in
theorem MpMarshal (T : Nat → Int) (hT : ∀ i, U64 (T i)) : JMC DMp 49 T 6 := by
  intro B W v t hd hok hpl hB ht
  obtain ⟨p, n, c, r, rfl⟩ := DNode.form hd
  have hlen := jbT_len T t
  have HG := Lib.hid (World.grownBy_alloc W (.cells #[.slice p n c, .int .u8 r] 57) none)
  have H : AppB 5 W.heap.size (W.alloc (.cells #[.slice p n c, .int .u8 r] 57)) (.slice none 0 0) (W.alloc (.cells #[.slice p n c, .int .u8 r] 57)) (.slice none 0 0) [] := AppB.nil _ _ _
  have hbase0 : W.heap.size ≤ (W.alloc (.cells #[.slice p n c, .int .u8 r] 57)).heap.size := by simp
  have HC : Hid (∀ w v' l', AppB 5 W.heap.size (W.alloc (.cells #[.slice p n c, .int .u8 r] 57)) (.slice none 0 0) w v' l' → w.cell? ⟨W.heap.size, 0, none⟩ = some (.slice p n c) ∧ w.cell? ⟨W.heap.size, 1, none⟩ = some (.int .u8 r)) := fun w v' l' h => by
    refine ⟨?_, ?_⟩ <;> (rw [h.cell (by simp) (by simp [Value.ownBlock])]; simp)
  have HN : Hid (∀ w v' l', AppB 5 W.heap.size (W.alloc (.cells #[.slice p n c, .int .u8 r] 57)) (.slice none 0 0) w v' l' → Calls Tryz.prog 84 #[.agg #[.slice p n c, .int .u8 r]] w (FPost (DSs 6) B w t)) := fun w v' l' h => by
    have g0 : W.grownBy w none := gt_trans HG.out h.grown (.inl rfl)
    exact MpNC B w _ t (DMp.dk.mono g0 hd) hok (fun b hb => Nat.lt_of_lt_of_le (hB b hb) g0.size)
  have HA : Hid (∀ w w2 v' l' v2, AppB 5 W.heap.size (W.alloc (.cells #[.slice p n c, .int .u8 r] 57)) (.slice none 0 0) w v' l' → w.grownBy w2 none → (DSs 6) (fun b => B b ∨ Fr w w2 b) w2 v2 t → l'.length ≤ 1000 → Calls Tryz.prog 83 #[v', v2] w2 (AppEnd 5 W.heap.size w2 v' (l' ++ jbT T t))) := fun w w2 v' l' v2 h g hd2 hl => by
    have g0 : W.grownBy w2 none := gt_trans (gt_trans HG.out h.grown (.inl rfl)) g (.inl rfl)
    have ho := (h.beside g).own
    refine (MatQC T hT (by decide : (6 : Int) ≠ 1)) _ w2 v2 t l' W.heap.size v' hd2 hok ho ((⟨ht, ht.lt3, ht.lt2, Nat.le_refl _⟩ : Bsd T W.heap.size W).mono g0 (fun b e => by cases e)) (by omega) (fun b hb => ?_)
    have hlt := h.own.lt
    have hs := g.size
    rcases hb with hb | hb
    · have := hB b hb
      exact ⟨Nat.lt_of_lt_of_le this g0.size, fun e => by have := (hlt b e).1; omega⟩
    · exact ⟨hb.2, fun e => by have := (hlt b e).2; have := hb.1; omega⟩
  have HFO : Hid (∀ (B : Nat → Prop) (W : World) (v : Value) (t : Raw), (DSs 6) B W v t → ∃ (p : Option Addr) (n : Nat), v = .slice p n n) := fun B W v t h => DSs.form h
  generalize jbT T t = tx at HA hlen ⊢
  have htx : tx.length ≤ 48300000 := by omega
  clear hd hok hpl hB ht hlen
  go_enter Tryz.func49, Tryz.ntmps49
  go_wp2_with (first
    | (at_builtin; refine app_str rfl _ _ _ _ rfl Tryz.underlying33 Tryz.underlying9 infoB H rfl _ rfl hbase0 (by simp [ByteArray.size]) ?_; intro v1 w1 H1; clear H; have H := H1; clear H1; obtain ⟨k0, k1⟩ := HC.out _ _ _ H)
    | (go_at_call 84; refine (HN.out _ _ _ H).mono ?_; rintro e w2 ⟨v2, rfl, hd2, hg2⟩; have HD2 := Lib.hid hd2; obtain ⟨ep, en, rfl⟩ := HFO.out _ _ _ _ hd2; clear hd2)
    | (go_at_call 83; refine (HA.out _ _ _ _ _ H hg2 HD2.out (by simp)).mono ?_; rintro e w' ⟨v', rfl, H'⟩; have H1 := (H.beside hg2).trans H'; clear H H'; have H := H1; clear H1)
    | (at_builtin; refine app_byte rfl _ _ _ rfl Tryz.underlying33 infoB H rfl _ 125 rfl rfl (by first | rfl | simp) hbase0 (by (try simp only [List.length_append, List.length_cons, List.length_nil]); omega) ?_; intro v1 w1 H1; clear H; have H := H1; clear H1))
  have H2 := ((AppB.nil W 5 W.heap.size).beside HG.out).trans H
  go_returns
  refine ⟨v1, rfl, ?_⟩
  have hh : jHead 6 = jHead6 := by simp [jHead]
  rw [hh]
  simpa only [jHead6, List.append_assoc, List.nil_append] using H2
end Go.Proofs.YthcjnadceambgaaGreatDoor
namespace Go.Proofs.YthcjnadceambgaaGreatDoor
open Go.RowKit

/-- A row of bytes in memory. -/
def BVal (W : World) (v : Value) (l : List UInt8) : Prop :=
  ∃ g cap, v = .slice (some ⟨g, 0, none⟩) l.length cap ∧ ∀ i, i < l.length → W.cell? ⟨g, i, none⟩ = some (.int .u8 ((l.getD i 0).toNat : Int))
theorem BVal.mono {W W' : World} {v : Value} {l : List UInt8} (h : BVal W v l) (hg : W.grownBy W' none) : BVal W' v l := by
  obtain ⟨g, cap, rfl, h⟩ := h
  exact ⟨g, cap, rfl, fun i hi => hg.cell (h i hi) (by simp)⟩
theorem BVal.str {P : Program} {W : World} {v : Value} {l : List UInt8} {src dst et : TypeId} (hs : P.underlying src = some (.slice et)) (he : P.underlying et = some (.int .u8)) (hd : P.underlying dst = some .string)
    (h : BVal W v l) : (convert src dst v).run P W = .ok (.string ⟨l.toArray⟩) W := by
  have key : ∀ xs : List UInt8, strOfNums (xs.map fun b => (b.toNat : Int)) = ⟨xs.toArray⟩ := by
    intro xs
    simp only [strOfNums, List.map_map]
    congr 2
    refine (List.map_congr_left fun b _ => ?_).trans (List.map_id xs)
    simp
  obtain ⟨g, cap, rfl, h⟩ := h
  rw [← key l]
  refine run_convert_bytes_arg W src et hs he g 0 l.length cap (l.map fun b => (b.toNat : Int)) (by simp) (fun i hi => ?_) dst hd
  rw [Nat.zero_add, h i hi]
  simp [List.getD_eq_getElem?_getD, List.getElem?_eq_getElem hi]
theorem BVal.of_conv (W : World) (e : TypeId) (l : List UInt8) (s : ByteArray) (hs : s = ⟨l.toArray⟩) : W.grownBy (Lib.bytesWorld W e s) none ∧ BVal (Lib.bytesWorld W e s) (.slice (some ⟨W.heap.size, 0, none⟩) s.size (grownCap W s.size 0 e)) l := by
  subst hs
  refine ⟨⟨rfl, rfl, rfl, by rw [Lib.bytesWorld_size]; omega, fun i hi _ => Lib.bytesWorld_at_old W e _ i hi⟩, ?_⟩
  have hsz : (⟨l.toArray⟩ : ByteArray).size = l.length := by simp [ByteArray.size]
  refine ⟨W.heap.size, _, by rw [hsz], fun i hi => ?_⟩
  rw [Lib.bytesWorld_cell W e _ i (by rw [hsz]; exact hi)]
section
variable {P : Program} {ops : Array Oper} {rest : List Oper} {o : Oper} {a : Act} {Q : Exit → Act → World → Prop} {W : World}
/-- []byte(s). -/
theorem conv_b (hgd : o.guard = none) (src dst et : TypeId) (x : Operand) (ho : o.op = .convert src dst x) (s : ByteArray) (l : List UInt8) (hs : s = ⟨l.toArray⟩) (hx : a.eval x = .string s)
    (h1 : P.underlying src = some .string) (h2 : P.underlying dst = some (.slice et)) (h3 : P.underlying et = some (.int .u8))
    (h : ∀ v w1, W.grownBy w1 none → BVal w1 v l → wpList P ops Q rest (a.put o.dst v) w1) : wpList P ops Q (o :: rest) a W := by
  refine wpList_plain hgd fun K hK => ?_
  obtain ⟨g, b⟩ := BVal.of_conv W et l s hs
  have hr := Lib.run_convert_string_bytes (P := P) W src dst et s h1 h2 h3
  unfold Oper.wp execOp
  simp only [ho, Sem.run_bind, Sem.run_pure, Result.andThen_ok, hx, hr]
  exact hK _ _ (h _ _ g b)
end

set_option maxRecDepth 100000 in
theorem json_any (v : Value) (W : World) (hv : ∃ p n c, v = .slice p n c) : Calls Tryz.prog 40 #[v, .nilIface] W fun e w' => e = .returned (.tuple #[v, .bool true]) ∧ w' = W := by
  obtain ⟨p, n, c, rfl⟩ := hv
  go_enter Tryz.func40, Tryz.ntmps40
  go_wp2_with fail
  go_returns
  exact ⟨rfl, rfl⟩

theorem AppB.slice {e base : Nat} {w0 w : World} {v0 v : Value} {l : List UInt8} (h : AppB e base w0 v0 w v l) : ∃ p n c, v = .slice p n c := by
  rcases h.own.2 with h | ⟨g, cap, cur, hv, _⟩
  · exact ⟨_, _, _, h.1⟩
  · exact ⟨_, _, _, hv⟩

end Go.Proofs.YthcjnadceambgaaGreatDoor
namespace Go.Proofs.YthcjnadceambgaaGreatDoor
open Go.RowKit

set_option maxRecDepth 100000 in
theorem jName1 (w : World) : Calls Tryz.prog 50 #[.int .i64 1] w fun e w' => e = .returned (.string ⟨#[80, 111, 105, 110, 116]⟩) ∧ w' = w := by
  go_enter Tryz.func50, Tryz.ntmps50
  go_wp2_with fail
  go_ret
  exact ⟨rfl, rfl⟩
set_option maxRecDepth 100000 in
set_option maxHeartbeats 2000000 in
theorem specJSON1 (W : World) (d : Int) (p q : Option Addr) (n cap m c2 : Nat) (M : List UInt8) (hM : M.length ≤ 24200000)
    (hj : ∀ w, W.grownBy w none → Calls Tryz.prog 51 #[.agg #[.int .i64 1, .int .i64 d, .slice p n cap, .slice q m c2]] w fun e w' => e = .returned (.string ⟨M.toArray⟩) ∧ w.grownBy w' none) :
    Calls Tryz.prog 19 #[.agg #[.int .i64 1, .int .i64 d, .slice p n cap, .slice q m c2]] W fun e w' => ∃ v, e = .returned (.tuple #[v, .bool true]) ∧ BVal w' v (jHead1 ++ M ++ [125]) ∧ W.grownBy w' none := by
  have HB := Lib.hid (World.grownBy_alloc W (.cells #[.int .i64 1, .int .i64 d, .slice p n cap, .slice q m c2] 25) none)
  have HJB := Lib.hid hj
  obtain ⟨J, hJ⟩ : ∃ J : ByteArray, J = ⟨M.toArray⟩ := ⟨_, rfl⟩
  rw [← hJ] at HJB
  have hc1 := cat_run Tryz.prog [123, 34, 116, 121, 112, 101, 34, 58, 34] [80, 111, 105, 110, 116] ⟨#[123, 34, 116, 121, 112, 101, 34, 58, 34]⟩ ⟨#[80, 111, 105, 110, 116]⟩ ⟨#[123, 34, 116, 121, 112, 101, 34, 58, 34, 80, 111, 105, 110, 116]⟩ rfl rfl rfl (by decide)
  obtain ⟨J1, hJ1⟩ : ∃ J1 : ByteArray, J1 = ⟨jHead1.toArray⟩ := ⟨_, rfl⟩
  have hc2 := cat_run Tryz.prog [123, 34, 116, 121, 112, 101, 34, 58, 34, 80, 111, 105, 110, 116] [34, 44, 34, 99, 111, 111, 114, 100, 105, 110, 97, 116, 101, 115, 34, 58] ⟨#[123, 34, 116, 121, 112, 101, 34, 58, 34, 80, 111, 105, 110, 116]⟩ ⟨#[34, 44, 34, 99, 111, 111, 114, 100, 105, 110, 97, 116, 101, 115, 34, 58]⟩ J1 rfl rfl (by rw [hJ1]; rfl) (by decide)
  obtain ⟨J2, hJ2⟩ : ∃ J2 : ByteArray, J2 = ⟨(jHead1 ++ M).toArray⟩ := ⟨_, rfl⟩
  have hc3 := cat_run Tryz.prog jHead1 M J1 J J2 hJ1 hJ hJ2 (by simp only [jHead1, List.length_append, List.length_cons, List.length_nil]; omega)
  obtain ⟨J3, hJ3⟩ : ∃ J3 : ByteArray, J3 = ⟨(jHead1 ++ M ++ [125]).toArray⟩ := ⟨_, rfl⟩
  have hc4 := cat_run Tryz.prog (jHead1 ++ M) [125] J2 ⟨#[125]⟩ J3 hJ2 rfl hJ3 (by simp only [jHead1, List.length_append, List.length_cons, List.length_nil]; omega)
  have hcv := fun w => Lib.run_convert_string_bytes (P := Tryz.prog) w 9 33 5 J3 Tryz.underlying9 Tryz.underlying33 Tryz.underlying5
  have HBV := Lib.hid (fun w => BVal.of_conv w 5 (jHead1 ++ M ++ [125]) J3 hJ3)
  clear hJ hJ1 hJ2 hJ3 hj hM
  go_enter Tryz.func19, Tryz.ntmps19
  go_wp2_with (fail)
  have x0 : (W.alloc (.cells #[.int .i64 1, .int .i64 d, .slice p n cap, .slice q m c2] 25)).cell? ⟨W.heap.size, 0, none⟩ = some (.int .i64 1) := by simp
  have x1 : (W.alloc (.cells #[.int .i64 1, .int .i64 d, .slice p n cap, .slice q m c2] 25)).cell? ⟨W.heap.size, 1, none⟩ = some (.int .i64 d) := by simp
  have x2 : (W.alloc (.cells #[.int .i64 1, .int .i64 d, .slice p n cap, .slice q m c2] 25)).cell? ⟨W.heap.size, 2, none⟩ = some (.slice p n cap) := by simp
  have x3 : (W.alloc (.cells #[.int .i64 1, .int .i64 d, .slice p n cap, .slice q m c2] 25)).cell? ⟨W.heap.size, 3, none⟩ = some (.slice q m c2) := by simp
  revert HB x0 x1 x2 x3
  generalize W.alloc (.cells #[.int .i64 1, .int .i64 d, .slice p n cap, .slice q m c2] 25) = W1
  intro HB x0 x1 x2 x3
  have HB2 := Lib.hid (gt_trans HB.out (gt_drew_r (gt_refl W1 none)) (.inl rfl))
  go_region_with (first
      | (go_at_call 50; refine (jName1 _).mono ?_; rintro e w' ⟨rfl, rfl⟩)
      | (go_at_call 51; refine (HJB.out _ HB2.out).mono ?_; rintro e w' ⟨rfl, hg⟩))
  all_goals
   go_wp2_with fail
   go_returns
   obtain ⟨hg2, hv⟩ := HBV.out w'
   exact ⟨_, rfl, hv, gt_trans HB2.out (gt_trans hg hg2 (.inl rfl)) (.inl rfl)⟩

set_option maxRecDepth 100000 in
theorem jName2 (w : World) : Calls Tryz.prog 50 #[.int .i64 2] w fun e w' => e = .returned (.string ⟨#[76, 105, 110, 101, 83, 116, 114, 105, 110, 103]⟩) ∧ w' = w := by
  go_enter Tryz.func50, Tryz.ntmps50
  go_wp2_with fail
  go_ret
  exact ⟨rfl, rfl⟩
set_option maxRecDepth 100000 in
set_option maxHeartbeats 2000000 in
theorem specJSON2 (W : World) (d : Int) (p q : Option Addr) (n cap m c2 : Nat) (M : List UInt8) (hM : M.length ≤ 24200000)
    (hj : ∀ w, W.grownBy w none → Calls Tryz.prog 51 #[.agg #[.int .i64 2, .int .i64 d, .slice p n cap, .slice q m c2]] w fun e w' => e = .returned (.string ⟨M.toArray⟩) ∧ w.grownBy w' none) :
    Calls Tryz.prog 19 #[.agg #[.int .i64 2, .int .i64 d, .slice p n cap, .slice q m c2]] W fun e w' => ∃ v, e = .returned (.tuple #[v, .bool true]) ∧ BVal w' v (jHead2 ++ M ++ [125]) ∧ W.grownBy w' none := by
  have HB := Lib.hid (World.grownBy_alloc W (.cells #[.int .i64 2, .int .i64 d, .slice p n cap, .slice q m c2] 25) none)
  have HJB := Lib.hid hj
  obtain ⟨J, hJ⟩ : ∃ J : ByteArray, J = ⟨M.toArray⟩ := ⟨_, rfl⟩
  rw [← hJ] at HJB
  have hc1 := cat_run Tryz.prog [123, 34, 116, 121, 112, 101, 34, 58, 34] [76, 105, 110, 101, 83, 116, 114, 105, 110, 103] ⟨#[123, 34, 116, 121, 112, 101, 34, 58, 34]⟩ ⟨#[76, 105, 110, 101, 83, 116, 114, 105, 110, 103]⟩ ⟨#[123, 34, 116, 121, 112, 101, 34, 58, 34, 76, 105, 110, 101, 83, 116, 114, 105, 110, 103]⟩ rfl rfl rfl (by decide)
  obtain ⟨J1, hJ1⟩ : ∃ J1 : ByteArray, J1 = ⟨jHead2.toArray⟩ := ⟨_, rfl⟩
  have hc2 := cat_run Tryz.prog [123, 34, 116, 121, 112, 101, 34, 58, 34, 76, 105, 110, 101, 83, 116, 114, 105, 110, 103] [34, 44, 34, 99, 111, 111, 114, 100, 105, 110, 97, 116, 101, 115, 34, 58] ⟨#[123, 34, 116, 121, 112, 101, 34, 58, 34, 76, 105, 110, 101, 83, 116, 114, 105, 110, 103]⟩ ⟨#[34, 44, 34, 99, 111, 111, 114, 100, 105, 110, 97, 116, 101, 115, 34, 58]⟩ J1 rfl rfl (by rw [hJ1]; rfl) (by decide)
  obtain ⟨J2, hJ2⟩ : ∃ J2 : ByteArray, J2 = ⟨(jHead2 ++ M).toArray⟩ := ⟨_, rfl⟩
  have hc3 := cat_run Tryz.prog jHead2 M J1 J J2 hJ1 hJ hJ2 (by simp only [jHead2, List.length_append, List.length_cons, List.length_nil]; omega)
  obtain ⟨J3, hJ3⟩ : ∃ J3 : ByteArray, J3 = ⟨(jHead2 ++ M ++ [125]).toArray⟩ := ⟨_, rfl⟩
  have hc4 := cat_run Tryz.prog (jHead2 ++ M) [125] J2 ⟨#[125]⟩ J3 hJ2 rfl hJ3 (by simp only [jHead2, List.length_append, List.length_cons, List.length_nil]; omega)
  have hcv := fun w => Lib.run_convert_string_bytes (P := Tryz.prog) w 9 33 5 J3 Tryz.underlying9 Tryz.underlying33 Tryz.underlying5
  have HBV := Lib.hid (fun w => BVal.of_conv w 5 (jHead2 ++ M ++ [125]) J3 hJ3)
  clear hJ hJ1 hJ2 hJ3 hj hM
  go_enter Tryz.func19, Tryz.ntmps19
  go_wp2_with (fail)
  have x0 : (W.alloc (.cells #[.int .i64 2, .int .i64 d, .slice p n cap, .slice q m c2] 25)).cell? ⟨W.heap.size, 0, none⟩ = some (.int .i64 2) := by simp
  have x1 : (W.alloc (.cells #[.int .i64 2, .int .i64 d, .slice p n cap, .slice q m c2] 25)).cell? ⟨W.heap.size, 1, none⟩ = some (.int .i64 d) := by simp
  have x2 : (W.alloc (.cells #[.int .i64 2, .int .i64 d, .slice p n cap, .slice q m c2] 25)).cell? ⟨W.heap.size, 2, none⟩ = some (.slice p n cap) := by simp
  have x3 : (W.alloc (.cells #[.int .i64 2, .int .i64 d, .slice p n cap, .slice q m c2] 25)).cell? ⟨W.heap.size, 3, none⟩ = some (.slice q m c2) := by simp
  revert HB x0 x1 x2 x3
  generalize W.alloc (.cells #[.int .i64 2, .int .i64 d, .slice p n cap, .slice q m c2] 25) = W1
  intro HB x0 x1 x2 x3
  have HB2 := Lib.hid (gt_trans HB.out (gt_drew_r (gt_refl W1 none)) (.inl rfl))
  go_region_with (first
      | (go_at_call 50; refine (jName2 _).mono ?_; rintro e w' ⟨rfl, rfl⟩)
      | (go_at_call 51; refine (HJB.out _ HB2.out).mono ?_; rintro e w' ⟨rfl, hg⟩))
  all_goals
   go_wp2_with fail
   go_returns
   obtain ⟨hg2, hv⟩ := HBV.out w'
   exact ⟨_, rfl, hv, gt_trans HB2.out (gt_trans hg hg2 (.inl rfl)) (.inl rfl)⟩

set_option maxRecDepth 100000 in
theorem jName3 (w : World) : Calls Tryz.prog 50 #[.int .i64 3] w fun e w' => e = .returned (.string ⟨#[80, 111, 108, 121, 103, 111, 110]⟩) ∧ w' = w := by
  go_enter Tryz.func50, Tryz.ntmps50
  go_wp2_with fail
  go_ret
  exact ⟨rfl, rfl⟩
set_option maxRecDepth 100000 in
set_option maxHeartbeats 2000000 in
theorem specJSON3 (W : World) (d : Int) (p q : Option Addr) (n cap m c2 : Nat) (M : List UInt8) (hM : M.length ≤ 24200000)
    (hj : ∀ w, W.grownBy w none → Calls Tryz.prog 51 #[.agg #[.int .i64 3, .int .i64 d, .slice p n cap, .slice q m c2]] w fun e w' => e = .returned (.string ⟨M.toArray⟩) ∧ w.grownBy w' none) :
    Calls Tryz.prog 19 #[.agg #[.int .i64 3, .int .i64 d, .slice p n cap, .slice q m c2]] W fun e w' => ∃ v, e = .returned (.tuple #[v, .bool true]) ∧ BVal w' v (jHead3 ++ M ++ [125]) ∧ W.grownBy w' none := by
  have HB := Lib.hid (World.grownBy_alloc W (.cells #[.int .i64 3, .int .i64 d, .slice p n cap, .slice q m c2] 25) none)
  have HJB := Lib.hid hj
  obtain ⟨J, hJ⟩ : ∃ J : ByteArray, J = ⟨M.toArray⟩ := ⟨_, rfl⟩
  rw [← hJ] at HJB
  have hc1 := cat_run Tryz.prog [123, 34, 116, 121, 112, 101, 34, 58, 34] [80, 111, 108, 121, 103, 111, 110] ⟨#[123, 34, 116, 121, 112, 101, 34, 58, 34]⟩ ⟨#[80, 111, 108, 121, 103, 111, 110]⟩ ⟨#[123, 34, 116, 121, 112, 101, 34, 58, 34, 80, 111, 108, 121, 103, 111, 110]⟩ rfl rfl rfl (by decide)
  obtain ⟨J1, hJ1⟩ : ∃ J1 : ByteArray, J1 = ⟨jHead3.toArray⟩ := ⟨_, rfl⟩
  have hc2 := cat_run Tryz.prog [123, 34, 116, 121, 112, 101, 34, 58, 34, 80, 111, 108, 121, 103, 111, 110] [34, 44, 34, 99, 111, 111, 114, 100, 105, 110, 97, 116, 101, 115, 34, 58] ⟨#[123, 34, 116, 121, 112, 101, 34, 58, 34, 80, 111, 108, 121, 103, 111, 110]⟩ ⟨#[34, 44, 34, 99, 111, 111, 114, 100, 105, 110, 97, 116, 101, 115, 34, 58]⟩ J1 rfl rfl (by rw [hJ1]; rfl) (by decide)
  obtain ⟨J2, hJ2⟩ : ∃ J2 : ByteArray, J2 = ⟨(jHead3 ++ M).toArray⟩ := ⟨_, rfl⟩
  have hc3 := cat_run Tryz.prog jHead3 M J1 J J2 hJ1 hJ hJ2 (by simp only [jHead3, List.length_append, List.length_cons, List.length_nil]; omega)
  obtain ⟨J3, hJ3⟩ : ∃ J3 : ByteArray, J3 = ⟨(jHead3 ++ M ++ [125]).toArray⟩ := ⟨_, rfl⟩
  have hc4 := cat_run Tryz.prog (jHead3 ++ M) [125] J2 ⟨#[125]⟩ J3 hJ2 rfl hJ3 (by simp only [jHead3, List.length_append, List.length_cons, List.length_nil]; omega)
  have hcv := fun w => Lib.run_convert_string_bytes (P := Tryz.prog) w 9 33 5 J3 Tryz.underlying9 Tryz.underlying33 Tryz.underlying5
  have HBV := Lib.hid (fun w => BVal.of_conv w 5 (jHead3 ++ M ++ [125]) J3 hJ3)
  clear hJ hJ1 hJ2 hJ3 hj hM
  go_enter Tryz.func19, Tryz.ntmps19
  go_wp2_with (fail)
  have x0 : (W.alloc (.cells #[.int .i64 3, .int .i64 d, .slice p n cap, .slice q m c2] 25)).cell? ⟨W.heap.size, 0, none⟩ = some (.int .i64 3) := by simp
  have x1 : (W.alloc (.cells #[.int .i64 3, .int .i64 d, .slice p n cap, .slice q m c2] 25)).cell? ⟨W.heap.size, 1, none⟩ = some (.int .i64 d) := by simp
  have x2 : (W.alloc (.cells #[.int .i64 3, .int .i64 d, .slice p n cap, .slice q m c2] 25)).cell? ⟨W.heap.size, 2, none⟩ = some (.slice p n cap) := by simp
  have x3 : (W.alloc (.cells #[.int .i64 3, .int .i64 d, .slice p n cap, .slice q m c2] 25)).cell? ⟨W.heap.size, 3, none⟩ = some (.slice q m c2) := by simp
  revert HB x0 x1 x2 x3
  generalize W.alloc (.cells #[.int .i64 3, .int .i64 d, .slice p n cap, .slice q m c2] 25) = W1
  intro HB x0 x1 x2 x3
  have HB2 := Lib.hid (gt_trans HB.out (gt_drew_r (gt_refl W1 none)) (.inl rfl))
  go_region_with (first
      | (go_at_call 50; refine (jName3 _).mono ?_; rintro e w' ⟨rfl, rfl⟩)
      | (go_at_call 51; refine (HJB.out _ HB2.out).mono ?_; rintro e w' ⟨rfl, hg⟩))
  all_goals
   go_wp2_with fail
   go_returns
   obtain ⟨hg2, hv⟩ := HBV.out w'
   exact ⟨_, rfl, hv, gt_trans HB2.out (gt_trans hg hg2 (.inl rfl)) (.inl rfl)⟩

set_option maxRecDepth 100000 in
theorem jName4 (w : World) : Calls Tryz.prog 50 #[.int .i64 4] w fun e w' => e = .returned (.string ⟨#[77, 117, 108, 116, 105, 80, 111, 105, 110, 116]⟩) ∧ w' = w := by
  go_enter Tryz.func50, Tryz.ntmps50
  go_wp2_with fail
  go_ret
  exact ⟨rfl, rfl⟩
set_option maxRecDepth 100000 in
set_option maxHeartbeats 2000000 in
theorem specJSON4 (W : World) (d : Int) (p q : Option Addr) (n cap m c2 : Nat) (M : List UInt8) (hM : M.length ≤ 24200000)
    (hj : ∀ w, W.grownBy w none → Calls Tryz.prog 51 #[.agg #[.int .i64 4, .int .i64 d, .slice p n cap, .slice q m c2]] w fun e w' => e = .returned (.string ⟨M.toArray⟩) ∧ w.grownBy w' none) :
    Calls Tryz.prog 19 #[.agg #[.int .i64 4, .int .i64 d, .slice p n cap, .slice q m c2]] W fun e w' => ∃ v, e = .returned (.tuple #[v, .bool true]) ∧ BVal w' v (jHead4 ++ M ++ [125]) ∧ W.grownBy w' none := by
  have HB := Lib.hid (World.grownBy_alloc W (.cells #[.int .i64 4, .int .i64 d, .slice p n cap, .slice q m c2] 25) none)
  have HJB := Lib.hid hj
  obtain ⟨J, hJ⟩ : ∃ J : ByteArray, J = ⟨M.toArray⟩ := ⟨_, rfl⟩
  rw [← hJ] at HJB
  have hc1 := cat_run Tryz.prog [123, 34, 116, 121, 112, 101, 34, 58, 34] [77, 117, 108, 116, 105, 80, 111, 105, 110, 116] ⟨#[123, 34, 116, 121, 112, 101, 34, 58, 34]⟩ ⟨#[77, 117, 108, 116, 105, 80, 111, 105, 110, 116]⟩ ⟨#[123, 34, 116, 121, 112, 101, 34, 58, 34, 77, 117, 108, 116, 105, 80, 111, 105, 110, 116]⟩ rfl rfl rfl (by decide)
  obtain ⟨J1, hJ1⟩ : ∃ J1 : ByteArray, J1 = ⟨jHead4.toArray⟩ := ⟨_, rfl⟩
  have hc2 := cat_run Tryz.prog [123, 34, 116, 121, 112, 101, 34, 58, 34, 77, 117, 108, 116, 105, 80, 111, 105, 110, 116] [34, 44, 34, 99, 111, 111, 114, 100, 105, 110, 97, 116, 101, 115, 34, 58] ⟨#[123, 34, 116, 121, 112, 101, 34, 58, 34, 77, 117, 108, 116, 105, 80, 111, 105, 110, 116]⟩ ⟨#[34, 44, 34, 99, 111, 111, 114, 100, 105, 110, 97, 116, 101, 115, 34, 58]⟩ J1 rfl rfl (by rw [hJ1]; rfl) (by decide)
  obtain ⟨J2, hJ2⟩ : ∃ J2 : ByteArray, J2 = ⟨(jHead4 ++ M).toArray⟩ := ⟨_, rfl⟩
  have hc3 := cat_run Tryz.prog jHead4 M J1 J J2 hJ1 hJ hJ2 (by simp only [jHead4, List.length_append, List.length_cons, List.length_nil]; omega)
  obtain ⟨J3, hJ3⟩ : ∃ J3 : ByteArray, J3 = ⟨(jHead4 ++ M ++ [125]).toArray⟩ := ⟨_, rfl⟩
  have hc4 := cat_run Tryz.prog (jHead4 ++ M) [125] J2 ⟨#[125]⟩ J3 hJ2 rfl hJ3 (by simp only [jHead4, List.length_append, List.length_cons, List.length_nil]; omega)
  have hcv := fun w => Lib.run_convert_string_bytes (P := Tryz.prog) w 9 33 5 J3 Tryz.underlying9 Tryz.underlying33 Tryz.underlying5
  have HBV := Lib.hid (fun w => BVal.of_conv w 5 (jHead4 ++ M ++ [125]) J3 hJ3)
  clear hJ hJ1 hJ2 hJ3 hj hM
  go_enter Tryz.func19, Tryz.ntmps19
  go_wp2_with (fail)
  have x0 : (W.alloc (.cells #[.int .i64 4, .int .i64 d, .slice p n cap, .slice q m c2] 25)).cell? ⟨W.heap.size, 0, none⟩ = some (.int .i64 4) := by simp
  have x1 : (W.alloc (.cells #[.int .i64 4, .int .i64 d, .slice p n cap, .slice q m c2] 25)).cell? ⟨W.heap.size, 1, none⟩ = some (.int .i64 d) := by simp
  have x2 : (W.alloc (.cells #[.int .i64 4, .int .i64 d, .slice p n cap, .slice q m c2] 25)).cell? ⟨W.heap.size, 2, none⟩ = some (.slice p n cap) := by simp
  have x3 : (W.alloc (.cells #[.int .i64 4, .int .i64 d, .slice p n cap, .slice q m c2] 25)).cell? ⟨W.heap.size, 3, none⟩ = some (.slice q m c2) := by simp
  revert HB x0 x1 x2 x3
  generalize W.alloc (.cells #[.int .i64 4, .int .i64 d, .slice p n cap, .slice q m c2] 25) = W1
  intro HB x0 x1 x2 x3
  have HB2 := Lib.hid (gt_trans HB.out (gt_drew_r (gt_refl W1 none)) (.inl rfl))
  go_region_with (first
      | (go_at_call 50; refine (jName4 _).mono ?_; rintro e w' ⟨rfl, rfl⟩)
      | (go_at_call 51; refine (HJB.out _ HB2.out).mono ?_; rintro e w' ⟨rfl, hg⟩))
  all_goals
   go_wp2_with fail
   go_returns
   obtain ⟨hg2, hv⟩ := HBV.out w'
   exact ⟨_, rfl, hv, gt_trans HB2.out (gt_trans hg hg2 (.inl rfl)) (.inl rfl)⟩

set_option maxRecDepth 100000 in
theorem jName5 (w : World) : Calls Tryz.prog 50 #[.int .i64 5] w fun e w' => e = .returned (.string ⟨#[77, 117, 108, 116, 105, 76, 105, 110, 101, 83, 116, 114, 105, 110, 103]⟩) ∧ w' = w := by
  go_enter Tryz.func50, Tryz.ntmps50
  go_wp2_with fail
  go_ret
  exact ⟨rfl, rfl⟩
set_option maxRecDepth 100000 in
set_option maxHeartbeats 2000000 in
theorem specJSON5 (W : World) (d : Int) (p q : Option Addr) (n cap m c2 : Nat) (M : List UInt8) (hM : M.length ≤ 24200000)
    (hj : ∀ w, W.grownBy w none → Calls Tryz.prog 51 #[.agg #[.int .i64 5, .int .i64 d, .slice p n cap, .slice q m c2]] w fun e w' => e = .returned (.string ⟨M.toArray⟩) ∧ w.grownBy w' none) :
    Calls Tryz.prog 19 #[.agg #[.int .i64 5, .int .i64 d, .slice p n cap, .slice q m c2]] W fun e w' => ∃ v, e = .returned (.tuple #[v, .bool true]) ∧ BVal w' v (jHead5 ++ M ++ [125]) ∧ W.grownBy w' none := by
  have HB := Lib.hid (World.grownBy_alloc W (.cells #[.int .i64 5, .int .i64 d, .slice p n cap, .slice q m c2] 25) none)
  have HJB := Lib.hid hj
  obtain ⟨J, hJ⟩ : ∃ J : ByteArray, J = ⟨M.toArray⟩ := ⟨_, rfl⟩
  rw [← hJ] at HJB
  have hc1 := cat_run Tryz.prog [123, 34, 116, 121, 112, 101, 34, 58, 34] [77, 117, 108, 116, 105, 76, 105, 110, 101, 83, 116, 114, 105, 110, 103] ⟨#[123, 34, 116, 121, 112, 101, 34, 58, 34]⟩ ⟨#[77, 117, 108, 116, 105, 76, 105, 110, 101, 83, 116, 114, 105, 110, 103]⟩ ⟨#[123, 34, 116, 121, 112, 101, 34, 58, 34, 77, 117, 108, 116, 105, 76, 105, 110, 101, 83, 116, 114, 105, 110, 103]⟩ rfl rfl rfl (by decide)
  obtain ⟨J1, hJ1⟩ : ∃ J1 : ByteArray, J1 = ⟨jHead5.toArray⟩ := ⟨_, rfl⟩
  have hc2 := cat_run Tryz.prog [123, 34, 116, 121, 112, 101, 34, 58, 34, 77, 117, 108, 116, 105, 76, 105, 110, 101, 83, 116, 114, 105, 110, 103] [34, 44, 34, 99, 111, 111, 114, 100, 105, 110, 97, 116, 101, 115, 34, 58] ⟨#[123, 34, 116, 121, 112, 101, 34, 58, 34, 77, 117, 108, 116, 105, 76, 105, 110, 101, 83, 116, 114, 105, 110, 103]⟩ ⟨#[34, 44, 34, 99, 111, 111, 114, 100, 105, 110, 97, 116, 101, 115, 34, 58]⟩ J1 rfl rfl (by rw [hJ1]; rfl) (by decide)
  obtain ⟨J2, hJ2⟩ : ∃ J2 : ByteArray, J2 = ⟨(jHead5 ++ M).toArray⟩ := ⟨_, rfl⟩
  have hc3 := cat_run Tryz.prog jHead5 M J1 J J2 hJ1 hJ hJ2 (by simp only [jHead5, List.length_append, List.length_cons, List.length_nil]; omega)
  obtain ⟨J3, hJ3⟩ : ∃ J3 : ByteArray, J3 = ⟨(jHead5 ++ M ++ [125]).toArray⟩ := ⟨_, rfl⟩
  have hc4 := cat_run Tryz.prog (jHead5 ++ M) [125] J2 ⟨#[125]⟩ J3 hJ2 rfl hJ3 (by simp only [jHead5, List.length_append, List.length_cons, List.length_nil]; omega)
  have hcv := fun w => Lib.run_convert_string_bytes (P := Tryz.prog) w 9 33 5 J3 Tryz.underlying9 Tryz.underlying33 Tryz.underlying5
  have HBV := Lib.hid (fun w => BVal.of_conv w 5 (jHead5 ++ M ++ [125]) J3 hJ3)
  clear hJ hJ1 hJ2 hJ3 hj hM
  go_enter Tryz.func19, Tryz.ntmps19
  go_wp2_with (fail)
  have x0 : (W.alloc (.cells #[.int .i64 5, .int .i64 d, .slice p n cap, .slice q m c2] 25)).cell? ⟨W.heap.size, 0, none⟩ = some (.int .i64 5) := by simp
  have x1 : (W.alloc (.cells #[.int .i64 5, .int .i64 d, .slice p n cap, .slice q m c2] 25)).cell? ⟨W.heap.size, 1, none⟩ = some (.int .i64 d) := by simp
  have x2 : (W.alloc (.cells #[.int .i64 5, .int .i64 d, .slice p n cap, .slice q m c2] 25)).cell? ⟨W.heap.size, 2, none⟩ = some (.slice p n cap) := by simp
  have x3 : (W.alloc (.cells #[.int .i64 5, .int .i64 d, .slice p n cap, .slice q m c2] 25)).cell? ⟨W.heap.size, 3, none⟩ = some (.slice q m c2) := by simp
  revert HB x0 x1 x2 x3
  generalize W.alloc (.cells #[.int .i64 5, .int .i64 d, .slice p n cap, .slice q m c2] 25) = W1
  intro HB x0 x1 x2 x3
  have HB2 := Lib.hid (gt_trans HB.out (gt_drew_r (gt_refl W1 none)) (.inl rfl))
  go_region_with (first
      | (go_at_call 50; refine (jName5 _).mono ?_; rintro e w' ⟨rfl, rfl⟩)
      | (go_at_call 51; refine (HJB.out _ HB2.out).mono ?_; rintro e w' ⟨rfl, hg⟩))
  all_goals
   go_wp2_with fail
   go_returns
   obtain ⟨hg2, hv⟩ := HBV.out w'
   exact ⟨_, rfl, hv, gt_trans HB2.out (gt_trans hg hg2 (.inl rfl)) (.inl rfl)⟩

set_option maxRecDepth 100000 in
theorem jName6 (w : World) : Calls Tryz.prog 50 #[.int .i64 6] w fun e w' => e = .returned (.string ⟨#[77, 117, 108, 116, 105, 80, 111, 108, 121, 103, 111, 110]⟩) ∧ w' = w := by
  go_enter Tryz.func50, Tryz.ntmps50
  go_wp2_with fail
  go_ret
  exact ⟨rfl, rfl⟩
set_option maxRecDepth 100000 in
set_option maxHeartbeats 2000000 in
theorem specJSON6 (W : World) (d : Int) (p q : Option Addr) (n cap m c2 : Nat) (M : List UInt8) (hM : M.length ≤ 24200000)
    (hj : ∀ w, W.grownBy w none → Calls Tryz.prog 51 #[.agg #[.int .i64 6, .int .i64 d, .slice p n cap, .slice q m c2]] w fun e w' => e = .returned (.string ⟨M.toArray⟩) ∧ w.grownBy w' none) :
    Calls Tryz.prog 19 #[.agg #[.int .i64 6, .int .i64 d, .slice p n cap, .slice q m c2]] W fun e w' => ∃ v, e = .returned (.tuple #[v, .bool true]) ∧ BVal w' v (jHead6 ++ M ++ [125]) ∧ W.grownBy w' none := by
  have HB := Lib.hid (World.grownBy_alloc W (.cells #[.int .i64 6, .int .i64 d, .slice p n cap, .slice q m c2] 25) none)
  have HJB := Lib.hid hj
  obtain ⟨J, hJ⟩ : ∃ J : ByteArray, J = ⟨M.toArray⟩ := ⟨_, rfl⟩
  rw [← hJ] at HJB
  have hc1 := cat_run Tryz.prog [123, 34, 116, 121, 112, 101, 34, 58, 34] [77, 117, 108, 116, 105, 80, 111, 108, 121, 103, 111, 110] ⟨#[123, 34, 116, 121, 112, 101, 34, 58, 34]⟩ ⟨#[77, 117, 108, 116, 105, 80, 111, 108, 121, 103, 111, 110]⟩ ⟨#[123, 34, 116, 121, 112, 101, 34, 58, 34, 77, 117, 108, 116, 105, 80, 111, 108, 121, 103, 111, 110]⟩ rfl rfl rfl (by decide)
  obtain ⟨J1, hJ1⟩ : ∃ J1 : ByteArray, J1 = ⟨jHead6.toArray⟩ := ⟨_, rfl⟩
  have hc2 := cat_run Tryz.prog [123, 34, 116, 121, 112, 101, 34, 58, 34, 77, 117, 108, 116, 105, 80, 111, 108, 121, 103, 111, 110] [34, 44, 34, 99, 111, 111, 114, 100, 105, 110, 97, 116, 101, 115, 34, 58] ⟨#[123, 34, 116, 121, 112, 101, 34, 58, 34, 77, 117, 108, 116, 105, 80, 111, 108, 121, 103, 111, 110]⟩ ⟨#[34, 44, 34, 99, 111, 111, 114, 100, 105, 110, 97, 116, 101, 115, 34, 58]⟩ J1 rfl rfl (by rw [hJ1]; rfl) (by decide)
  obtain ⟨J2, hJ2⟩ : ∃ J2 : ByteArray, J2 = ⟨(jHead6 ++ M).toArray⟩ := ⟨_, rfl⟩
  have hc3 := cat_run Tryz.prog jHead6 M J1 J J2 hJ1 hJ hJ2 (by simp only [jHead6, List.length_append, List.length_cons, List.length_nil]; omega)
  obtain ⟨J3, hJ3⟩ : ∃ J3 : ByteArray, J3 = ⟨(jHead6 ++ M ++ [125]).toArray⟩ := ⟨_, rfl⟩
  have hc4 := cat_run Tryz.prog (jHead6 ++ M) [125] J2 ⟨#[125]⟩ J3 hJ2 rfl hJ3 (by simp only [jHead6, List.length_append, List.length_cons, List.length_nil]; omega)
  have hcv := fun w => Lib.run_convert_string_bytes (P := Tryz.prog) w 9 33 5 J3 Tryz.underlying9 Tryz.underlying33 Tryz.underlying5
  have HBV := Lib.hid (fun w => BVal.of_conv w 5 (jHead6 ++ M ++ [125]) J3 hJ3)
  clear hJ hJ1 hJ2 hJ3 hj hM
  go_enter Tryz.func19, Tryz.ntmps19
  go_wp2_with (fail)
  have x0 : (W.alloc (.cells #[.int .i64 6, .int .i64 d, .slice p n cap, .slice q m c2] 25)).cell? ⟨W.heap.size, 0, none⟩ = some (.int .i64 6) := by simp
  have x1 : (W.alloc (.cells #[.int .i64 6, .int .i64 d, .slice p n cap, .slice q m c2] 25)).cell? ⟨W.heap.size, 1, none⟩ = some (.int .i64 d) := by simp
  have x2 : (W.alloc (.cells #[.int .i64 6, .int .i64 d, .slice p n cap, .slice q m c2] 25)).cell? ⟨W.heap.size, 2, none⟩ = some (.slice p n cap) := by simp
  have x3 : (W.alloc (.cells #[.int .i64 6, .int .i64 d, .slice p n cap, .slice q m c2] 25)).cell? ⟨W.heap.size, 3, none⟩ = some (.slice q m c2) := by simp
  revert HB x0 x1 x2 x3
  generalize W.alloc (.cells #[.int .i64 6, .int .i64 d, .slice p n cap, .slice q m c2] 25) = W1
  intro HB x0 x1 x2 x3
  have HB2 := Lib.hid (gt_trans HB.out (gt_drew_r (gt_refl W1 none)) (.inl rfl))
  go_region_with (first
      | (go_at_call 50; refine (jName6 _).mono ?_; rintro e w' ⟨rfl, rfl⟩)
      | (go_at_call 51; refine (HJB.out _ HB2.out).mono ?_; rintro e w' ⟨rfl, hg⟩))
  all_goals
   go_wp2_with fail
   go_returns
   obtain ⟨hg2, hv⟩ := HBV.out w'
   exact ⟨_, rfl, hv, gt_trans HB2.out (gt_trans hg hg2 (.inl rfl)) (.inl rfl)⟩

set_option maxRecDepth 100000 in
set_option maxHeartbeats 1000000 in
theorem specJSON0 (W : World) (d : Int) (p q : Option Addr) (n cap m c2 : Nat) :
    Calls Tryz.prog 19 #[.agg #[.int .i64 0, .int .i64 d, .slice p n cap, .slice q m c2]] W fun e w' => e = .returned (.tuple #[.slice none 0 0, .bool false]) ∧ W.grownBy w' none := by
  go_enter Tryz.func19, Tryz.ntmps19
  go_wp2_with fail
  go_returns
  exact ⟨rfl, World.grownBy_alloc _ _ _⟩
end Go.Proofs.YthcjnadceambgaaGreatDoor
