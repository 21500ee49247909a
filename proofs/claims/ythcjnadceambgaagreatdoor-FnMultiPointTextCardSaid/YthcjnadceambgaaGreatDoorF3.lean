/- The reference's text of a geometry, walked. -/
import Derived.Test.YthcjnadceambgaaGreatDoorF2
namespace Go.Proofs.YthcjnadceambgaaGreatDoor
open Go.RowKit

def sL (ps : List (List UInt8)) : List Value := ps.map fun s => .string ⟨s.toArray⟩
theorem sL_snoc (ps : List (List UInt8)) (p : List UInt8) : sL (ps ++ [p]) = sL ps ++ [.string ⟨p.toArray⟩] := by simp [sL]
theorem AppV.srowL {e base : Nat} {w0 w : World} {v0 : Value} {p : Option Addr} {n c : Nat} {ps : List (List UInt8)} (hn : n = ps.length) (h : AppV e 1 base w0 v0 w (.slice p n c) n (sL ps)) : SRow w p n (fun i => ps.getD i []) := by
  obtain ⟨h1, h2⟩ := own_at h.own
  refine ⟨h1, fun a ha i hi => h2 a ha i _ ?_⟩
  have hi' : i < ps.length := by omega
  simp [sL, hi', List.getD_eq_getElem?_getD]

def TextOk (T : Nat → Int) (h : Nat) : Prop := ∀ (B : Nat → Prop) (W : World) (v : Value) (t : Raw), KD B h W v t → dimsOk t → pl t ≤ 2000 → Tabs T W →
  Calls Tryz.prog 11 #[v] W fun e w' => e = .returned (.string ⟨(textT T t).toArray⟩) ∧ W.grownBy w' none
def BodyOk (T : Nat → Int) (h : Nat) : Prop := ∀ (B : Nat → Prop) (W : World) (v : Value) (t : Raw), KD B h W v t → dimsOk t → pl t ≤ 2000 → Tabs T W →
  Calls Tryz.prog 28 #[v] W fun e w' => e = .returned (.string ⟨(bodyT T t).toArray⟩) ∧ W.grownBy w' none

set_option maxRecDepth 100000 in
set_option maxHeartbeats 2000000 in
theorem text_of_body (T : Nat → Int) (h : Nat) (hb : BodyOk T h) : TextOk T h := by
  intro B W v t hk hd hp ht
  have HBd := Lib.hid (fun w (g : W.grownBy w none) => hb B w v t (hk.mono g) hd hp (ht.mono g (by simp) (by simp)))
  obtain ⟨k, d, n, f, kids, p, cap, q, c2, rfl, rfl⟩ := hk.form
  obtain ⟨hd0, hd4, _⟩ := hd
  obtain ⟨r, rfl⟩ := Int.eq_ofNat_of_zero_le hd0
  have hr : r < 4 := by omega
  have hbl := bodyT_len T (.mk k r n f kids)
  have hnl := nameT_len k
  obtain ⟨ps, hps⟩ : ∃ ps, ps = plTs T r f (n / widN r) ++ bodyTs T (decide (k = 0)) kids := ⟨_, rfl⟩
  have ebody : bodyT T (.mk k r n f kids) = wrapP ps := by rw [hps]; unfold bodyT; simp only [Int.toNat_natCast]
  have etext : textT T (.mk k r n f kids) = nameT k ++ (if r = 0 then (if ps = [] then [32] else []) else tag r) ++ wrapP ps := by rw [hps]; unfold textT; simp only [Int.toNat_natCast]
  rw [ebody] at HBd hbl
  rw [etext]
  have hlen : (wrapP ps).length ≤ 33000000 := by omega
  have HKN := Lib.hid (fun w => kindName_any k w)
  have HDN := Lib.hid (fun w => dimName_any r hr w)
  have HG := Lib.hid (World.grownBy_alloc W (.cells #[.int .i64 k, .int .i64 r, .slice p n cap, .slice q kids.length c2] 25) none)
  have HB : Hid (∀ W', (W.alloc (.cells #[.int .i64 k, .int .i64 r, .slice p n cap, .slice q kids.length c2] 25)).grownBy W' none → W'.cell? ⟨W.heap.size, 1, none⟩ = some (.int .i64 r)) := fun W' g => g.cell (by simp) (by simp)
  obtain ⟨Nm, hNm⟩ : ∃ Nm : ByteArray, Nm = ⟨(nameT k).toArray⟩ := ⟨_, rfl⟩
  obtain ⟨Bd, hBd⟩ : ∃ Bd : ByteArray, Bd = ⟨(wrapP ps).toArray⟩ := ⟨_, rfl⟩
  rw [← hNm] at HKN
  rw [← hBd] at HBd
  by_cases hr0 : r = 0
  · subst hr0
    by_cases hpe : ps = []
    · have ew : wrapP ps = EMPTY := (wrapP_empty ps).2 hpe
      have eB : Bd = ⟨#[69, 77, 80, 84, 89]⟩ := by rw [hBd, ew]; rfl
      obtain ⟨N1, hN1⟩ : ∃ N1 : ByteArray, N1 = ⟨(nameT k ++ [32]).toArray⟩ := ⟨_, rfl⟩
      obtain ⟨N2, hN2⟩ : ∃ N2 : ByteArray, N2 = ⟨(nameT k ++ [32] ++ EMPTY).toArray⟩ := ⟨_, rfl⟩
      have c1 := cat_run Tryz.prog (nameT k) [32] Nm ⟨#[32]⟩ N1 hNm rfl hN1 (by simp only [List.length_cons, List.length_nil]; omega)
      have c2' := cat_run Tryz.prog (nameT k ++ [32]) EMPTY N1 ⟨#[69, 77, 80, 84, 89]⟩ N2 hN1 rfl hN2 (by simp only [EMPTY, List.length_append, List.length_cons, List.length_nil]; omega)
      rw [if_pos rfl, if_pos hpe, ew, ← hN2]
      subst eB
      clear hN1 hN2 hBd hNm hps etext ebody hk ht hb hbl hpe ew
      go_enter Tryz.func11, Tryz.ntmps11
      go_wp2_with (first
        | (go_at_call 26; refine (HKN.out _).mono ?_; rintro e w' ⟨rfl, hw⟩; obtain rfl := hw.symm)
        | (go_at_call 28; refine (HBd.out _ HG.out).mono ?_; rintro e w2 ⟨rfl, hg⟩; have x1 := HB.out _ hg))
      go_ret
      exact ⟨rfl, gt_trans HG.out hg (.inl rfl)⟩
    · have hB0 : ¬ wrapP ps = EMPTY := fun e => hpe ((wrapP_empty ps).1 e)
      have hBn : (Bd.toList == [69, 77, 80, 84, 89]) = false := by
        rw [ByteArray.toList_eq, hBd]
        simpa [EMPTY] using hB0
      obtain ⟨N2, hN2⟩ : ∃ N2 : ByteArray, N2 = ⟨(nameT k ++ wrapP ps).toArray⟩ := ⟨_, rfl⟩
      have c2' := cat_run Tryz.prog (nameT k) (wrapP ps) Nm Bd N2 hNm hBd hN2 (by omega)
      rw [if_pos rfl, if_neg hpe, List.append_nil, ← hN2]
      clear hN2 hBd hNm hps etext ebody hk ht hb hbl hpe hB0
      go_enter Tryz.func11, Tryz.ntmps11
      go_wp2_with (first
        | (go_at_call 26; refine (HKN.out _).mono ?_; rintro e w' ⟨rfl, hw⟩; obtain rfl := hw.symm)
        | (go_at_call 28; refine (HBd.out _ HG.out).mono ?_; rintro e w2 ⟨rfl, hg⟩; have x1 := HB.out _ hg))
      go_ret
      exact ⟨rfl, gt_trans HG.out hg (.inl rfl)⟩
  · have hrB : ((r : Int) != 0) = true := by simpa using hr0
    have htg := tag_dimN r hr hr0
    have hdl : (dimN r).length ≤ 2 := by unfold dimN; split <;> (try split) <;> (try split) <;> decide
    obtain ⟨D0, hD0⟩ : ∃ D0 : ByteArray, D0 = ⟨(dimN r).toArray⟩ := ⟨_, rfl⟩
    obtain ⟨D1, hD1⟩ : ∃ D1 : ByteArray, D1 = ⟨([32] ++ dimN r).toArray⟩ := ⟨_, rfl⟩
    obtain ⟨N1, hN1⟩ : ∃ N1 : ByteArray, N1 = ⟨(nameT k ++ ([32] ++ dimN r)).toArray⟩ := ⟨_, rfl⟩
    obtain ⟨N2, hN2⟩ : ∃ N2 : ByteArray, N2 = ⟨(nameT k ++ ([32] ++ dimN r) ++ [32]).toArray⟩ := ⟨_, rfl⟩
    obtain ⟨N3, hN3⟩ : ∃ N3 : ByteArray, N3 = ⟨(nameT k ++ ([32] ++ dimN r) ++ [32] ++ wrapP ps).toArray⟩ := ⟨_, rfl⟩
    have c0 := cat_run Tryz.prog [32] (dimN r) ⟨#[32]⟩ D0 D1 rfl hD0 hD1 (by simp only [List.length_cons, List.length_nil]; omega)
    have c1 := cat_run Tryz.prog (nameT k) ([32] ++ dimN r) Nm D1 N1 hNm hD1 hN1 (by simp only [List.length_append, List.length_cons, List.length_nil]; omega)
    have c2' := cat_run Tryz.prog (nameT k ++ ([32] ++ dimN r)) [32] N1 ⟨#[32]⟩ N2 hN1 rfl hN2 (by simp only [List.length_append, List.length_cons, List.length_nil]; omega)
    have c3 := cat_run Tryz.prog (nameT k ++ ([32] ++ dimN r) ++ [32]) (wrapP ps) N2 Bd N3 hN2 hBd hN3 (by simp only [List.length_append, List.length_cons, List.length_nil]; omega)
    have eN : nameT k ++ (if r = 0 then (if ps = [] then [32] else []) else tag r) ++ wrapP ps = nameT k ++ ([32] ++ dimN r) ++ [32] ++ wrapP ps := by rw [if_neg hr0, htg]; simp only [List.append_assoc]
    rw [eN, ← hN3]
    rw [← hD0] at HDN
    clear hN1 hN2 hN3 hD0 hD1 hBd hNm hps etext ebody hk ht hb hbl eN htg hr0 hdl hlen hnl
    go_enter Tryz.func11, Tryz.ntmps11
    go_wp2_with (first
      | (go_at_call 26; refine (HKN.out _).mono ?_; rintro e w' ⟨rfl, hw⟩; obtain rfl := hw.symm)
      | (go_at_call 27; refine (HDN.out _).mono ?_; rintro e w' ⟨rfl, hw⟩; obtain rfl := hw.symm)
      | (go_at_call 28; refine (HBd.out _ HG.out).mono ?_; rintro e w2 ⟨rfl, hg⟩; have x1 := HB.out _ hg))
    go_ret
    exact ⟨rfl, gt_trans HG.out hg (.inl rfl)⟩
end Go.Proofs.YthcjnadceambgaaGreatDoor
