/- The package's reader of well known binary: points. -/
import Derived.Test.YtlpaecafpbbbkaaGreatDoorBYT11
import Derived.Test.YtlpaecafpbbbkaaGreatDoorBYT18
set_option linter.unusedVariables false
set_option linter.unusedSimpArgs false
set_option maxRecDepth 100000
set_option maxHeartbeats 24000000
namespace Go.Proofs.YtlpaecafpbbbkaaGreatDoor
section
open Go.RowKit
def PrPost (D:(Nat→Prop)→World→Value→Raw→Prop) (z:Value) (V W:World) (pb:Nat) (big:Bool) (R:Rd Raw) (e:Ending) (w':World):Prop :=
  W.grownBy w' (some pb)∧match R with
  | .bad _=>∃ ty x,e=.returned (.tuple #[z,.iface ty x])
  | .ok t l=>if okK t=true then ∃ v,e=.returned (.tuple #[v,.nilIface])∧D (Fr W w') w' v (newT t)∧WP V w' pb l (if big=true then 0 else 1) (!big) else ∃ ty x,e=.returned (.tuple #[z,.iface ty x])
theorem PrPost.bad {D:(Nat→Prop)→World→Value→Raw→Prop} {z:Value} {V W w':World} {pb:Nat} {big:Bool} {R:Rd Raw} {ty:Nat} {x:Value} (hg:W.grownBy w' (some pb)) (hR:∀ t l,R=.ok t l→okK t=false):PrPost D z V W pb big R (.returned (.tuple #[z,.iface ty x])) w':=by
  refine ⟨hg,?_⟩
  cases R with
  | bad g=>exact ⟨_,_,rfl⟩
  | ok t l =>
    have:=hR t l rfl
    show if okK t=true then _ else _
    rw [if_neg (by simp [this])]
    exact ⟨_,_,rfl⟩
theorem PrPost.ok {D:(Nat→Prop)→World→Value→Raw→Prop} {z v:Value} {V W w':World} {pb:Nat} {big:Bool} {R:Rd Raw} {t:Raw} {l:List UInt8} (hg:W.grownBy w' (some pb)) (hR:R=.ok t l) (hk:okK t=true) (hd:D (Fr W w') w' v (newT t)) (hw:WP V w' pb l (if big=true then 0 else 1) (!big)):PrPost D z V W pb big R (.returned (.tuple #[v,.nilIface])) w':=by
  refine ⟨hg,?_⟩
  rw [hR]
  show if okK t=true then _ else _
  rw [if_pos hk]
  exact ⟨v,rfl,hd,hw⟩
theorem gt_set6 {W w:World} {r:Option Nat} (g:W.grownBy w r) {b:Nat} (hb:W.heap.size≤b) (y0 y1 y2 y3 y4 y5:Value):W.grownBy ((((((w.setCell ⟨b,0,none⟩ y0).setCell ⟨b,1,none⟩ y1).setCell ⟨b,2,none⟩ y2).setCell ⟨b,3,none⟩ y3).setCell ⟨b,4,none⟩ y4).setCell ⟨b,5,none⟩ y5) r :=
  gt_set_r (gt_set_r (gt_set_r (gt_set_r (gt_set_r (gt_set_r g _ _ hb) _ _ hb) _ _ hb) _ _ hb) _ _ hb) _ _ hb
theorem WP.put6 {V w:World} {pb:Nat} {l:List UInt8} {o:Nat} {no:Bool} (h:WP V w pb l o no) {b:Nat} (hb:V.heap.size≤b) (y0 y1 y2 y3 y4 y5:Value):WP V ((((((w.setCell ⟨b,0,none⟩ y0).setCell ⟨b,1,none⟩ y1).setCell ⟨b,2,none⟩ y2).setCell ⟨b,3,none⟩ y3).setCell ⟨b,4,none⟩ y4).setCell ⟨b,5,none⟩ y5) pb l o no :=
  (((((h.put _ _ hb).put _ _ hb).put _ _ hb).put _ _ hb).put _ _ hb).put _ _ hb
theorem parseF64_at (V W:World) (pb:Nat) (big no:Bool) (l:List UInt8) (w j:Nat) (hj:j<w) (h:WP V W pb (l.drop (8*j)) (if big=true then 0 else 1) no) :
    Calls Tryz.prog 243 #[.pointer (some ⟨pb,0,none⟩)] W fun e w'=>(8*j+8≤l.length∧e=.returned (.tuple #[.float .f64 (fOf (numsOf big w l) j),.nilIface])∧WP V w' pb (l.drop (8*(j+1))) (if big=true then 0 else 1) no∧W.grownBy w' (some pb))∨(l.length<8*j+8∧(∃ ty x,e=.returned (.tuple #[.float .f64 0,.iface ty x]))∧W.grownBy w' (some pb)):=by
  by_cases hl:8*j+8≤l.length
  · refine (parseF64_ok V W pb big no _ (by rw [List.length_drop];omega) h).mono fun e w' ⟨he,hw,hg⟩=>.inl ⟨hl,?_,?_,hg⟩
    · rw [he,fOf_at big w l j hj]
    · rw [List.drop_drop] at hw
      rw [show 8*(j+1)=8*j+8 by omega]
      exact hw
  · exact (parseF64_bad V W pb _ no _ (by rw [List.length_drop];omega) h).mono fun e w' ⟨he,hg⟩=>.inr ⟨by omega,he,hg⟩
structure CW (w:World) (cb:Nat) (a0 a1 a2 a3 a4:Value):Prop where
  h0:w.cell? ⟨cb,0,none⟩=some a0
  h1:w.cell? ⟨cb,1,none⟩=some a1
  h2:w.cell? ⟨cb,2,none⟩=some a2
  h3:w.cell? ⟨cb,3,none⟩=some a3
  h4:w.cell? ⟨cb,4,none⟩=some a4
  fz:∀ j,w.frozen? ⟨cb,j,none⟩=false
section
variable {w w':World} {cb pb:Nat} {a0 a1 a2 a3 a4:Value}
theorem CW.call (h:CW w cb a0 a1 a2 a3 a4) (g:w.grownBy w' (some pb)) (hne:cb≠pb):CW w' cb a0 a1 a2 a3 a4:=by
  have hn:some cb≠some pb:=fun e=>by injection e with e;exact hne e
  have hb:=g.block cb (World.block_lt_of_cell? w _ h.h0) hn
  exact ⟨g.cell h.h0 hn,g.cell h.h1 hn,g.cell h.h2 hn,g.cell h.h3 hn,g.cell h.h4 hn,fun j=>by rw [World.frozen?_of_block hb];exact h.fz j⟩
theorem CW.set0 (h:CW w cb a0 a1 a2 a3 a4) (y:Value):CW (w.setCell ⟨cb,0,none⟩ y) cb y a1 a2 a3 a4 :=
  ⟨World.cell?_setCell_same (v:=y) (h:=h.h0),by rw [World.cell?_setCell_other (h:=by simp)];exact h.h1,by rw [World.cell?_setCell_other (h:=by simp)];exact h.h2,by rw [World.cell?_setCell_other (h:=by simp)];exact h.h3,by rw [World.cell?_setCell_other (h:=by simp)];exact h.h4,fun j=>by rw [World.frozen?_setCell];exact h.fz j⟩
theorem CW.set1 (h:CW w cb a0 a1 a2 a3 a4) (y:Value):CW (w.setCell ⟨cb,1,none⟩ y) cb a0 y a2 a3 a4 :=
  ⟨by rw [World.cell?_setCell_other (h:=by simp)];exact h.h0,World.cell?_setCell_same (v:=y) (h:=h.h1),by rw [World.cell?_setCell_other (h:=by simp)];exact h.h2,by rw [World.cell?_setCell_other (h:=by simp)];exact h.h3,by rw [World.cell?_setCell_other (h:=by simp)];exact h.h4,fun j=>by rw [World.frozen?_setCell];exact h.fz j⟩
theorem CW.set2 (h:CW w cb a0 a1 a2 a3 a4) (y:Value):CW (w.setCell ⟨cb,2,none⟩ y) cb a0 a1 y a3 a4 :=
  ⟨by rw [World.cell?_setCell_other (h:=by simp)];exact h.h0,by rw [World.cell?_setCell_other (h:=by simp)];exact h.h1,World.cell?_setCell_same (v:=y) (h:=h.h2),by rw [World.cell?_setCell_other (h:=by simp)];exact h.h3,by rw [World.cell?_setCell_other (h:=by simp)];exact h.h4,fun j=>by rw [World.frozen?_setCell];exact h.fz j⟩
end
structure ZP (w:World) (rb:Nat):Prop where
  h0:w.cell? ⟨rb,0,none⟩=some (.float .f64 0)
  h1:w.cell? ⟨rb,1,none⟩=some (.float .f64 0)
  h2:w.cell? ⟨rb,2,none⟩=some (.float .f64 0)
  h3:w.cell? ⟨rb,3,none⟩=some (.float .f64 0)
  h4:w.cell? ⟨rb,4,none⟩=some (.int .u8 0)
  h5:w.cell? ⟨rb,5,none⟩=some (.bool false)
  fz:∀ j,w.frozen? ⟨rb,j,none⟩=false
theorem ZP.call {w w':World} {rb pb:Nat} (h:ZP w rb) (g:w.grownBy w' (some pb)) (hne:rb≠pb):ZP w' rb:=by
  have hn:some rb≠some pb:=fun e=>by injection e with e;exact hne e
  have hb:=g.block rb (World.block_lt_of_cell? w _ h.h0) hn
  exact ⟨g.cell h.h0 hn,g.cell h.h1 hn,g.cell h.h2 hn,g.cell h.h3 hn,g.cell h.h4 hn,g.cell h.h5 hn,fun j=>by rw [World.frozen?_of_block hb];exact h.fz j⟩
theorem ZP.put {w:World} {rb:Nat} (h:ZP w rb) (q:Addr) (y:Value) (hq:q.block≠rb):ZP (w.setCell q y) rb:=by
  have hne:∀ j,q≠⟨rb,j,none⟩:=fun j e=>hq (by rw [e])
  have hne':∀ j,(⟨rb,j,none⟩ : Addr)≠q:=fun j e=>hne j e.symm
  refine ⟨?_,?_,?_,?_,?_,?_,fun j=>by rw [World.frozen?_setCell];exact h.fz j⟩
  all_goals rw [World.cell?_setCell_other (h:=by first | exact hne' _ | exact hne _)]
  · exact h.h0
  · exact h.h1
  · exact h.h2
  · exact h.h3
  · exact h.h4
  · exact h.h5
theorem parsePt0 (V W:World) (pb:Nat) (big:Bool) (l:List UInt8) (h:WP V W pb l (if big=true then 0 else 1) (!big)) :
    Calls Tryz.prog 199 #[.pointer (some ⟨pb,0,none⟩),.int .u8 0] W (PrPost DPoint (ptE 0).v V W pb big ((rdF 2 big l).bind fun ns l2=>rdPt true 0 ns l2)):=by
  have hpb:=h.lt
  have hVW:=h.g.size
  have hf:=fOf_lt big 2 l
  have HRb:Hid (l.length<16→∀ t l',(rdF 2 big l).bind (fun ns l2=>rdPt true 0 ns l2)=.ok t l'→okK t=false):=fun hl t l' e=>by
    unfold rdF at e
    rw [if_pos (by omega)] at e
    cases e
  have HRe:Hid (16≤l.length→nanB (fOf (numsOf big 2 l) 0)=true→nanB (fOf (numsOf big 2 l) 1)=true→(rdF 2 big l).bind (fun ns l2=>rdPt true 0 ns l2)=.ok (.mk 1 (0:Nat) 0 (fOf (numsOf big 2 l)) []) (l.drop (8*2))):=fun hl h0 h1=>by
    unfold rdF
    rw [if_neg (by omega),Rd.ok_bind]
    unfold rdPt
    rw [h0,h1]
    rfl
  have HRo:Hid (16≤l.length→nanB (fOf (numsOf big 2 l) 0)=false∨nanB (fOf (numsOf big 2 l) 1)=false→(rdF 2 big l).bind (fun ns l2=>rdPt true 0 ns l2)=.ok (.mk 1 (0:Nat) 2 (fOf (numsOf big 2 l)) []) (l.drop (8*2))):=fun hl h0=>by
    unfold rdF
    rw [if_neg (by omega),Rd.ok_bind]
    unfold rdPt
    rw [if_neg (by rcases h0 with h0 | h0 <;> simp [h0]),if_neg (by simp)]
    rfl
  have HF:=Lib.hid (fun (w:World) (j:Nat) (hj:j<2) (hw:WP V w pb (l.drop (8*j)) (if big=true then 0 else 1) (!big))=>parseF64_at V w pb big (!big) l 2 j hj hw)
  have hz:ZP (W.alloc (.cells #[.float .f64 0,.float .f64 0,.float .f64 0,.float .f64 0,.int .u8 0,.bool false] 87)) W.heap.size:=⟨by simp,by simp,by simp,by simp,by simp,by simp,fun j=>by simp⟩
  have HZ:=Lib.hid (hz.call (gt_some (World.grownBy_alloc _ (.cells #[.float .f64 0,.float .f64 0,.float .f64 0,.float .f64 0,.int .u8 0] 85) none) pb) (by omega))
  have HC:Hid (CW ((W.alloc (.cells #[.float .f64 0,.float .f64 0,.float .f64 0,.float .f64 0,.int .u8 0,.bool false] 87)).alloc (.cells #[.float .f64 0,.float .f64 0,.float .f64 0,.float .f64 0,.int .u8 0] 85)) (W.heap.size+1) (.float .f64 0) (.float .f64 0) (.float .f64 0) (.float .f64 0) (.int .u8 0)):=⟨by simp,by simp,by simp,by simp,by simp,fun j=>by simp⟩
  have HW0:Hid (WP V ((W.alloc (.cells #[.float .f64 0,.float .f64 0,.float .f64 0,.float .f64 0,.int .u8 0,.bool false] 87)).alloc (.cells #[.float .f64 0,.float .f64 0,.float .f64 0,.float .f64 0,.int .u8 0] 85)) pb (l.drop (8*0)) (if big=true then 0 else 1) (!big)):=h.kept (gt_alloc_r (World.grownBy_alloc W _ none) _)
  have HG0:=Lib.hid (gt_some (gt_alloc_r (World.grownBy_alloc W (.cells #[.float .f64 0,.float .f64 0,.float .f64 0,.float .f64 0,.int .u8 0,.bool false] 87) none) (.cells #[.float .f64 0,.float .f64 0,.float .f64 0,.float .f64 0,.int .u8 0] 85)) pb)
  have hcp:W.heap.size+1≠pb:=by omega
  have hrp:W.heap.size≠pb:=by omega
  have HQ:Hid (V.heap.size≤W.heap.size+1):=by show V.heap.size≤W.heap.size+1;omega
  have HQ0:Hid (V.heap.size≤W.heap.size):=hVW
  generalize fOf (numsOf big 2 l)=f at HRe HRo HF hf ⊢
  have HD1:Hid (∀ (B:Nat→Prop) w,DPoint B w (.agg #[.float .f64 (f 0),.float .f64 (f 1),.float .f64 0,.float .f64 0,.int .u8 0,.bool true]) (newT (.mk 1 (0:Nat) 2 f []))):=fun B w=>by
    obtain ⟨h1,h2⟩:=PtT.new ((0:Nat):Int) 2 f [] hf
    refine ⟨h1,?_⟩
    rw [h2,ptR_of (by decide)]
    unfold ptOf
    rw [if_neg (by decide)]
    simp [plX,plY,plZ,plM,widN,Pt.v]
  have HD0:Hid (∀ (B:Nat→Prop) w,DPoint B w (.agg #[.float .f64 0,.float .f64 0,.float .f64 0,.float .f64 0,.int .u8 0,.bool false]) (newT (.mk 1 (0:Nat) 0 f []))):=fun B w=>by
    obtain ⟨h1,h2⟩:=PtT.new ((0:Nat):Int) 0 f [] hf
    refine ⟨h1,?_⟩
    rw [h2,ptR_of (by decide)]
    unfold ptOf
    rw [if_pos (Nat.zero_div _)]
    rfl
  generalize (rdF 2 big l).bind (fun ns l2=>rdPt true 0 ns l2)=R at HRb HRe HRo ⊢
  have hsf:=run_store_flt Tryz.prog
  have HFC:Hid (∀ w,Calls Tryz.prog 213 #[.agg #[.float .f64 0,.float .f64 0,.float .f64 0,.float .f64 0,.int .u8 0,.bool false],.int .u8 0] w fun e w'=>e=.returned (.agg #[.float .f64 0,.float .f64 0,.float .f64 0,.float .f64 0,.int .u8 0,.bool false])∧w.grownBy w' none):=fun w=>(PtForce_any 0 0 0 0 0 false 0 (by decide) (by decide) w).mono fun e w' ⟨he,hg⟩=>⟨he,hg⟩
  have hE:(ptE 0).v=.agg #[.float .f64 0,.float .f64 0,.float .f64 0,.float .f64 0,.int .u8 0,.bool false]:=rfl
  rw [hE]
  clear hE hz h
  cases hn0:nanB (f 0) <;> cases hn1:nanB (f 1)
  all_goals
    go_enter Tryz.func199,Tryz.ntmps199
    go_wp2_with (first
      | (go_at_call 243;((with_reducible refine (HF.out _ 0 (by decide) HW0.out).mono ?_);rintro e w1 (⟨hl1,rfl,hw1,hg1⟩ | ⟨hl1,⟨ty,x,rfl⟩,hg1⟩);all_goals (try (have HWW1:=Lib.hid hw1;clear hw1));all_goals (have CC1:=CW.call HC.out hg1 hcp;have ZZ1:=ZP.call HZ.out hg1 hrp;have GG1:=gt_trans HG0.out hg1 (.inl rfl);have k10:=CC1.h0;have k11:=CC1.h1;have k12:=CC1.h2;have k13:=CC1.h3;have k14:=CC1.h4;have kf10:=CC1.fz 0;have kf11:=CC1.fz 1;have kf12:=CC1.fz 2;have kf13:=CC1.fz 3;have r10:=ZZ1.h0;have r11:=ZZ1.h1;have r12:=ZZ1.h2;have r13:=ZZ1.h3;have r14:=ZZ1.h4;have r15:=ZZ1.h5;have rf10:=ZZ1.fz 0;have rf11:=ZZ1.fz 1;have rf12:=ZZ1.fz 2;have rf13:=ZZ1.fz 3;have rf14:=ZZ1.fz 4;have rf15:=ZZ1.fz 5)))
      | (go_at_call 243;((with_reducible refine (HF.out _ 1 (by decide) (WP.put HWW1.out ⟨W.heap.size+1,0,none⟩ (.float .f64 (f 0)) HQ.out)).mono ?_);rintro e w2 (⟨hl2,rfl,hw2,hg2⟩ | ⟨hl2,⟨ty,x,rfl⟩,hg2⟩);all_goals (try (have HWW2:=Lib.hid hw2;clear hw2));all_goals (have CC2:=CW.call (CW.set0 CC1 (.float .f64 (f 0))) hg2 hcp;have ZZ2:=ZP.call (ZP.put ZZ1 ⟨W.heap.size+1,0,none⟩ (.float .f64 (f 0)) (by show W.heap.size+1≠W.heap.size;omega)) hg2 hrp;have GG2:=gt_trans (gt_set_r GG1 ⟨W.heap.size+1,0,none⟩ (.float .f64 (f 0)) (Nat.le_succ _)) hg2 (.inl rfl);have k20:=CC2.h0;have k21:=CC2.h1;have k22:=CC2.h2;have k23:=CC2.h3;have k24:=CC2.h4;have kf20:=CC2.fz 0;have kf21:=CC2.fz 1;have kf22:=CC2.fz 2;have kf23:=CC2.fz 3;have r20:=ZZ2.h0;have r21:=ZZ2.h1;have r22:=ZZ2.h2;have r23:=ZZ2.h3;have r24:=ZZ2.h4;have r25:=ZZ2.h5;have rf20:=ZZ2.fz 0;have rf21:=ZZ2.fz 1;have rf22:=ZZ2.fz 2;have rf23:=ZZ2.fz 3;have rf24:=ZZ2.fz 4;have rf25:=ZZ2.fz 5)))
      | (go_at_call 38;refine (isNaN_D _ _).mono ?_;rintro e wn ⟨rfl,rfl⟩)
      | (go_at_call 105;(refine (NewPoint_any _ _ _ _ 0 _).mono ?_;rintro e wq ⟨rfl,hgq⟩;have ZZq:=ZP.call (ZP.put ZZ2 ⟨W.heap.size+1,1,none⟩ (.float .f64 (f 1)) (by show W.heap.size+1≠W.heap.size;omega)) (gt_some hgq pb) hrp;have GGq:=gt_trans (gt_set_r GG2 ⟨W.heap.size+1,1,none⟩ (.float .f64 (f 1)) (Nat.le_succ _)) hgq (.inr (.inl rfl));have HWq:=Lib.hid (WP.kept (WP.put HWW2.out ⟨W.heap.size+1,1,none⟩ (.float .f64 (f 1)) HQ.out) hgq);have q0:=ZZq.h0;have q1:=ZZq.h1;have q2:=ZZq.h2;have q3:=ZZq.h3;have q4:=ZZq.h4;have q5:=ZZq.h5;have qf0:=ZZq.fz 0;have qf1:=ZZq.fz 1;have qf2:=ZZq.fz 2;have qf3:=ZZq.fz 3;have qf4:=ZZq.fz 4;have qf5:=ZZq.fz 5))
      | (go_at_call 213;(refine (HFC.out _).mono ?_;rintro e wq ⟨rfl,hgq⟩;have ZZq:=ZP.call (ZP.put ZZ2 ⟨W.heap.size+1,1,none⟩ (.float .f64 (f 1)) (by show W.heap.size+1≠W.heap.size;omega)) (gt_some hgq pb) hrp;have GGq:=gt_trans (gt_set_r GG2 ⟨W.heap.size+1,1,none⟩ (.float .f64 (f 1)) (Nat.le_succ _)) hgq (.inr (.inl rfl));have HWq:=Lib.hid (WP.kept (WP.put HWW2.out ⟨W.heap.size+1,1,none⟩ (.float .f64 (f 1)) HQ.out) hgq);have q0:=ZZq.h0;have q1:=ZZq.h1;have q2:=ZZq.h2;have q3:=ZZq.h3;have q4:=ZZq.h4;have q5:=ZZq.h5;have qf0:=ZZq.fz 0;have qf1:=ZZq.fz 1;have qf2:=ZZq.fz 2;have qf3:=ZZq.fz 3;have qf4:=ZZq.fz 4;have qf5:=ZZq.fz 5)))
    all_goals first
      | (have hlo:16≤l.length:=(by omega);refine bodyPost_ret (by simp [results,Tryz.results199,go_sem,q0,q1,q2,q3,q4,q5];try rfl) rfl ?_;exact PrPost.ok (gt_set6 GGq (Nat.le_refl _) _ _ _ _ _ _) (HRo.out hlo (.inl hn0)) (by unfold okK okKs;rw [hn0,hn1];simp) (HD1.out _ _) (HWq.out.put6 HQ0.out _ _ _ _ _ _))
      | (have hlo:16≤l.length:=(by omega);refine bodyPost_ret (by simp [results,Tryz.results199,go_sem,q0,q1,q2,q3,q4,q5];try rfl) rfl ?_;exact PrPost.ok (gt_set6 GGq (Nat.le_refl _) _ _ _ _ _ _) (HRe.out hlo hn0 hn1) (by unfold okK okKs;simp) (HD0.out _ _) (HWq.out.put6 HQ0.out _ _ _ _ _ _))
      | (have hlo:16≤l.length:=(by omega);refine bodyPost_ret (by simp [results,Tryz.results199,go_sem,r20,r21,r22,r23,r24,r25];try rfl) rfl ?_;exact PrPost.bad (gt_set6 (gt_set_r GG2 _ _ (Nat.le_succ _)) (Nat.le_refl _) _ _ _ _ _ _) (fun t l' e=>by rw [HRo.out hlo (by simp [hn0,hn1])] at e;injection e with e1 e2;subst e1;unfold okK okKs;rw [hn0,hn1];rfl))
      | (have hlb:l.length<16:=(by omega);refine bodyPost_ret (by simp [results,Tryz.results199,go_sem,r10,r11,r12,r13,r14,r15];try rfl) rfl ?_;exact PrPost.bad (gt_set6 (gt_set_r GG1 _ _ (Nat.le_succ _)) (Nat.le_refl _) _ _ _ _ _ _) (HRb.out hlb))
      | (have hlb:l.length<16:=(by omega);refine bodyPost_ret (by simp [results,Tryz.results199,go_sem,r20,r21,r22,r23,r24,r25];try rfl) rfl ?_;exact PrPost.bad (gt_set6 (gt_set_r GG2 _ _ (Nat.le_succ _)) (Nat.le_refl _) _ _ _ _ _ _) (HRb.out hlb))
end
end Go.Proofs.YtlpaecafpbbbkaaGreatDoor
