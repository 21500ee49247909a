/- The package's reader of well known binary: points of type 3. -/
import Derived.Test.YtlpaecafpbbbkaaGreatDoorBYT19
set_option linter.unusedVariables false
set_option linter.unusedSimpArgs false
set_option maxRecDepth 100000
set_option maxHeartbeats 24000000
namespace Go.Proofs.YtlpaecafpbbbkaaGreatDoor
section
open Go.RowKit
theorem parsePt3 (V W:World) (pb:Nat) (big:Bool) (l:List UInt8) (h:WP V W pb l (if big=true then 0 else 1) (!big)) :
    Calls Tryz.prog 199 #[.pointer (some ⟨pb,0,none⟩),.int .u8 3] W (PrPost DPoint (ptE 0).v V W pb big ((rdF 4 big l).bind fun ns l2=>rdPt true 3 ns l2)):=by
  have hpb:=h.lt
  have hVW:=h.g.size
  have hf:=fOf_lt big 4 l
  have HRb:Hid (l.length<32→∀ t l',(rdF 4 big l).bind (fun ns l2=>rdPt true 3 ns l2)=.ok t l'→okK t=false):=fun hl t l' e=>by
    unfold rdF at e
    rw [if_pos (by omega)] at e
    cases e
  have HRe:Hid (32≤l.length→nanB (fOf (numsOf big 4 l) 0)=true→nanB (fOf (numsOf big 4 l) 1)=true→(rdF 4 big l).bind (fun ns l2=>rdPt true 3 ns l2)=.ok (.mk 1 (3:Nat) 0 (fOf (numsOf big 4 l)) []) (l.drop (8*4))):=fun hl h0 h1=>by
    unfold rdF
    rw [if_neg (by omega),Rd.ok_bind]
    unfold rdPt
    rw [h0,h1]
    rfl
  have HRo:Hid (32≤l.length→nanB (fOf (numsOf big 4 l) 0)=false∨nanB (fOf (numsOf big 4 l) 1)=false→(rdF 4 big l).bind (fun ns l2=>rdPt true 3 ns l2)=.ok (.mk 1 (3:Nat) 4 (fOf (numsOf big 4 l)) []) (l.drop (8*4))):=fun hl h0=>by
    unfold rdF
    rw [if_neg (by omega),Rd.ok_bind]
    unfold rdPt
    rw [if_neg (by rcases h0 with h0 | h0 <;> simp [h0]),if_neg (by simp)]
    rfl
  have HF:=Lib.hid (fun (w:World) (j:Nat) (hj:j<4) (hw:WP V w pb (l.drop (8*j)) (if big=true then 0 else 1) (!big))=>parseF64_at V w pb big (!big) l 4 j hj hw)
  have hz:ZP (W.alloc (.cells #[.float .f64 0,.float .f64 0,.float .f64 0,.float .f64 0,.int .u8 0,.bool false] 87)) W.heap.size:=⟨by simp,by simp,by simp,by simp,by simp,by simp,fun j=>by simp⟩
  have HZ:=Lib.hid (hz.call (gt_some (World.grownBy_alloc _ (.cells #[.float .f64 0,.float .f64 0,.float .f64 0,.float .f64 0,.int .u8 3] 85) none) pb) (by omega))
  have HC:Hid (CW ((W.alloc (.cells #[.float .f64 0,.float .f64 0,.float .f64 0,.float .f64 0,.int .u8 0,.bool false] 87)).alloc (.cells #[.float .f64 0,.float .f64 0,.float .f64 0,.float .f64 0,.int .u8 3] 85)) (W.heap.size+1) (.float .f64 0) (.float .f64 0) (.float .f64 0) (.float .f64 0) (.int .u8 3)):=⟨by simp,by simp,by simp,by simp,by simp,fun j=>by simp⟩
  have HW0:Hid (WP V ((W.alloc (.cells #[.float .f64 0,.float .f64 0,.float .f64 0,.float .f64 0,.int .u8 0,.bool false] 87)).alloc (.cells #[.float .f64 0,.float .f64 0,.float .f64 0,.float .f64 0,.int .u8 3] 85)) pb (l.drop (8*0)) (if big=true then 0 else 1) (!big)):=h.kept (gt_alloc_r (World.grownBy_alloc W _ none) _)
  have HG0:=Lib.hid (gt_some (gt_alloc_r (World.grownBy_alloc W (.cells #[.float .f64 0,.float .f64 0,.float .f64 0,.float .f64 0,.int .u8 0,.bool false] 87) none) (.cells #[.float .f64 0,.float .f64 0,.float .f64 0,.float .f64 0,.int .u8 3] 85)) pb)
  have hcp:W.heap.size+1≠pb:=by omega
  have hrp:W.heap.size≠pb:=by omega
  have HQ:Hid (V.heap.size≤W.heap.size+1):=by show V.heap.size≤W.heap.size+1;omega
  have HQ0:Hid (V.heap.size≤W.heap.size):=hVW
  generalize fOf (numsOf big 4 l)=f at HRe HRo HF hf ⊢
  have HD1:Hid (∀ (B:Nat→Prop) w,DPoint B w (.agg #[.float .f64 (f 0),.float .f64 (f 1),.float .f64 (f 2),.float .f64 (f 3),.int .u8 3,.bool true]) (newT (.mk 1 (3:Nat) 4 f []))):=fun B w=>by
    obtain ⟨h1,h2⟩:=PtT.new ((3:Nat):Int) 4 f [] hf
    refine ⟨h1,?_⟩
    rw [h2,ptR_of (by decide)]
    unfold ptOf
    rw [if_neg (by decide)]
    simp [plX,plY,plZ,plM,widN,Pt.v]
  have HD0:Hid (∀ (B:Nat→Prop) w,DPoint B w (.agg #[.float .f64 0,.float .f64 0,.float .f64 0,.float .f64 0,.int .u8 3,.bool false]) (newT (.mk 1 (3:Nat) 0 f []))):=fun B w=>by
    obtain ⟨h1,h2⟩:=PtT.new ((3:Nat):Int) 0 f [] hf
    refine ⟨h1,?_⟩
    rw [h2,ptR_of (by decide)]
    unfold ptOf
    rw [if_pos (Nat.zero_div _)]
    rfl
  generalize (rdF 4 big l).bind (fun ns l2=>rdPt true 3 ns l2)=R at HRb HRe HRo ⊢
  have hsf:=run_store_flt Tryz.prog
  have HFC:Hid (∀ w,Calls Tryz.prog 213 #[.agg #[.float .f64 0,.float .f64 0,.float .f64 0,.float .f64 0,.int .u8 0,.bool false],.int .u8 3] w fun e w'=>e=.returned (.agg #[.float .f64 0,.float .f64 0,.float .f64 0,.float .f64 0,.int .u8 3,.bool false])∧w.grownBy w' none):=fun w=>(PtForce_any 0 0 0 0 0 false 3 (by decide) (by decide) w).mono fun e w' ⟨he,hg⟩=>⟨he,hg⟩
  have hE:(ptE 0).v=.agg #[.float .f64 0,.float .f64 0,.float .f64 0,.float .f64 0,.int .u8 0,.bool false]:=rfl
  rw [hE]
  clear hE hz h
  cases hn0:nanB (f 0) <;> cases hn1:nanB (f 1)
  all_goals
    go_enter Tryz.func199,Tryz.ntmps199
    go_wp2_with (first
      | (go_at_call 243;((with_reducible refine (HF.out _ 0 (by decide) HW0.out).mono ?_);rintro e w1 (⟨hl1,rfl,hw1,hg1⟩ | ⟨hl1,⟨ty,x,rfl⟩,hg1⟩);all_goals (try (have HWW1:=Lib.hid hw1;clear hw1));all_goals (have CC1:=CW.call HC.out hg1 hcp;have ZZ1:=ZP.call HZ.out hg1 hrp;have GG1:=gt_trans HG0.out hg1 (.inl rfl);have k10:=CC1.h0;have k11:=CC1.h1;have k12:=CC1.h2;have k13:=CC1.h3;have k14:=CC1.h4;have kf10:=CC1.fz 0;have kf11:=CC1.fz 1;have kf12:=CC1.fz 2;have kf13:=CC1.fz 3;have r10:=ZZ1.h0;have r11:=ZZ1.h1;have r12:=ZZ1.h2;have r13:=ZZ1.h3;have r14:=ZZ1.h4;have r15:=ZZ1.h5;have rf10:=ZZ1.fz 0;have rf11:=ZZ1.fz 1;have rf12:=ZZ1.fz 2;have rf13:=ZZ1.fz 3;have rf14:=ZZ1.fz 4;have rf15:=ZZ1.fz 5)))
      | (go_at_call 243;((with_reducible refine (HF.out _ 1 (by decide) (WP.put HWW1.out ⟨W.heap.size+1,0,none⟩ (.float .f64 (f 0)) HQ.out)).mono ?_);rintro e w2 (⟨hl2,rfl,hw2,hg2⟩ | ⟨hl2,⟨ty,x,rfl⟩,hg2⟩);all_goals (try (have HWW2:=Lib.hid hw2;clear hw2));all_goals (have CC2:=CW.call (CW.set0 CC1 (.float .f64 (f 0))) hg2 hcp;have ZZ2:=ZP.call (ZP.put ZZ1 ⟨W.heap.size+1,0,none⟩ (.float .f64 (f 0)) (by show W.heap.size+1≠W.heap.size;omega)) hg2 hrp;have GG2:=gt_trans (gt_set_r GG1 ⟨W.heap.size+1,0,none⟩ (.float .f64 (f 0)) (Nat.le_succ _)) hg2 (.inl rfl);have k20:=CC2.h0;have k21:=CC2.h1;have k22:=CC2.h2;have k23:=CC2.h3;have k24:=CC2.h4;have kf20:=CC2.fz 0;have kf21:=CC2.fz 1;have kf22:=CC2.fz 2;have kf23:=CC2.fz 3;have r20:=ZZ2.h0;have r21:=ZZ2.h1;have r22:=ZZ2.h2;have r23:=ZZ2.h3;have r24:=ZZ2.h4;have r25:=ZZ2.h5;have rf20:=ZZ2.fz 0;have rf21:=ZZ2.fz 1;have rf22:=ZZ2.fz 2;have rf23:=ZZ2.fz 3;have rf24:=ZZ2.fz 4;have rf25:=ZZ2.fz 5)))
      | (go_at_call 243;((with_reducible refine (HF.out _ 2 (by decide) (WP.put HWW2.out ⟨W.heap.size+1,1,none⟩ (.float .f64 (f 1)) HQ.out)).mono ?_);rintro e w3 (⟨hl3,rfl,hw3,hg3⟩ | ⟨hl3,⟨ty,x,rfl⟩,hg3⟩);all_goals (try (have HWW3:=Lib.hid hw3;clear hw3));all_goals (have CC3:=CW.call (CW.set1 CC2 (.float .f64 (f 1))) hg3 hcp;have ZZ3:=ZP.call (ZP.put ZZ2 ⟨W.heap.size+1,1,none⟩ (.float .f64 (f 1)) (by show W.heap.size+1≠W.heap.size;omega)) hg3 hrp;have GG3:=gt_trans (gt_set_r GG2 ⟨W.heap.size+1,1,none⟩ (.float .f64 (f 1)) (Nat.le_succ _)) hg3 (.inl rfl);have k30:=CC3.h0;have k31:=CC3.h1;have k32:=CC3.h2;have k33:=CC3.h3;have k34:=CC3.h4;have kf30:=CC3.fz 0;have kf31:=CC3.fz 1;have kf32:=CC3.fz 2;have kf33:=CC3.fz 3;have r30:=ZZ3.h0;have r31:=ZZ3.h1;have r32:=ZZ3.h2;have r33:=ZZ3.h3;have r34:=ZZ3.h4;have r35:=ZZ3.h5;have rf30:=ZZ3.fz 0;have rf31:=ZZ3.fz 1;have rf32:=ZZ3.fz 2;have rf33:=ZZ3.fz 3;have rf34:=ZZ3.fz 4;have rf35:=ZZ3.fz 5)))
      | (go_at_call 243;((with_reducible refine (HF.out _ 3 (by decide) (WP.put HWW3.out ⟨W.heap.size+1,2,none⟩ (.float .f64 (f 2)) HQ.out)).mono ?_);rintro e w4 (⟨hl4,rfl,hw4,hg4⟩ | ⟨hl4,⟨ty,x,rfl⟩,hg4⟩);all_goals (try (have HWW4:=Lib.hid hw4;clear hw4));all_goals (have CC4:=CW.call (CW.set2 CC3 (.float .f64 (f 2))) hg4 hcp;have ZZ4:=ZP.call (ZP.put ZZ3 ⟨W.heap.size+1,2,none⟩ (.float .f64 (f 2)) (by show W.heap.size+1≠W.heap.size;omega)) hg4 hrp;have GG4:=gt_trans (gt_set_r GG3 ⟨W.heap.size+1,2,none⟩ (.float .f64 (f 2)) (Nat.le_succ _)) hg4 (.inl rfl);have k40:=CC4.h0;have k41:=CC4.h1;have k42:=CC4.h2;have k43:=CC4.h3;have k44:=CC4.h4;have kf40:=CC4.fz 0;have kf41:=CC4.fz 1;have kf42:=CC4.fz 2;have kf43:=CC4.fz 3;have r40:=ZZ4.h0;have r41:=ZZ4.h1;have r42:=ZZ4.h2;have r43:=ZZ4.h3;have r44:=ZZ4.h4;have r45:=ZZ4.h5;have rf40:=ZZ4.fz 0;have rf41:=ZZ4.fz 1;have rf42:=ZZ4.fz 2;have rf43:=ZZ4.fz 3;have rf44:=ZZ4.fz 4;have rf45:=ZZ4.fz 5)))
      | (go_at_call 38;refine (isNaN_D _ _).mono ?_;rintro e wn ⟨rfl,rfl⟩)
      | (go_at_call 105;(refine (NewPoint_any _ _ _ _ 3 _).mono ?_;rintro e wq ⟨rfl,hgq⟩;have ZZq:=ZP.call (ZP.put ZZ4 ⟨W.heap.size+1,3,none⟩ (.float .f64 (f 3)) (by show W.heap.size+1≠W.heap.size;omega)) (gt_some hgq pb) hrp;have GGq:=gt_trans (gt_set_r GG4 ⟨W.heap.size+1,3,none⟩ (.float .f64 (f 3)) (Nat.le_succ _)) hgq (.inr (.inl rfl));have HWq:=Lib.hid (WP.kept (WP.put HWW4.out ⟨W.heap.size+1,3,none⟩ (.float .f64 (f 3)) HQ.out) hgq);have q0:=ZZq.h0;have q1:=ZZq.h1;have q2:=ZZq.h2;have q3:=ZZq.h3;have q4:=ZZq.h4;have q5:=ZZq.h5;have qf0:=ZZq.fz 0;have qf1:=ZZq.fz 1;have qf2:=ZZq.fz 2;have qf3:=ZZq.fz 3;have qf4:=ZZq.fz 4;have qf5:=ZZq.fz 5))
      | (go_at_call 213;(refine (HFC.out _).mono ?_;rintro e wq ⟨rfl,hgq⟩;have ZZq:=ZP.call (ZP.put ZZ4 ⟨W.heap.size+1,3,none⟩ (.float .f64 (f 3)) (by show W.heap.size+1≠W.heap.size;omega)) (gt_some hgq pb) hrp;have GGq:=gt_trans (gt_set_r GG4 ⟨W.heap.size+1,3,none⟩ (.float .f64 (f 3)) (Nat.le_succ _)) hgq (.inr (.inl rfl));have HWq:=Lib.hid (WP.kept (WP.put HWW4.out ⟨W.heap.size+1,3,none⟩ (.float .f64 (f 3)) HQ.out) hgq);have q0:=ZZq.h0;have q1:=ZZq.h1;have q2:=ZZq.h2;have q3:=ZZq.h3;have q4:=ZZq.h4;have q5:=ZZq.h5;have qf0:=ZZq.fz 0;have qf1:=ZZq.fz 1;have qf2:=ZZq.fz 2;have qf3:=ZZq.fz 3;have qf4:=ZZq.fz 4;have qf5:=ZZq.fz 5)))
    all_goals first
      | (have hlo:32≤l.length:=(by omega);refine bodyPost_ret (by simp [results,Tryz.results199,go_sem,q0,q1,q2,q3,q4,q5];try rfl) rfl ?_;exact PrPost.ok (gt_set6 GGq (Nat.le_refl _) _ _ _ _ _ _) (HRo.out hlo (.inl hn0)) (by unfold okK okKs;rw [hn0,hn1];simp) (HD1.out _ _) (HWq.out.put6 HQ0.out _ _ _ _ _ _))
      | (have hlo:32≤l.length:=(by omega);refine bodyPost_ret (by simp [results,Tryz.results199,go_sem,q0,q1,q2,q3,q4,q5];try rfl) rfl ?_;exact PrPost.ok (gt_set6 GGq (Nat.le_refl _) _ _ _ _ _ _) (HRe.out hlo hn0 hn1) (by unfold okK okKs;simp) (HD0.out _ _) (HWq.out.put6 HQ0.out _ _ _ _ _ _))
      | (have hlo:32≤l.length:=(by omega);refine bodyPost_ret (by simp [results,Tryz.results199,go_sem,r40,r41,r42,r43,r44,r45];try rfl) rfl ?_;exact PrPost.bad (gt_set6 (gt_set_r GG4 _ _ (Nat.le_succ _)) (Nat.le_refl _) _ _ _ _ _ _) (fun t l' e=>by rw [HRo.out hlo (by simp [hn0,hn1])] at e;injection e with e1 e2;subst e1;unfold okK okKs;rw [hn0,hn1];rfl))
      | (have hlb:l.length<32:=(by omega);refine bodyPost_ret (by simp [results,Tryz.results199,go_sem,r10,r11,r12,r13,r14,r15];try rfl) rfl ?_;exact PrPost.bad (gt_set6 (gt_set_r GG1 _ _ (Nat.le_succ _)) (Nat.le_refl _) _ _ _ _ _ _) (HRb.out hlb))
      | (have hlb:l.length<32:=(by omega);refine bodyPost_ret (by simp [results,Tryz.results199,go_sem,r20,r21,r22,r23,r24,r25];try rfl) rfl ?_;exact PrPost.bad (gt_set6 (gt_set_r GG2 _ _ (Nat.le_succ _)) (Nat.le_refl _) _ _ _ _ _ _) (HRb.out hlb))
      | (have hlb:l.length<32:=(by omega);refine bodyPost_ret (by simp [results,Tryz.results199,go_sem,r30,r31,r32,r33,r34,r35];try rfl) rfl ?_;exact PrPost.bad (gt_set6 (gt_set_r GG3 _ _ (Nat.le_succ _)) (Nat.le_refl _) _ _ _ _ _ _) (HRb.out hlb))
      | (have hlb:l.length<32:=(by omega);refine bodyPost_ret (by simp [results,Tryz.results199,go_sem,r40,r41,r42,r43,r44,r45];try rfl) rfl ?_;exact PrPost.bad (gt_set6 (gt_set_r GG4 _ _ (Nat.le_succ _)) (Nat.le_refl _) _ _ _ _ _ _) (HRb.out hlb))
end
end Go.Proofs.YtlpaecafpbbbkaaGreatDoor
