/- Which shapes of any kind the laws take: formed, within 1000. -/
import Derived.Test.YtlpaecafpbbbkaaGreatDoorRCT6
set_option linter.unusedVariables false
set_option linter.unusedSimpArgs false
set_option maxRecDepth 100000
set_option maxHeartbeats 24000000
namespace Go.Proofs.YtlpaecafpbbbkaaGreatDoor
section
open Go.Joins Go.ChangeShapes Go.WideShapes Go.RowKit Go.Deep Go.ChangeAt
def inM (u:Int × Int):Bool:=!(decide (min u.1 u.2 < -1000)||decide (1000<max u.1 u.2))
def goodK (k kk:Int):Bool:=decide (k=0)||((decide (k=3)&&decide (kk=2))||(decide (3<k)&&decide (kk=wrap64 (k - 3))))
mutual
def fmB:Shp→Int→Bool
  | .mk k pts kids,dp=>!decide (dp<0)&&(pts.all inM&&(if k=1∨k=2 then decide (kids.length=0)&&(decide (k=2)||decide (pts.length≤1)) else fmBs k kids (dp - 1)&&((decide (0≤k)&&decide (k≤6))&&decide (pts.length=0))))
def fmBs (k:Int):List Shp→Int→Bool
  | [],_=>true
  | t::ts,dp=>(goodK k (kindS t)&&fmB t dp)&&fmBs k ts dp
end
theorem fmBs_false {k dp:Int} : ∀ {ts:List Shp} {i:Nat} {t:Shp},ts[i]?=some t→(goodK k (kindS t)&&fmB t dp)=false→fmBs k ts dp=false
  | [],_,_,h,_=>by simp at h
  | s::ts,0,t,h,hb=>by simp at h;subst h;unfold fmBs;rw [hb];rfl
  | s::ts,i+1,t,h,hb=>by unfold fmBs;rw [fmBs_false (i:=i) (by simpa using h) hb,Bool.and_false]
theorem fmBs_true {k dp:Int} : ∀ {ts:List Shp},(∀ (i:Nat) (t:Shp),ts[i]?=some t→(goodK k (kindS t)&&fmB t dp)=true)→fmBs k ts dp=true
  | [],_=>by unfold fmBs;rfl
  | s::ts,h=>by
    unfold fmBs
    rw [h 0 s rfl,fmBs_true fun i t hi=>h (i+1) t (by simpa using hi)];rfl
theorem allM_out {pts:List (Int × Int)} (j:Nat) (u:Int × Int) (hj:pts[j]?=some u) (h:min u.1 u.2 < -1000∨1000<max u.1 u.2):pts.all inM=false:=by
  rw [List.all_eq_false]
  refine ⟨u,List.mem_of_getElem? hj,?_⟩
  unfold inM
  rcases h with h | h <;> simp [h]
theorem allM_in {pts:List (Int × Int)} (h:∀ (j:Nat) (u:Int × Int),j<pts.length→pts[j]?=some u→inM u=true):pts.all inM=true:=by
  rw [List.all_eq_true]
  intro u hu
  obtain ⟨j,hj⟩:=List.getElem?_of_mem hu
  exact h j u (List.getElem?_eq_some_iff.1 hj).1 hj
theorem inM_of {u:Int × Int} (h1:¬ min u.1 u.2 < -1000) (h2:¬ 1000<max u.1 u.2):inM u=true:=by
  unfold inM;rw [decide_eq_false h1,decide_eq_false h2];rfl
theorem goodK_cases (k kk:Int):(goodK k kk=true∧((k==0)=true∨((k==0)=false∧(k==3)=true∧(kk==2)=true)∨((k==0)=false∧(k==3)=false∧3<k∧(kk==wrap64 (k - 3))=true))) ∨
    (goodK k kk=false∧(((k==0)=false∧(k==3)=true∧(kk==2)=false∧¬ 3<k)∨((k==0)=false∧(k==3)=false∧3<k∧(kk==wrap64 (k - 3))=false)∨((k==0)=false∧(k==3)=false∧¬ 3<k))):=by
  unfold goodK
  simp only [beq_iff_eq,beq_eq_false_iff_ne,ne_eq]
  by_cases h0:k=0
  · simp [h0]
  · by_cases h3:k=3
    · subst h3
      by_cases h2:kk=2 <;> simp [h2]
    · by_cases h4:3<k
      · by_cases h5:kk=wrap64 (k - 3) <;> simp [h0,h3,h4,h5]
      · simp [h0,h3,h4]
theorem formed_succ (h:Nat) (ih:∀ (W:World) (v:Value) (t:Shp) (dp:Int),-1≤dp→dp≤100→KS h W v t→Calls Tryz.prog 27 #[v,.int .i64 1000,.int .i64 dp] W (EPost W (fmB t dp))) (W:World) (v:Value) (k:Int) (pts:List (Int × Int)) (kids:List Shp) (dp:Int) (hd1:-1≤dp) (hd2:dp≤100) (hk:KS (h+1) W v (.mk k pts kids)) :
    Calls Tryz.prog 27 #[v,.int .i64 1000,.int .i64 dp] W (EPost W (fmB (.mk k pts kids) dp)):=by
  obtain ⟨p,cap,q,c2,rfl,hpr,hkl,hkm,hkn,hkids⟩:=hk
  have hpl:=hpr.le
  have hpm:=hpr.most
  have hd3:IntKind.i64.wrap (dp - 1)=dp - 1:=by rw [IntKind.wrap_i64];omega
  have HPt:Hid (∀ w,W.grownBy w none→∀ j,j<pts.length→∃ (a:Addr) (u:Int × Int),p=some a∧pts[j]?=some u∧w.cell? (a.add (j*2))=some (.int .i64 u.1)∧w.cell? ⟨(a.add (j*2)).block,(a.add (j*2)).off+1,none⟩=some (.int .i64 u.2)):=fun w g j hj=>by
    obtain ⟨a,ha⟩:=hpr.some_ (by omega)
    have hi:pts[j]?=some (pts[j]'hj):=List.getElem?_eq_getElem hj
    obtain ⟨q0,q1⟩:=(hpr.mono g).at_ a ha j _ hi
    exact ⟨a,_,ha,hi,q0,q1⟩
  have HKd:Hid (∀ w,W.grownBy w none→¬ dp<0→∀ j,j<kids.length→∃ (a:Addr) (t:Shp) (k1:Int) (p1:Option Addr) (n1 cap1:Nat) (q1:Option Addr) (m1 cq1:Nat),q=some a∧kids[j]?=some t∧w.cell? (a.add (j*3))=some (.int .i64 k1)∧w.cell? ⟨(a.add (j*3)).block,(a.add (j*3)).off+1,none⟩=some (.slice p1 n1 cap1)∧w.cell? ⟨(a.add (j*3)).block,(a.add (j*3)).off+2,none⟩=some (.slice q1 m1 cq1) ∧
      k1=kindS t∧∀ w',w.grownBy w' none→Calls Tryz.prog 27 #[.agg #[.int .i64 k1,.slice p1 n1 cap1,.slice q1 m1 cq1],.int .i64 1000,.int .i64 (dp - 1)] w' (EPost w' (fmB t (dp - 1)))):=fun w g hd j hj=>by
    obtain ⟨a,t,k1,p1,n1,cap1,q1,m1,cq1,h1,h2,h3,h4,h5,h6,h7,h8⟩:=KS.kid hkl hkn hkids g hj
    exact ⟨a,t,k1,p1,n1,cap1,q1,m1,cq1,h1,h2,h3,h4,h5,h6,fun w' g'=>ih w' _ _ _ (by omega) (by omega) (h8 w' g')⟩
  have HB:Hid (∀ w,(W.alloc (.cells #[.int .i64 k,.slice p pts.length cap,.slice q kids.length c2] 25)).grownBy w none→w.cell? ⟨W.heap.size,0,none⟩=some (.int .i64 k)∧w.cell? ⟨W.heap.size,1,none⟩=some (.slice p pts.length cap)∧w.cell? ⟨W.heap.size,2,none⟩=some (.slice q kids.length c2)):=fun w g=>⟨g.cell (by simp) (by simp),g.cell (by simp) (by simp),g.cell (by simp) (by simp)⟩
  have HG:=Lib.hid (World.grownBy_alloc W (.cells #[.int .i64 k,.slice p pts.length cap,.slice q kids.length c2] 25) none)
  have hN9:pts.length≤9223372036854775807:=by unfold maxLen at hpm;omega
  have hM9:kids.length≤9223372036854775807:=by unfold maxLen at hkm;omega
  have HNeg:Hid (dp<0→fmB (.mk k pts kids) dp=false):=fun h=>by unfold fmB;rw [decide_eq_true h];rfl
  have HOut:Hid (∀ (j:Nat) (u:Int × Int),pts[j]?=some u→(min u.1 u.2 < -1000∨1000<max u.1 u.2)→fmB (.mk k pts kids) dp=false):=fun j u hj h=>by
    unfold fmB;rw [allM_out j u hj h];simp
  have HLeaf:Hid (¬ dp<0→(k=1∨k=2)→(∀ (j:Nat) (u:Int × Int),j<pts.length→pts[j]?=some u→inM u=true)→fmB (.mk k pts kids) dp=(decide (kids.length=0)&&(decide (k=2)||decide (pts.length≤1)))):=fun h0 h1 h2=>by
    unfold fmB;rw [decide_eq_false h0,allM_in h2,if_pos h1];rfl
  have HBadK:Hid (¬ (k=1∨k=2)→∀ (j:Nat) (t:Shp),kids[j]?=some t→(goodK k (kindS t)&&fmB t (dp - 1))=false→fmB (.mk k pts kids) dp=false):=fun h1 j t hj hb=>by
    unfold fmB;rw [if_neg h1,fmBs_false hj hb];simp
  have HEnd:Hid (¬ dp<0→¬ (k=1∨k=2)→(∀ (j:Nat) (u:Int × Int),j<pts.length→pts[j]?=some u→inM u=true)→(∀ (j:Nat) (t:Shp),j<kids.length→kids[j]?=some t→(goodK k (kindS t)&&fmB t (dp - 1))=true)→fmB (.mk k pts kids) dp=((decide (0≤k)&&decide (k≤6))&&decide (pts.length=0))):=fun h0 h1 h2 h3=>by
    unfold fmB;rw [decide_eq_false h0,allM_in h2,if_neg h1,fmBs_true fun i t hi=>h3 i t (List.getElem?_eq_some_iff.1 hi).1 hi];rfl
  generalize fmB (.mk k pts kids) dp=GD at HNeg HOut HLeaf HBadK HEnd ⊢
  generalize pts.length=N at HPt HB HG HLeaf HEnd hN9 ⊢
  generalize hM:kids.length=M at HKd HB HG HLeaf HEnd hM9 ⊢
  clear ih hpr hkl hkm hkn hkids hpl hpm hM
  by_cases hd0:dp<0
  · obtain rfl:=HNeg.out hd0
    go_enter Tryz.func27,Tryz.ntmps27
    go_wp2_with fail
    go_ret
    exact ⟨rfl,HG.out⟩
  have HD0:Hid (¬ dp<0):=hd0
  go_enter Tryz.func27,Tryz.ntmps27
  go_wp2_with fail
  go_loopw [17] (fun i wr=>∃ j:Nat,j≤N∧i=.int .i64 j∧(W.alloc (.cells #[.int .i64 k,.slice p N cap,.slice q M c2] 25)).grownBy wr none∧∀ (i:Nat) (u:Int × Int),i<j→pts[i]?=some u→inM u=true) (fun i _=>N - (intOf i).toNat)
  case atStart=>exact ⟨0,by omega,rfl,gt_refl _ _,fun i u h=>absurd h (by omega)⟩
  case round =>
    obtain ⟨j,hj,rfl,Gr,hin⟩:=hrel
    rename World=>wr
    have HIn:=Lib.hid hin
    clear hin
    have Gw:=gt_trans HG.out Gr (.inl rfl)
    by_cases hjN:j<N
    · obtain ⟨a,⟨ux,uy⟩,rfl,hpj,q0,q1⟩:=HPt.out wr Gw j hjN
      have HPj:=Lib.hid hpj
      clear hpj
      by_cases c1:min ux uy < -1000
      · obtain rfl:GD=false:=HOut.out j _ HPj.out (.inl c1)
        go_wp2_with fail
        all_goals (go_ret;exact ⟨rfl,gt_trans Gw (World.grownBy_alloc _ _ _) (.inl rfl)⟩)
      · by_cases c2:(1000:Int)<max ux uy
        · obtain rfl:GD=false:=HOut.out j _ HPj.out (.inr c2)
          go_wp2_with fail
          all_goals (go_ret;exact ⟨rfl,gt_trans Gw (World.grownBy_alloc _ _ _) (.inl rfl)⟩)
        · have HI1:=Lib.hid (inM_of (u:=(ux,uy)) c1 c2)
          go_wp2_with fail
          all_goals
            refine ⟨⟨j+1,by omega,by go_num,gt_trans Gr (World.grownBy_alloc _ _ _) (.inl rfl),fun i u hi hu=>?_⟩,by simp [intOf];omega⟩
            by_cases hij:i<j
            · exact HIn.out i u hij hu
            · obtain rfl:i=j:=by omega
              rw [HPj.out] at hu
              injection hu with hu
              rw [←hu]
              exact HI1.out
    · obtain rfl:j=N:=by omega
      obtain ⟨b0,b1,b2⟩:=HB.out _ Gr
      by_cases hlf:k=1∨k=2
      · have HL:=Lib.hid (HLeaf.out HD0.out hlf HIn.out)
        by_cases hM0:M=0
        · have hMb:((M:Int)==0)=true:=by rw [hM0];rfl
          rcases hlf with rfl | rfl
          · by_cases hN1:(j:Int)≤1
            · obtain rfl:GD=true:=by rw [HL.out,decide_eq_true hM0,decide_eq_true (by omega:j≤1)];rfl
              go_wp2_with fail
              go_wp2_with fail
              go_ret
              exact ⟨rfl,Gw⟩
            · obtain rfl:GD=false:=by rw [HL.out,decide_eq_false (by omega:¬ j≤1)];simp
              go_wp2_with fail
              go_wp2_with fail
              go_ret
              exact ⟨rfl,Gw⟩
          · obtain rfl:GD=true:=by rw [HL.out,decide_eq_true hM0];rfl
            go_wp2_with fail
            go_wp2_with fail
            go_ret
            exact ⟨rfl,Gw⟩
        · have hMb:((M:Int)==0)=false:=by rw [beq_eq_false_iff_ne];omega
          obtain rfl:GD=false:=by rw [HL.out,decide_eq_false hM0];rfl
          rcases hlf with rfl | rfl
          all_goals
            go_wp2_with fail
            go_wp2_with fail
            go_ret
            exact ⟨rfl,Gw⟩
      · have hb1:(k==1)=false:=by rw [beq_eq_false_iff_ne];exact fun e=>hlf (.inl e)
        have hb2:(k==2)=false:=by rw [beq_eq_false_iff_ne];exact fun e=>hlf (.inr e)
        have HLf:=Lib.hid hlf
        clear hlf
        go_wp2_with fail
        go_wp2_with fail
        clear b0 b1 b2
        go_loopw [65] (fun i w2=>∃ l:Nat,l≤M∧i=.int .i64 l∧(W.alloc (.cells #[.int .i64 k,.slice p j cap,.slice q M c2] 25)).grownBy w2 none∧∀ i t,i<l→kids[i]?=some t→(goodK k (kindS t)&&fmB t (dp - 1))=true) (fun i _=>M - (intOf i).toNat)
        case atStart=>exact ⟨0,by omega,rfl,Gr,fun i t h=>absurd h (by omega)⟩
        case round =>
          clear Gr Gw
          obtain ⟨l,hl,rfl,Gr,hgd⟩:=hrel
          rename World=>w2
          have HGd:=Lib.hid hgd
          clear hgd
          have Gw:=gt_trans HG.out Gr (.inl rfl)
          obtain ⟨b0,b1,b2⟩:=HB.out _ Gr
          have hz:W.heap.size<w2.heap.size:=by have:=Gr.size;simp at this;omega
          by_cases hlM:l<M
          · obtain ⟨a,t,k1,p1,n1,cap1,q1',m1,cq1,rfl,hti,q0,q1,q2,hkt,hf⟩:=HKd.out w2 Gw HD0.out l hlM
            have HF:=Lib.hid hf
            have HT:=Lib.hid hti
            have HBK:=Lib.hid (HBadK.out HLf.out l t hti)
            have HGk:=Lib.hid (goodK_cases k k1)
            rw [←hkt] at HBK
            have HKt:=Lib.hid hkt
            clear hf hti hkt
            generalize hfm:fmB t (dp - 1)=fb at HF HBK
            have HFm:=Lib.hid hfm
            clear hfm
            rcases HGk.out with ⟨hg,hc⟩ | ⟨hg,hc⟩
            · rw [hg] at HBK
              have HGo:=Lib.hid hg
              clear hg HGk
              cases fb
              · obtain rfl:GD=false:=HBK.out rfl
                rcases hc with e0 | ⟨e0,e3,e2⟩ | ⟨e0,e3,e4,e5⟩
                all_goals
                  go_wp2_with (first
                    | (go_at_call 27;(with_reducible refine (HF.out _ ?_).mono ?_);exact World.grownBy_alloc _ _ _;rintro e w3 ⟨rfl,hg3⟩))
                  go_ret
                  exact ⟨rfl,gt_trans (gt_trans Gw (World.grownBy_alloc _ _ _) (.inl rfl)) hg3 (.inl rfl)⟩
              · rcases hc with e0 | ⟨e0,e3,e2⟩ | ⟨e0,e3,e4,e5⟩
                all_goals
                  go_wp2_with (first
                    | (go_at_call 27;(with_reducible refine (HF.out _ ?_).mono ?_);exact World.grownBy_alloc _ _ _;rintro e w3 ⟨rfl,hg3⟩))
                  refine ⟨⟨l+1,by omega,by go_num,gt_trans (gt_trans Gr (World.grownBy_alloc _ _ _) (.inl rfl)) hg3 (.inl rfl),fun i t' hi ht'=>?_⟩,by simp [intOf];omega⟩
                  by_cases hil:i<l
                  · exact HGd.out i t' hil ht'
                  · obtain rfl:i=l:=by omega
                    rw [HT.out] at ht'
                    injection ht' with ht'
                    subst ht'
                    rw [←HKt.out,HGo.out,HFm.out];rfl
            · rw [hg] at HBK
              obtain rfl:GD=false:=HBK.out rfl
              clear hg HGk
              rcases hc with ⟨e0,e3,e2,e4⟩ | ⟨e0,e3,e4,e5⟩ | ⟨e0,e3,e4⟩
              all_goals
                go_wp2_with fail
                go_ret
                exact ⟨rfl,gt_trans Gw (World.grownBy_alloc _ _ _) (.inl rfl)⟩
          · obtain rfl:l=M:=by omega
            have HE:=Lib.hid (HEnd.out HD0.out HLf.out HIn.out HGd.out)
            by_cases hk0:0≤k
            · by_cases hk6:k≤6
              · by_cases hN:j=0
                · have hNb:((j:Int)==0)=true:=by rw [hN];rfl
                  obtain rfl:GD=true:=by rw [HE.out,decide_eq_true hk0,decide_eq_true hk6,decide_eq_true hN];rfl
                  go_wp2_with fail
                  go_wp2_with fail
                  go_ret
                  exact ⟨rfl,Gw⟩
                · have hNb:((j:Int)==0)=false:=by rw [beq_eq_false_iff_ne];omega
                  obtain rfl:GD=false:=by rw [HE.out,decide_eq_false hN];simp
                  go_wp2_with fail
                  go_wp2_with fail
                  go_ret
                  exact ⟨rfl,Gw⟩
              · obtain rfl:GD=false:=by rw [HE.out,decide_eq_false hk6];simp
                go_wp2_with fail
                go_wp2_with fail
                go_ret
                exact ⟨rfl,Gw⟩
            · obtain rfl:GD=false:=by rw [HE.out,decide_eq_false hk0];rfl
              go_wp2_with fail
              go_wp2_with fail
              go_ret
              exact ⟨rfl,Gw⟩
theorem formedB_any:∀ (h:Nat) (W:World) (v:Value) (t:Shp) (dp:Int),-1≤dp→dp≤100→KS h W v t→Calls Tryz.prog 27 #[v,.int .i64 1000,.int .i64 dp] W (EPost W (fmB t dp))
  | 0,_,_,_,_,_,_,hk=>hk.elim
  | h+1,W,v,.mk k pts kids,dp,h1,h2,hk=>formed_succ h (formedB_any h) W v k pts kids dp h1 h2 hk
end
end Go.Proofs.YtlpaecafpbbbkaaGreatDoor
