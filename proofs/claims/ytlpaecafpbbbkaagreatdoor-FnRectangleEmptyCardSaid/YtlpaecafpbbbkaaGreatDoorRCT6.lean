/- The questions of size, with what they tell of the tree. Which shapes the laws take: formed, size, of points and several points. Which shapes have no place, or a polygon's empty ring: the reference's Empty, emptyRing, and sizes. -/
import Derived.Test.YtlpaecafpbbbkaaGreatDoorRCT1
import Derived.Test.YtlpaecafpbbbkaaGreatDoorRCT5
set_option linter.unusedVariables false
set_option linter.unusedSimpArgs false
set_option maxRecDepth 100000
set_option maxHeartbeats 24000000
namespace Go.Proofs.YtlpaecafpbbbkaaGreatDoor
section
open Go.RowKit
theorem ret_bool {a b:Bool} (h:a=b):Ending.returned (.bool a)=.returned (.bool b):=by rw [h]
end
section
open Go.Joins Go.ChangeShapes Go.WideShapes Go.RowKit Go.Deep Go.ChangeAt
def EPost (W:World) (b:Bool) (e:Ending) (w':World):Prop:=e=.returned (.bool b)∧W.grownBy w' none
def kindS:Shp→Int
  | .mk k _ _=>k
theorem zzFits1_any (k:Int) (p q:Option Addr) (n cap m c:Nat) (W:World):Calls Tryz.prog 8 #[.agg #[.int .i64 k,.slice p n cap,.slice q m c]] W (EPost W (decide (n≤2147483647)&&decide (m≤2147483647))):=by
  by_cases h1:(2147483647:Int)<(n:Int)
  · go_enter Tryz.func8,Tryz.ntmps8
    go_wp2_with fail
    go_ret
    exact ⟨ret_bool (by rw [decide_eq_false (show ¬ n≤2147483647 by omega)];rfl),World.grownBy_alloc _ _ _⟩
  · by_cases h2:(2147483647:Int)<(m:Int)
    · go_enter Tryz.func8,Tryz.ntmps8
      go_wp2_with fail
      go_ret
      exact ⟨ret_bool (by rw [decide_eq_false (show ¬ m≤2147483647 by omega),Bool.and_false]),World.grownBy_alloc _ _ _⟩
    · go_enter Tryz.func8,Tryz.ntmps8
      go_wp2_with fail
      go_ret
      exact ⟨ret_bool (by rw [decide_eq_true (show n≤2147483647 by omega),decide_eq_true (show m≤2147483647 by omega)];rfl),World.grownBy_alloc _ _ _⟩
end
section
open Go.Joins Go.ChangeShapes Go.WideShapes Go.RowKit Go.Deep Go.ChangeAt
mutual
def emB:Shp→Bool
  | .mk _ pts kids=>emBs kids&&decide (pts.length=0)
def emBs:List Shp→Bool
  | []=>true
  | t::ts=>emB t&&emBs ts
end
def ptsS:Shp→Nat
  | .mk _ pts _=>pts.length
mutual
def erB:Shp→Bool
  | .mk k _ kids=>erBs k kids
def erBs (k:Int):List Shp→Bool
  | []=>false
  | t::ts=>((decide (k=3)&&decide (ptsS t=0))||erB t)||erBs k ts
end
theorem emBs_false:∀ {ts:List Shp} {i:Nat} {t:Shp},ts[i]?=some t→emB t=false→emBs ts=false
  | [],_,_,h,_=>by simp at h
  | s::ts,0,t,h,hb=>by simp at h;subst h;unfold emBs;rw [hb];rfl
  | s::ts,i+1,t,h,hb=>by unfold emBs;rw [emBs_false (i:=i) (by simpa using h) hb,Bool.and_false]
theorem emBs_true:∀ {ts:List Shp},(∀ (i:Nat) (t:Shp),ts[i]?=some t→emB t=true)→emBs ts=true
  | [],_=>by unfold emBs;rfl
  | s::ts,h=>by
    unfold emBs
    rw [h 0 s rfl,emBs_true fun i t hi=>h (i+1) t (by simpa using hi)];rfl
theorem erBs_true {k:Int} : ∀ {ts:List Shp} {i:Nat} {t:Shp},ts[i]?=some t→((decide (k=3)&&decide (ptsS t=0))||erB t)=true→erBs k ts=true
  | [],_,_,h,_=>by simp at h
  | s::ts,0,t,h,hb=>by simp at h;subst h;unfold erBs;rw [hb];rfl
  | s::ts,i+1,t,h,hb=>by unfold erBs;rw [erBs_true (i:=i) (by simpa using h) hb,Bool.or_true]
theorem erBs_false {k:Int} : ∀ {ts:List Shp},(∀ (i:Nat) (t:Shp),ts[i]?=some t→((decide (k=3)&&decide (ptsS t=0))||erB t)=false)→erBs k ts=false
  | [],_=>by unfold erBs;rfl
  | s::ts,h=>by
    unfold erBs
    rw [h 0 s rfl,erBs_false fun i t hi=>h (i+1) t (by simpa using hi)];rfl
theorem KS.kid {h:Nat} {W:World} {q:Option Addr} {kids:List Shp} {c2:Nat} (hkl:kids.length≤c2) (hkn:q=none→c2=0)
    (hkids:∀ a,q=some a→∀ i t,kids[i]?=some t→∃ c0 c1 c2,KS h W (.agg #[c0,c1,c2]) t∧W.cell? (a.add (i*3))=some c0∧W.cell? ⟨(a.add (i*3)).block,(a.add (i*3)).off+1,none⟩=some c1∧W.cell? ⟨(a.add (i*3)).block,(a.add (i*3)).off+2,none⟩=some c2)
    {w:World} (g:W.grownBy w none) {j:Nat} (hj:j<kids.length):∃ (a:Addr) (t:Shp) (k1:Int) (p1:Option Addr) (n1 cap1:Nat) (q1:Option Addr) (m1 cq1:Nat),q=some a∧kids[j]?=some t∧w.cell? (a.add (j*3))=some (.int .i64 k1)∧w.cell? ⟨(a.add (j*3)).block,(a.add (j*3)).off+1,none⟩=some (.slice p1 n1 cap1)∧w.cell? ⟨(a.add (j*3)).block,(a.add (j*3)).off+2,none⟩=some (.slice q1 m1 cq1) ∧
      k1=kindS t∧n1=ptsS t∧∀ w',w.grownBy w' none→KS h w' (.agg #[.int .i64 k1,.slice p1 n1 cap1,.slice q1 m1 cq1]) t:=by
  obtain ⟨a,ha⟩ : ∃ a,q=some a:=by
    cases q with
    | none=>have:=hkn rfl;omega
    | some a=>exact ⟨a,rfl⟩
  have hi:kids[j]?=some (kids[j]'hj):=List.getElem?_eq_getElem hj
  obtain ⟨c0,c1,c2,k0,q0,q1,q2⟩:=hkids a ha j _ hi
  obtain ⟨k1,pts1,kids1,p1,cap1,q1',cq1,ht,rfl,rfl,rfl⟩:=k0.form3
  exact ⟨a,_,k1,p1,_,cap1,q1',_,cq1,ha,hi,g.cell q0 (by simp),g.cell q1 (by simp),g.cell q2 (by simp),by rw [ht];rfl,by rw [ht];rfl,fun w' g'=>(k0.mono g).mono g'⟩
theorem empty_succ (h:Nat) (ih:∀ (W:World) (v:Value) (t:Shp),KS h W v t→Calls Tryz.prog 23 #[v] W (EPost W (emB t))) (W:World) (v:Value) (k:Int) (pts:List (Int × Int)) (kids:List Shp) (hk:KS (h+1) W v (.mk k pts kids)):Calls Tryz.prog 23 #[v] W (EPost W (emB (.mk k pts kids))):=by
  obtain ⟨p,cap,q,c2,rfl,hpr,hkl,hkm,hkn,hkids⟩:=hk
  have HKd:Hid (∀ w,W.grownBy w none→∀ j,j<kids.length→∃ (a:Addr) (t:Shp) (k1:Int) (p1:Option Addr) (n1 cap1:Nat) (q1:Option Addr) (m1 cq1:Nat),q=some a∧kids[j]?=some t∧w.cell? (a.add (j*3))=some (.int .i64 k1)∧w.cell? ⟨(a.add (j*3)).block,(a.add (j*3)).off+1,none⟩=some (.slice p1 n1 cap1)∧w.cell? ⟨(a.add (j*3)).block,(a.add (j*3)).off+2,none⟩=some (.slice q1 m1 cq1) ∧
      k1=kindS t∧n1=ptsS t∧∀ w',w.grownBy w' none→Calls Tryz.prog 23 #[.agg #[.int .i64 k1,.slice p1 n1 cap1,.slice q1 m1 cq1]] w' (EPost w' (emB t))):=fun w g j hj=>by
    obtain ⟨a,t,k1,p1,n1,cap1,q1,m1,cq1,h1,h2,h3,h4,h5,h6,h7,h8⟩:=KS.kid hkl hkn hkids g hj
    exact ⟨a,t,k1,p1,n1,cap1,q1,m1,cq1,h1,h2,h3,h4,h5,h6,h7,fun w' g'=>ih w' _ _ (h8 w' g')⟩
  have HB:Hid (∀ w,(W.alloc (.cells #[.int .i64 k,.slice p pts.length cap,.slice q kids.length c2] 25)).grownBy w none→w.cell? ⟨W.heap.size,1,none⟩=some (.slice p pts.length cap)):=fun w g=>g.cell (by simp) (by simp)
  have HG:=Lib.hid (World.grownBy_alloc W (.cells #[.int .i64 k,.slice p pts.length cap,.slice q kids.length c2] 25) none)
  have hM9:kids.length≤9223372036854775807:=by unfold maxLen at hkm;omega
  have HBad:Hid (∀ (j:Nat) (t:Shp),kids[j]?=some t→emB t=false→emB (.mk k pts kids)=false):=fun j t hj hb=>by
    unfold emB;rw [emBs_false hj hb];rfl
  have HEnd:Hid ((∀ (j:Nat) (t:Shp),j<kids.length→kids[j]?=some t→emB t=true)→emB (.mk k pts kids)=decide (pts.length=0)):=fun hh=>by
    unfold emB
    rw [emBs_true fun i t hi=>hh i t (List.getElem?_eq_some_iff.1 hi).1 hi];rfl
  generalize emB (.mk k pts kids)=GD at HBad HEnd ⊢
  generalize pts.length=N at HB HG HEnd ⊢
  generalize hM:kids.length=M at HKd HB HG HEnd hM9 ⊢
  clear ih hpr hkl hkm hkn hkids hM
  go_enter Tryz.func23,Tryz.ntmps23
  go_wp2_with fail
  go_loopw [8] (fun i w2=>∃ l:Nat,l≤M∧i=.int .i64 l∧(W.alloc (.cells #[.int .i64 k,.slice p N cap,.slice q M c2] 25)).grownBy w2 none∧∀ i t,i<l→kids[i]?=some t→emB t=true) (fun i _=>M - (intOf i).toNat)
  case atStart=>exact ⟨0,by omega,rfl,gt_refl _ _,fun i t h=>absurd h (by omega)⟩
  case round =>
    obtain ⟨l,hl,rfl,Gr,hgd⟩:=hrel
    rename World=>w2
    have HGd:=Lib.hid hgd
    clear hgd
    have Gw:=gt_trans HG.out Gr (.inl rfl)
    have b1:=HB.out _ Gr
    have hz:W.heap.size<w2.heap.size:=by have:=Gr.size;simp at this;omega
    by_cases hlM:l<M
    · obtain ⟨a,t,k1,p1,n1,cap1,q1',m1,cq1,rfl,hti,q0,q1,q2,hk1,hn1,hf⟩:=HKd.out w2 Gw l hlM
      have HF:=Lib.hid hf
      have HT:=Lib.hid hti
      have HBK:=Lib.hid (HBad.out l t hti)
      generalize hfm:emB t=fb at HF HBK
      cases fb
      · obtain rfl:GD=false:=HBK.out rfl
        clear hf hti hfm hk1 hn1
        go_wp2_with (first
          | (go_at_call 23;(with_reducible refine (HF.out _ ?_).mono ?_);exact World.grownBy_alloc _ _ _;rintro e w3 ⟨rfl,hg3⟩))
        go_ret
        exact ⟨rfl,gt_trans (gt_trans Gw (World.grownBy_alloc _ _ _) (.inl rfl)) hg3 (.inl rfl)⟩
      · have HFm:=Lib.hid hfm
        clear hf hti hfm hk1 hn1
        go_wp2_with (first
          | (go_at_call 23;(with_reducible refine (HF.out _ ?_).mono ?_);exact World.grownBy_alloc _ _ _;rintro e w3 ⟨rfl,hg3⟩))
        refine ⟨⟨l+1,by omega,by go_num,gt_trans (gt_trans Gr (World.grownBy_alloc _ _ _) (.inl rfl)) hg3 (.inl rfl),fun i t' hi ht'=>?_⟩,by simp [intOf];omega⟩
        by_cases hil:i<l
        · exact HGd.out i t' hil ht'
        · obtain rfl:i=l:=by omega
          rw [HT.out] at ht'
          injection ht' with ht'
          subst ht'
          exact HFm.out
    · obtain rfl:l=M:=by omega
      have HE:=Lib.hid (HEnd.out HGd.out)
      by_cases hN:N=0
      · have hNb:((N:Int)==0)=true:=by rw [hN];rfl
        obtain rfl:GD=true:=by rw [HE.out];simp [hN]
        go_wp2_with fail
        go_wp2_with fail
        go_ret
        exact ⟨rfl,Gw⟩
      · have hNb:((N:Int)==0)=false:=by rw [beq_eq_false_iff_ne];omega
        obtain rfl:GD=false:=by rw [HE.out];simp [hN]
        go_wp2_with fail
        go_wp2_with fail
        go_ret
        exact ⟨rfl,Gw⟩
theorem empty_any:∀ (h:Nat) (W:World) (v:Value) (t:Shp),KS h W v t→Calls Tryz.prog 23 #[v] W (EPost W (emB t))
  | 0,_,_,_,hk=>hk.elim
  | h+1,W,v,.mk k pts kids,hk=>empty_succ h (empty_any h) W v k pts kids hk
theorem ring_succ (h:Nat) (ih:∀ (W:World) (v:Value) (t:Shp),KS h W v t→Calls Tryz.prog 24 #[v] W (EPost W (erB t))) (W:World) (v:Value) (k:Int) (pts:List (Int × Int)) (kids:List Shp) (hk:KS (h+1) W v (.mk k pts kids)):Calls Tryz.prog 24 #[v] W (EPost W (erB (.mk k pts kids))):=by
  obtain ⟨p,cap,q,c2,rfl,hpr,hkl,hkm,hkn,hkids⟩:=hk
  have HKd:Hid (∀ w,W.grownBy w none→∀ j,j<kids.length→∃ (a:Addr) (t:Shp) (k1:Int) (p1:Option Addr) (n1 cap1:Nat) (q1:Option Addr) (m1 cq1:Nat),q=some a∧kids[j]?=some t∧w.cell? (a.add (j*3))=some (.int .i64 k1)∧w.cell? ⟨(a.add (j*3)).block,(a.add (j*3)).off+1,none⟩=some (.slice p1 n1 cap1)∧w.cell? ⟨(a.add (j*3)).block,(a.add (j*3)).off+2,none⟩=some (.slice q1 m1 cq1) ∧
      k1=kindS t∧n1=ptsS t∧∀ w',w.grownBy w' none→Calls Tryz.prog 24 #[.agg #[.int .i64 k1,.slice p1 n1 cap1,.slice q1 m1 cq1]] w' (EPost w' (erB t))):=fun w g j hj=>by
    obtain ⟨a,t,k1,p1,n1,cap1,q1,m1,cq1,h1,h2,h3,h4,h5,h6,h7,h8⟩:=KS.kid hkl hkn hkids g hj
    exact ⟨a,t,k1,p1,n1,cap1,q1,m1,cq1,h1,h2,h3,h4,h5,h6,h7,fun w' g'=>ih w' _ _ (h8 w' g')⟩
  have HB:Hid (∀ w,(W.alloc (.cells #[.int .i64 k,.slice p pts.length cap,.slice q kids.length c2] 25)).grownBy w none→w.cell? ⟨W.heap.size,0,none⟩=some (.int .i64 k)):=fun w g=>g.cell (by simp) (by simp)
  have HG:=Lib.hid (World.grownBy_alloc W (.cells #[.int .i64 k,.slice p pts.length cap,.slice q kids.length c2] 25) none)
  have hM9:kids.length≤9223372036854775807:=by unfold maxLen at hkm;omega
  have HBad:Hid (∀ (j:Nat) (t:Shp),kids[j]?=some t→((decide (k=3)&&decide (ptsS t=0))||erB t)=true→erB (.mk k pts kids)=true):=fun j t hj hb=>by
    unfold erB;exact erBs_true hj hb
  have HEnd:Hid ((∀ (j:Nat) (t:Shp),j<kids.length→kids[j]?=some t→((decide (k=3)&&decide (ptsS t=0))||erB t)=false)→erB (.mk k pts kids)=false):=fun hh=>by
    unfold erB
    exact erBs_false fun i t hi=>hh i t (List.getElem?_eq_some_iff.1 hi).1 hi
  generalize erB (.mk k pts kids)=GD at HBad HEnd ⊢
  generalize pts.length=N at HB HG ⊢
  generalize hM:kids.length=M at HKd HB HG HEnd hM9 ⊢
  clear ih hpr hkl hkm hkn hkids hM
  go_enter Tryz.func24,Tryz.ntmps24
  go_wp2_with fail
  go_loopw [8] (fun i w2=>∃ l:Nat,l≤M∧i=.int .i64 l∧(W.alloc (.cells #[.int .i64 k,.slice p N cap,.slice q M c2] 25)).grownBy w2 none∧∀ i t,i<l→kids[i]?=some t→((decide (k=3)&&decide (ptsS t=0))||erB t)=false) (fun i _=>M - (intOf i).toNat)
  case atStart=>exact ⟨0,by omega,rfl,gt_refl _ _,fun i t h=>absurd h (by omega)⟩
  case round =>
    obtain ⟨l,hl,rfl,Gr,hgd⟩:=hrel
    rename World=>w2
    have HGd:=Lib.hid hgd
    clear hgd
    have Gw:=gt_trans HG.out Gr (.inl rfl)
    have b0:=HB.out _ Gr
    have hz:W.heap.size<w2.heap.size:=by have:=Gr.size;simp at this;omega
    by_cases hlM:l<M
    · obtain ⟨a,t,k1,p1,n1,cap1,q1',m1,cq1,rfl,hti,q0,q1,q2,hk1,hn1,hf⟩:=HKd.out w2 Gw l hlM
      have HF:=Lib.hid hf
      have HT:=Lib.hid hti
      have HBK:=Lib.hid (HBad.out l t hti)
      by_cases hbad:k=3∧n1=0
      · obtain rfl:GD=true:=HBK.out (by rw [←hn1,decide_eq_true hbad.1,decide_eq_true hbad.2];rfl)
        have hkb:(k==3)=true:=by rw [hbad.1];rfl
        have hnb:((n1:Int)==0)=true:=by rw [hbad.2];rfl
        clear hf hti hk1 hn1 hbad
        go_wp2_with fail
        go_ret
        exact ⟨rfl,gt_trans Gw (World.grownBy_alloc _ _ _) (.inl rfl)⟩
      · have hNo:Hid ((decide (k=3)&&decide (ptsS t=0))=false):=by
          show _=false
          rw [←hn1,←Bool.decide_and]
          exact decide_eq_false hbad
        generalize hfm:erB t=fb at HF HBK
        have hkn:((k==3)=false)∨((k==3)=true∧((n1:Int)==0)=false):=by
          by_cases h3:k=3
          · exact .inr ⟨by rw [h3];rfl,by rw [beq_eq_false_iff_ne];intro h0;exact hbad ⟨h3,by omega⟩⟩
          · exact .inl (by rw [beq_eq_false_iff_ne];exact h3)
        cases fb
        · have HFm:=Lib.hid hfm
          clear hf hti hfm hk1 hn1 hbad
          rcases hkn with hkb | ⟨hkb,hnb⟩
          all_goals
            go_wp2_with (first
              | (go_at_call 24;(with_reducible refine (HF.out _ ?_).mono ?_);exact World.grownBy_alloc _ _ _;rintro e w3 ⟨rfl,hg3⟩))
            refine ⟨⟨l+1,by omega,by go_num,gt_trans (gt_trans Gr (World.grownBy_alloc _ _ _) (.inl rfl)) hg3 (.inl rfl),fun i t' hi ht'=>?_⟩,by simp [intOf];omega⟩
            by_cases hil:i<l
            · exact HGd.out i t' hil ht'
            · obtain rfl:i=l:=by omega
              rw [HT.out] at ht'
              injection ht' with ht'
              subst ht'
              rw [hNo.out,HFm.out];rfl
        · obtain rfl:GD=true:=HBK.out (by rw [Bool.or_true])
          clear hf hti hfm hk1 hn1 hbad
          rcases hkn with hkb | ⟨hkb,hnb⟩
          all_goals
            go_wp2_with (first
              | (go_at_call 24;(with_reducible refine (HF.out _ ?_).mono ?_);exact World.grownBy_alloc _ _ _;rintro e w3 ⟨rfl,hg3⟩))
            go_ret
            exact ⟨rfl,gt_trans (gt_trans Gw (World.grownBy_alloc _ _ _) (.inl rfl)) hg3 (.inl rfl)⟩
    · obtain rfl:l=M:=by omega
      obtain rfl:GD=false:=HEnd.out HGd.out
      go_wp2_with fail
      go_wp2_with fail
      go_ret
      exact ⟨rfl,Gw⟩
theorem ring_any:∀ (h:Nat) (W:World) (v:Value) (t:Shp),KS h W v t→Calls Tryz.prog 24 #[v] W (EPost W (erB t))
  | 0,_,_,_,hk=>hk.elim
  | h+1,W,v,.mk k pts kids,hk=>ring_succ h (ring_any h) W v k pts kids hk
mutual
def szI:Shp→Int→Int
  | .mk _ pts kids,dp=>if dp<0 then 1048576 else szIs kids (wrap64 (1+(pts.length:Int))) (dp - 1)
def szIs:List Shp→Int→Int→Int
  | [],x,_=>x
  | t::ts,x,dp=>szIs ts (wrap64 (x+szI t dp)) dp
end
theorem szIs_drop {kids:List Shp} {l:Nat} {t:Shp} (h:kids[l]?=some t) (x dp:Int):szIs (kids.drop l) x dp=szIs (kids.drop (l+1)) (wrap64 (x+szI t dp)) dp:=by
  obtain ⟨hl,rfl⟩:=List.getElem?_eq_some_iff.1 h
  rw [List.drop_eq_getElem_cons hl,szIs]
def SPostI (W:World) (n:Int) (e:Ending) (w':World):Prop:=e=.returned (.int .i64 n)∧W.grownBy w' none
theorem size_succ (h:Nat) (ih:∀ (W:World) (v:Value) (t:Shp) (dp:Int),-1≤dp→dp≤100→KS h W v t→Calls Tryz.prog 28 #[v,.int .i64 dp] W (SPostI W (szI t dp))) (W:World) (v:Value) (k:Int) (pts:List (Int × Int)) (kids:List Shp) (dp:Int) (hd1:-1≤dp) (hd2:dp≤100) (hk:KS (h+1) W v (.mk k pts kids)):Calls Tryz.prog 28 #[v,.int .i64 dp] W (SPostI W (szI (.mk k pts kids) dp)):=by
  obtain ⟨p,cap,q,c2,rfl,hpr,hkl,hkm,hkn,hkids⟩:=hk
  have hd3:IntKind.i64.wrap (dp - 1)=dp - 1:=by rw [IntKind.wrap_i64];omega
  have HKd:Hid (∀ w,W.grownBy w none→¬ dp<0→∀ j,j<kids.length→∃ (a:Addr) (t:Shp) (k1:Int) (p1:Option Addr) (n1 cap1:Nat) (q1:Option Addr) (m1 cq1:Nat),q=some a∧kids[j]?=some t∧w.cell? (a.add (j*3))=some (.int .i64 k1)∧w.cell? ⟨(a.add (j*3)).block,(a.add (j*3)).off+1,none⟩=some (.slice p1 n1 cap1)∧w.cell? ⟨(a.add (j*3)).block,(a.add (j*3)).off+2,none⟩=some (.slice q1 m1 cq1) ∧
      ∀ w',w.grownBy w' none→Calls Tryz.prog 28 #[.agg #[.int .i64 k1,.slice p1 n1 cap1,.slice q1 m1 cq1],.int .i64 (dp - 1)] w' (SPostI w' (szI t (dp - 1)))):=fun w g hd j hj=>by
    obtain ⟨a,t,k1,p1,n1,cap1,q1,m1,cq1,h1,h2,h3,h4,h5,h6,h7,h8⟩:=KS.kid hkl hkn hkids g hj
    exact ⟨a,t,k1,p1,n1,cap1,q1,m1,cq1,h1,h2,h3,h4,h5,fun w' g'=>ih w' _ _ _ (by omega) (by omega) (h8 w' g')⟩
  have HG:=Lib.hid (World.grownBy_alloc W (.cells #[.int .i64 k,.slice p pts.length cap,.slice q kids.length c2] 25) none)
  have hM9:kids.length≤9223372036854775807:=by unfold maxLen at hkm;omega
  have hneg:Hid (dp<0→szI (.mk k pts kids) dp=1048576):=fun h=>by unfold szI;rw [if_pos h]
  have hst:Hid (¬ dp<0→szIs (kids.drop 0) (wrap64 (1+(pts.length:Int))) (dp - 1)=szI (.mk k pts kids) dp):=fun h=>by rw [szI,if_neg h];rfl
  have hfin:Hid (∀ x,szIs (kids.drop kids.length) x (dp - 1)=x):=fun x=>by rw [List.drop_length,szIs]
  generalize szI (.mk k pts kids) dp=T at hneg hst ⊢
  generalize pts.length=N at HG hst ⊢
  generalize hM:kids.length=M at HKd HG hM9 hfin ⊢
  clear ih hpr hkl hkm hkn hkids hM
  by_cases hd0:dp<0
  · obtain rfl:=hneg.out hd0
    go_enter Tryz.func28,Tryz.ntmps28
    go_wp2_with fail
    go_ret
    exact ⟨rfl,HG.out⟩
  · have HS2:=Lib.hid (hst.out hd0)
    clear hst
    go_enter Tryz.func28,Tryz.ntmps28
    go_wp2_with fail
    go_loopw [5,17] (fun n i w2=>∃ (x:Int) (l:Nat),l≤M∧n=.int .i64 x∧i=.int .i64 l∧(W.alloc (.cells #[.int .i64 k,.slice p N cap,.slice q M c2] 25)).grownBy w2 none∧szIs (kids.drop l) x (dp - 1)=T) (fun _ i _=>M - (intOf i).toNat)
    case atStart=>exact ⟨_,0,by omega,rfl,rfl,gt_refl _ _,HS2.out⟩
    case round =>
      obtain ⟨x,l,hl,rfl,rfl,Gr,hx⟩:=hrel
      rename World=>w2
      have HX:=Lib.hid hx
      clear hx
      have Gw:=gt_trans HG.out Gr (.inl rfl)
      have hz:W.heap.size<w2.heap.size:=by have:=Gr.size;simp at this;omega
      by_cases hlM:l<M
      · obtain ⟨a,t,k1,p1,n1,cap1,q1',m1,cq1,rfl,hti,q0,q1,q2,hf⟩:=HKd.out w2 Gw hd0 l hlM
        have HF:=Lib.hid hf
        have HX1:=Lib.hid ((szIs_drop hti x (dp - 1)).symm.trans HX.out)
        clear hf hti
        go_wp2_with (first
          | (go_at_call 28;(with_reducible refine (HF.out _ ?_).mono ?_);exact World.grownBy_alloc _ _ _;rintro e w3 ⟨rfl,hg3⟩))
        exact ⟨⟨_,l+1,by omega,rfl,by go_num,gt_trans (gt_trans Gr (World.grownBy_alloc _ _ _) (.inl rfl)) hg3 (.inl rfl),HX1.out⟩,by simp [intOf];omega⟩
      · obtain rfl:l=M:=by omega
        obtain rfl:x=T:=(hfin.out x).symm.trans HX.out
        go_wp2_with fail
        go_wp2_with fail
        go_ret
        exact ⟨rfl,Gw⟩
theorem size_any:∀ (h:Nat) (W:World) (v:Value) (t:Shp) (dp:Int),-1≤dp→dp≤100→KS h W v t→Calls Tryz.prog 28 #[v,.int .i64 dp] W (SPostI W (szI t dp))
  | 0,_,_,_,_,_,_,hk=>hk.elim
  | h+1,W,v,.mk k pts kids,dp,h1,h2,hk=>size_succ h (size_any h) W v k pts kids dp h1 h2 hk
end
end Go.Proofs.YtlpaecafpbbbkaaGreatDoor
