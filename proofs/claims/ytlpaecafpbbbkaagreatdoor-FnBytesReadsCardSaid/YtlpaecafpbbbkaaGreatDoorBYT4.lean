/- The reference's ForceCoordinatesType. The reference's New of points and of line strings. The reference's New, whole. The package's points: plain data, and what makes them. -/
import Derived.StillTailTactics
import Derived.Lib.MinMax
import Derived.Test.YtlpaecafpbbbkaaGreatDoorBYT2
import Derived.Test.YtlpaecafpbbbkaaGreatDoorBYT3
set_option linter.unusedVariables false
set_option linter.unusedSimpArgs false
set_option maxRecDepth 100000
set_option maxHeartbeats 24000000
namespace Go.Proofs.YtlpaecafpbbbkaaGreatDoor
section
open Go.RowKit
theorem Nums_any (r:Nat) (hr:r<4) (p:Option Addr) (n cap:Nat) (X Y Z M:Nat→Nat) (hn:n≤100000) (W:World) (hp:PRow W p n X Y Z M) :
    Calls Tryz.prog 90 #[.slice p n cap,.int .i64 r] W fun e w'=>∃ v,e=.returned v∧AppV 26 1 W.heap.size W (.slice none 0 0) w' v (n*widN r) (nTo r X Y Z M n):=by
  rcases (by omega:r=0∨r=1∨r=2∨r=3) with rfl | rfl | rfl | rfl
  · exact Nums_0 p n cap X Y Z M hn W hp
  · exact Nums_1 p n cap X Y Z M hn W hp
  · exact Nums_2 p n cap X Y Z M hn W hp
  · exact Nums_3 p n cap X Y Z M hn W hp
theorem Places_any' (r:Nat) (hr:r<4) (p:Option Addr) (n cap:Nat) (f:Nat→Nat) (hn:n≤100000) (W:World) (hf:FVal W p n f) :
    Calls Tryz.prog 91 #[.slice p n cap,.int .i64 r] W fun e w'=>∃ v,e=.returned v∧AppV 209 4 W.heap.size W (.slice none 0 0) w' v (n / widN r) (pCells r f (n / widN r)):=by
  rcases (by omega:r=0∨r=1∨r=2∨r=3) with rfl | rfl | rfl | rfl
  · exact Places_0 p n cap f hn W hf
  · exact Places_1 p n cap f hn W hf
  · exact Places_2 p n cap f hn W hf
  · exact Places_3 p n cap f hn W hf
theorem nTo_len (r:Nat) (hr:r<4) (X Y Z M:Nat→Nat):∀ k,(nTo r X Y Z M k).length=k*widN r
  | 0=>by simp [nTo]
  | k+1=>by
    have h:=nTo_len r hr X Y Z M k
    rcases (by omega:r=0∨r=1∨r=2∨r=3) with rfl | rfl | rfl | rfl <;> simp [nTo,widN] at h ⊢ <;> omega
theorem nTo_at (r r':Nat) (hr:r'<4) (f:Nat→Nat):∀ n i,i<n*widN r'→(nTo r' (plX r f) (plY r f) (plZ r f) (plM r f) n)[i]?=some (.float .f64 (fF r r' f i))
  | 0,i,h=>by omega
  | n+1,i,h=>by
    have hl:=nTo_len r' hr (plX r f) (plY r f) (plZ r f) (plM r f) n
    by_cases hi:i<n*widN r'
    · have:=nTo_at r r' hr f n i hi
      rw [nTo,List.append_assoc,List.append_assoc,List.getElem?_append_left (by omega)]
      exact this
    · obtain ⟨c,rfl⟩ : ∃ c,i=n*widN r'+c:=⟨i - n*widN r',by omega⟩
      rw [nTo,List.append_assoc,List.append_assoc,List.getElem?_append_right (by omega),hl,Nat.add_sub_cancel_left]
      have hw:=widN_le r' hr
      have hc:c<widN r':=by rw [Nat.succ_mul] at h;omega
      have hq:(n*widN r'+c) / widN r'=n:=by
        rw [Nat.mul_comm,Nat.mul_add_div (by omega),Nat.div_eq_of_lt hc];omega
      have hm:(n*widN r'+c) % widN r'=c:=by
        rw [Nat.mul_comm,Nat.mul_add_mod,Nat.mod_eq_of_lt hc]
      unfold fF
      rw [hq,hm]
      rcases (by omega:r'=0∨r'=1∨r'=2∨r'=3) with rfl | rfl | rfl | rfl
      · have hc':c<2:=hc
        rcases (by omega:c=0∨c=1) with rfl | rfl <;> rfl
      · have hc':c<3:=hc
        rcases (by omega:c=0∨c=1∨c=2) with rfl | rfl | rfl <;> rfl
      · have hc':c<3:=hc
        rcases (by omega:c=0∨c=1∨c=2) with rfl | rfl | rfl <;> rfl
      · have hc':c<4:=hc
        rcases (by omega:c=0∨c=1∨c=2∨c=3) with rfl | rfl | rfl | rfl <;> rfl
theorem fF_lt {W:World} {p:Option Addr} {n:Nat} {f:Nat→Nat} (h:FVal W p n f) (r r' i:Nat):fF r r' f i<18446744073709551616:=by
  unfold fF
  split
  · exact h.lt _
  · split
    · exact h.lt _
    · split
      · exact fval_plZ h r _
      · exact fval_plM h r _
theorem AppV.prow {e base:Nat} {w0 w:World} {v0:Value} {p:Option Addr} {n c r:Nat} {f:Nat→Nat} (h:AppV e 4 base w0 v0 w (.slice p n c) n (pCells r f n)):PRow w p n (plX r f) (plY r f) (plZ r f) (plM r f):=by
  obtain ⟨h1,h2⟩:=own_at4 h.own
  refine ⟨h1,fun a ha i hi=>⟨?_,?_,?_,?_⟩⟩
  · exact h2 a ha i 0 _ ((pCells_at r f n i hi 0 (by omega)).trans rfl)
  · exact h2 a ha i 1 _ ((pCells_at r f n i hi 1 (by omega)).trans rfl)
  · exact h2 a ha i 2 _ ((pCells_at r f n i hi 2 (by omega)).trans rfl)
  · exact h2 a ha i 3 _ ((pCells_at r f n i hi 3 (by omega)).trans rfl)
theorem ForceD:∀ (h:Nat) (B:Nat→Prop) (W:World) (v:Value) (t:Raw) (r':Nat),r'<4→KD B h W v t→dimsOk t→pl t≤2000 →
    Calls Tryz.prog 44 #[v,.int .i64 r'] W fun e w'=>∃ v',e=.returned v'∧KD (Fr W w') h w' v' (forceT r' t)∧W.grownBy w' none:=by
  intro h
  induction h with
  | zero=>intro B W v t r' _ hk;exact hk.elim
  | succ h ih =>
    intro B W v t r' hr' hk hd hp
    obtain ⟨k,d,n,f,kids⟩:=t
    obtain ⟨hd0,hd4,hdk⟩:=hd
    obtain ⟨r,rfl⟩:=Int.eq_ofNat_of_zero_le hd0
    obtain ⟨p,cap,q,c2,rfl,hf,h1,h2,h3,hm1,hm2,hm3,hm4,_⟩:=hk
    have hr:r<4:=by omega
    unfold pl at hp
    simp only [Int.toNat_natCast] at hp
    have hw:=widN_le r hr
    have hw':=widN_le r' hr'
    have hn:n≤100000:=by
      have h1:n / widN r≤2000:=by omega
      have h2:=Nat.mod_add_div n (widN r)
      have h3:=Nat.mod_lt n (by omega:0<widN r)
      have h4:widN r*(n / widN r)≤4*2000:=Nat.mul_le_mul hw.2 h1
      omega
    have hL:n / widN r≤2000:=by omega
    have hpk:pls kids≤2000:=Nat.le_trans (Nat.le_add_left _ _) hp
    have HPl:=Lib.hid (fun w (g:W.grownBy w none)=>Places_any' r hr p n cap f hn w (hf.mono g))
    have HNu:=Lib.hid (fun w pq c (hpr:PRow w pq (n / widN r) (plX r f) (plY r f) (plZ r f) (plM r f))=>Nums_any r' hr' pq (n / widN r) c _ _ _ _ (by omega) w hpr)
    have HFv:Hid (∀ (w0 w:World) (p:Option Addr) (cc:Nat),AppV 26 1 w0.heap.size w0 (.slice none 0 0) w (.slice p (n / widN r*widN r') cc) (n / widN r*widN r') (nTo r' (plX r f) (plY r f) (plZ r f) (plM r f) (n / widN r))→FVal w p (n / widN r*widN r') (fF r r' f)) :=
      fun w0 w p cc hh=>hh.fval (fun i=>fF_lt hf r r' i) (fun i hi=>nTo_at r r' hr' f (n / widN r) i hi)
    have HKid:=Lib.hid (fun w (g:W.grownBy w none) a (ha:q=some a) j t (hj:kids[j]?=some t)=>(by
      obtain ⟨c0,c1,c2,c3,k0,k1,k2,k3,k4⟩:=hm4 a ha j t hj
      exact ⟨c0,c1,c2,c3,k0.mono g,g.cell k1 (by simp),g.cell k2 (by simp),g.cell k3 (by simp),g.cell k4 (by simp)⟩ : ∃ c0 c1 c2 c3,KD B h w (.agg #[c0,c1,c2,c3]) t∧w.cell? (a.add (j*4))=some c0∧w.cell? ⟨(a.add (j*4)).block,(a.add (j*4)).off+1,none⟩=some c1∧w.cell? ⟨(a.add (j*4)).block,(a.add (j*4)).off+2,none⟩=some c2∧w.cell? ⟨(a.add (j*4)).block,(a.add (j*4)).off+3,none⟩=some c3))
    have HIH:=Lib.hid (fun w v j t (hj:kids[j]?=some t) (hk:KD B h w v t)=>ih B w v t r' hr' hk (dimsOks_mem kids hdk j t hj) (by have:=pls_mem kids j t hj;omega))
    have HSn:=Lib.hid (fun j t (hj:kids[j]?=some t)=>(by
      obtain ⟨hlt,rfl⟩:=List.getElem?_eq_some_iff.1 hj
      rw [List.take_succ_eq_append_getElem hlt,forceTs_snoc]:forceTs r' (kids.take (j+1))=forceTs r' (kids.take j)++[forceT r' t]))
    have hml:kids.length≤2000:=by have:=pls_len kids;omega
    have HG:Hid (∀ j,j<kids.length→∃ t,kids[j]?=some t):=fun j hj=>⟨kids[j]'(by omega),List.getElem?_eq_getElem (by omega)⟩
    have HLn:Hid (∀ j,j≤kids.length→(forceTs r' (kids.take j)).length=j):=fun j hj=>by rw [forceTs_len,List.length_take];omega
    have HEnd:forceT r' (.mk k r n f kids)=.mk k r' (n / widN r*widN r') (fF r r' f) (forceTs r' (kids.take kids.length)):=by rw [List.take_length];unfold forceT;simp only [Int.toNat_natCast]
    have hqn:=Lib.hid hm3
    rw [HEnd]
    generalize n / widN r=L at HPl HNu HFv hL hp ⊢
    generalize kids.length=m at HG HLn hml hm1 ⊢
    obtain ⟨N,hN⟩ : ∃ N,N=L*widN r':=⟨_,rfl⟩
    rw [←hN] at HNu HFv ⊢
    have hNle:N≤8000:=by rw [hN];exact Nat.mul_le_mul hL hw'.2
    clear hm4 hm3 ih hf hdk HEnd hN hd0 hd4
    go_enter Tryz.func44,Tryz.ntmps44
    have HB3:=W3_grown W (.int .i64 k) (.int .i64 r) (.slice p n cap) (.slice q m c2) k r' 33
    have HPre:=Lib.hid (fun w g=>Pre.of W w (.int .i64 k) (.int .i64 r) (.slice p n cap) (.slice q m c2) k r' 33 g)
    go_wp2_with (first
      | (go_at_call 91;refine (HPl.out _ HB3).mono ?_;rintro e w1 ⟨v1,rfl,hv1⟩;obtain ⟨pp,cc,rfl⟩:=hv1.slice))
    have G1:=gt_trans HB3 hv1.grown0 (.inl rfl)
    have hs1:W.heap.size+3≤w1.heap.size:=by rw [←W3_size W (.int .i64 k) (.int .i64 r) (.slice p n cap) (.slice q m c2) k r' 33];exact hv1.grown0.size
    refine (HNu.out _ _ _ hv1.prow).mono ?_
    rintro e w2 ⟨v2,rfl,hv2⟩
    obtain ⟨pn,cn,rfl⟩:=hv2.slice
    have hfn:=HFv.out _ _ _ _ hv2
    obtain ⟨pn',cn',e9,hc1,hc2,hc3,hob⟩:=own_form hv2.own
    obtain ⟨rfl,rfl⟩ : pn=pn'∧cn=cn':=by injection e9 with e9 e10 e11;exact ⟨e9,e11⟩
    have hnlt:=hv2.own.lt
    have hpre:=HPre.out w2 (gt_trans hv1.grown0 hv2.grown0 (.inl rfl))
    have I0:=Lib.hid (hpre.start h hfn hc1 hc2 hc3 (fun a ha=>by have:=hnlt _ (hob a ha);omega))
    obtain ⟨_,_,a0,a1,a2,a3,o0,o1,o2,o3,of_,_⟩:=hpre
    have of2:=of_ 2
    have HO:Hid (∀ w',(w2.setCell ⟨W.heap.size+1+1,2,none⟩ (.slice pn N cn)).grownBy w' none→True):=fun _ _=>trivial
    clear hnlt hob hc1 hc2 hc3 hfn hv2 hv1 HPre HFv of_ e9
    go_wp2_with fail
    clear a0 a1 a2 a3 o0 o1 o2 o3 of2 HO hs1 G1
    go_loopw [23] (fun i wr=>∃ (j:Nat) (x:Value) (cs:List Value),i=.int .i64 j∧j≤m∧OutInv W wr h k r' pn N cn (fF r r' f) x (forceTs r' (kids.take j)) cs) (fun i _=>m - (intOf i).toNat)
    case atStart=>exact ⟨0,.slice none 0 0,[],rfl,by omega,by simpa [forceTs] using I0.out⟩
    case round =>
      obtain ⟨j,x,cs,rfl,hj,I⟩:=hrel
      rename World=>wr
      clear I0
      by_cases hjm:j<m
      · obtain ⟨t,ht⟩:=HG.out j hjm
        obtain ⟨a,rfl⟩ : ∃ a,q=some a:=by
          cases q with
          | none=>have:=hqn.out rfl;omega
          | some a=>exact ⟨a,rfl⟩
        obtain ⟨c0,c1,c2,c3,kk,q0,q1,q2,q3⟩:=HKid.out wr I.g a rfl j t ht
        obtain ⟨k1,d1,n1,f1,kids1,p1,cap1,q1',cq1,_,rfl,rfl,rfl,rfl⟩:=kk.form4
        generalize kids1.length=m1 at kk q3
        have HK5:=Lib.hid (fun w (g:wr.grownBy w none)=>HIH.out w _ j t ht (kk.mono g))
        have hSn:=Lib.hid (HSn.out j t ht)
        have hLn:=Lib.hid (HLn.out j (by omega))
        obtain ⟨px,cx,rfl,_⟩:=own_form I.kr.1
        have hle:=hLn.out
        have HI:=Lib.hid (fun w (g:wr.grownBy w none)=>I.kept g)
        have hxl:(forceTs r' (kids.take j)).length=j:=hLn.out
        rw [hxl] at HI
        have HX:Hid (∀ w,wr.grownBy w none→w.cell? ⟨W.heap.size+1+1,3,none⟩=some (.slice px j cx)∧w.frozen? ⟨W.heap.size+1+1,3,none⟩=false):=fun w g=>⟨(HI.out w g).o3,(HI.out w g).of_ 3⟩
        have HOw:Hid (∀ w,wr.grownBy w none→w.ownsRow (W.heap.size+3) 33 4 (.slice px j cx) j cs):=fun w g=>by
          have hh:=(HI.out w g).kr.1
          rw [hLn.out] at hh
          exact hh
        have HX7:Hid (∀ w6 w7,wr.grownBy w6 none→w6.grownBy w7 (Value.slice px j cx).ownBlock→w7.cell? ⟨W.heap.size+1+1,3,none⟩=some (.slice px j cx)∧w7.frozen? ⟨W.heap.size+1+1,3,none⟩=false):=fun w6 w7 g g'=>by
          have hi:=HI.out w6 g
          have hne:some (W.heap.size+1+1)≠(Value.slice px j cx).ownBlock:=fun e=>by have:=(hi.kr.1.lt _ e.symm).1;omega
          exact ⟨g'.cell hi.o3 hne,by rw [World.frozen?_of_block (g'.block (W.heap.size+1+1) (by have:=hi.big;omega) hne)];exact hi.of_ 3⟩
        have HSnoc:Hid (∀ (w1 w2 w3 w4:World) (d0 d1 d2 d3:Value) (gg cap:Nat),wr.grownBy w1 none→w1.grownBy w2 none→w2.grownBy w3 none→KD (Fr w1 w2) h w2 (.agg #[d0,d1,d2,d3]) (forceT r' t)→w4.ownsRow (W.heap.size+3) 33 4 (.slice (some ⟨gg,0,none⟩) (j+1) cap) (j+1) (cs++[d0,d1,d2,d3])→w3.grownBy w4 (Value.slice px j cx).ownBlock→((Value.slice px j cx).ownBlock=some gg∨gg=w3.heap.size) →
            OutInv W (w4.setCell ⟨W.heap.size+1+1,3,none⟩ (.slice (some ⟨gg,0,none⟩) (j+1) cap)) h k r' pn N cn (fF r r' f) (.slice (some ⟨gg,0,none⟩) (j+1) cap) (forceTs r' (kids.take (j+1))) (cs++[d0,d1,d2,d3])):=fun w1 w2 w3 w4 d0 d1 d2 d3 gg cap g1 g2 g3 hk hown g4 hg=>by
          have hh:=(HI.out wr (gt_refl _ _)).snoc g1 g2 g3 hk (by rw [hLn.out];exact hown) g4 hg
          rw [hLn.out,←hSn.out] at hh
          exact hh
        have hbig:=I.big
        clear kk ht I hle hxl
        go_wp2_with fail
        have G5:=World.grownBy_alloc wr (.cells #[.int .i64 k1,.int .i64 d1,.slice p1 n1 cap1,.slice q1' m1 cq1] 33) none
        obtain ⟨y3,yf⟩:=HX.out _ (gt_drew_r G5)
        have HG5:=Lib.hid (gt_drew_r G5)
        clear G5
        go_region_law (first
          | (go_simp;go_at_call 44;refine (HK5.out _ HG5.out).mono ?_;rintro e w5 ⟨v5,rfl,hk5,hg5⟩;obtain ⟨k6,d6,n6,f6,kids6,p6,cap6,q6,cq6,_,rfl⟩:=hk5.form;have G6:=gt_trans HG5.out hg5 (.inl rfl);obtain ⟨z3,zf⟩:=HX.out _ G6;have hz5:W.heap.size+1+1<w5.heap.size:=by have:=G6.size;omega)
          | (refine step_cells (size:=4) (n:=j) (xs:=cs) (base:=W.heap.size+3) (W:=w5) rfl _ _ _ rfl Tryz.underlying31 (.agg #[.int .i64 0,.int .i64 0,.slice none 0 0,.slice none 0 0]) 64 infoG rfl (Nat.succ_pos 3) rfl rfl rfl _ ?_ ?_ ?_ (Nat.succ_pos 0) ?_ ?_ ?_ ?_;exact HOw.out _ (gt_alloc_r G6 _);rfl;exact one4 _ _ _ _ _ _ _ _;(have:=G6.size;simp;omega);omega;omega;intro gg cap7 w7 hown7 hg7 hat7;obtain ⟨u3,uf⟩:=HX7.out _ _ (gt_alloc_r G6 _) hg7))
        all_goals
          have HFin:=Lib.hid (HSnoc.out _ _ _ _ _ _ _ _ _ _ HG5.out hg5 (World.grownBy_alloc _ _ _) hk5 hown7 hg7 hat7)
          clear hown7 hg7 hat7 hk5 u3 uf z3 zf y3 yf
          go_wp2_with fail
          exact ⟨⟨j+1,_,_,by go_num,by omega,HFin.out⟩,by simp [intOf];omega⟩
      · obtain rfl:j=m:=by omega
        obtain ⟨px,cx,rfl,_⟩:=own_form I.kr.1
        have hxl:(forceTs r' (kids.take j)).length=j:=HLn.out j (by omega)
        rw [hxl] at I
        have o0:=I.o0
        have o1:=I.o1
        have o2:=I.o2
        have o3:=I.o3
        have r0:=I.r0
        have r1:=I.r1
        have r2:=I.r2
        have r3:=I.r3
        have rf0:=I.rf 0
        have rf1:=I.rf 1
        have rf2:=I.rf 2
        have rf3:=I.rf 3
        have HEnd:=Lib.hid I.end_
        clear I
        go_wp2_with fail
        go_wp2_with fail
        refine bodyPost_ret (by simp [results,Tryz.results44,go_sem,r0,r1,r2,r3];try rfl) rfl ?_
        exact ⟨_,rfl,HEnd.out.1,HEnd.out.2⟩
end
section
open Go.RowKit
def fCells (f:Nat→Nat) (k:Nat):List Value:=(List.range k).map fun i=>.float .f64 (f i)
theorem Leaf_any (k:Int) (b:Bool) (h:((k=1∨k=2)∧b=true)∨(¬ k=1∧¬ k=2∧b=false)) (w:World):Calls Tryz.prog 41 #[.int .i64 k] w fun e w'=>e=.returned (.bool b)∧w'=w:=by
  rcases h with ⟨rfl | rfl,rfl⟩ | ⟨h1,h2,rfl⟩
  · go_enter Tryz.func41,Tryz.ntmps41
    go_wp2_with fail
    go_ret
    exact ⟨rfl,rfl⟩
  · go_enter Tryz.func41,Tryz.ntmps41
    go_wp2_with fail
    go_ret
    exact ⟨rfl,rfl⟩
  · have e1:(k==1)=false:=by simpa using h1
    have e2:(k==2)=false:=by simpa using h2
    go_enter Tryz.func41,Tryz.ntmps41
    go_wp2_with fail
    go_ret
    exact ⟨rfl,rfl⟩
theorem NewLeaf_1 (h:Nat) (d:Int) (p q:Option Addr) (n cap m c2:Nat) (f:Nat→Nat) (hn:n≤2000) (hcap:n≤cap) (hnil:p=none→cap=0) (W:World) (hf:FVal W p n f) :
    Calls Tryz.prog 22 #[.agg #[.int .i64 1,.int .i64 d,.slice p n cap,.slice q m c2]] W fun e w'=>∃ v',e=.returned v'∧KD (Fr W w') (h+1) w' v' (.mk 1 (d % 4) (min (n / widN (d % 4).toNat) 1*widN (d % 4).toNat) f [])∧W.grownBy w' none:=by
  obtain ⟨r,hr⟩ : ∃ r:Nat,d % 4=r:=⟨(d % 4).toNat,by omega⟩
  have hd3:bits .and .i64 d 3=(r:Int):=by rw [i64_and3,hr]
  have hrt:(d % 4).toNat=r:=by rw [hr];rfl
  rw [hrt,hr]
  have hk4:2≤widN r∧widN r≤4:=by unfold widN;omega
  have HSR:Hid (∀ N,N≤n→∀ w',W.grownBy w' none→(Value.slice p N cap=.slice none 0 0∧N=0∨∃ ad c,Value.slice p N cap=.slice (some ad) N c∧∀ j u,(fCells f N)[j]?=some u→w'.cell? (ad.add j)=some u)):=by
    intro N hN w' g
    cases p with
    | none =>
      have:=hnil rfl
      subst this
      obtain rfl:N=0:=by omega
      exact .inl ⟨rfl,rfl⟩
    | some a =>
      refine .inr ⟨a,cap,rfl,fun j u hj=>?_⟩
      by_cases hjN:j<N
      · simp [fCells,hjN] at hj
        subst hj
        exact g.cell (hf.at_ a rfl j (by omega)) (by simp)
      · simp [fCells,hjN] at hj
  have HWd:=Lib.hid (fun w=>Width_any r (by omega) w)
  have HLf:=Lib.hid (fun w=>Leaf_any 1 true (.inl ⟨by omega,rfl⟩) w)
  have HFl:=Lib.hid hf.lt
  revert HWd
  generalize widN r=k at hk4 ⊢
  intro HWd
  obtain ⟨hk2,hk4⟩:=hk4
  obtain ⟨L0,hL0⟩ : ∃ L0,L0=n / k:=⟨_,rfl⟩
  obtain ⟨L,hL⟩ : ∃ L,L=min (n / k) 1:=⟨_,rfl⟩
  obtain ⟨N,hN⟩ : ∃ N,N=L*k:=⟨_,rfl⟩
  have hLL:L≤L0:=by rw [hL,hL0];exact Nat.min_le_left _ _
  have hNn:N≤n:=by
    rw [hN]
    refine Nat.le_trans (Nat.mul_le_mul_right k hLL) ?_
    rw [hL0]
    exact Nat.div_mul_le_self n k
  have hLn:L0≤n:=by rw [hL0];exact Nat.div_le_self _ _
  have hdiv:IntKind.i64.wrap ((n:Int) / (k:Int))=(L0:Int):=by
    have e:(n:Int) / (k:Int)=(L0:Int):=by rw [hL0];push_cast;rfl
    rw [e,IntKind.wrap_i64];omega
  have hmul:IntKind.i64.wrap ((L:Int)*(k:Int))=(N:Int):=by
    have e:(L:Int)*(k:Int)=(N:Int):=by rw [hN];push_cast;rfl
    rw [e,IntKind.wrap_i64];omega
  have hmin:min (L0:Int) 1=(L:Int):=by rw [hL,←hL0];omega
  rw [←hL,←hN]
  have hk0:¬ ((k:Int)=0):=by omega
  have hNcap:N≤cap:=by omega
  clear hr hL hN hf hcap hnil hrt hL0
  go_enter Tryz.func22,Tryz.ntmps22
  go_wp2_with (first
    | (go_at_call 41;refine (HLf.out _).mono ?_;rintro e w' ⟨rfl,hw⟩;obtain rfl:=hw.symm))
  go_quiet ((go_at_call 42;exact Calls.quiet_of_same (HWd.out _)))
  go_wp2_with fail
  have hpre:=Pre.of W ((W3 W (.int .i64 1) (.int .i64 d) (.slice p n cap) (.slice q m c2) 1 r 33).drewN nq).drew (.int .i64 1) (.int .i64 d) (.slice p n cap) (.slice q m c2) 1 r 33 (gt_drew_r (gt_drewN_r (gt_refl _ _) nq))
  refine wp_region_still_tail 10 (by kernel_rfl) (by kernel_rfl) ?_
  simp only [List.take_succ_cons,List.take_zero,List.drop_succ_cons,List.drop_zero]
  change wpStill _ _ ((W3 W (.int .i64 1) (.int .i64 d) (.slice p n cap) (.slice q m c2) 1 r 33).drewN nq).drew (fun a'=>wpList _ _ _ _ a' ((W3 W (.int .i64 1) (.int .i64 d) (.slice p n cap) (.slice q m c2) 1 r 33).drewN nq).drew) _ _
  revert hpre
  generalize ((W3 W (.int .i64 1) (.int .i64 d) (.slice p n cap) (.slice q m c2) 1 r 33).drewN nq).drew=W4
  intro hpre
  have HPk:Hid (∀ w1,W4.grownBy w1 none→Pre W w1 (.int .i64 1) (.int .i64 d) (.slice p n cap) (.slice q m c2) 1 r):=fun w1 g=>hpre.kept g
  have HG4:=hpre.g
  have a2:=hpre.a2
  have o1:=hpre.o1
  have o2:=hpre.o2
  have hbig:=hpre.big
  clear hpre
  repeat still_step
  still_call (HWd.out _)
  repeat still_step
  refine wpStill_nil ?_
  go_wp2_with (at_builtin;refine app_src rfl _ _ _ rfl Tryz.underlying30 (.float .f64 0) 8 infoF rfl (by omega) (AppV.nil W4 26 1 W4.heap.size) rfl _ rfl N (fCells f N) (by simp [fCells]) (by simp [fCells,Value.oneCell']) (HSR.out N hNn _ HG4) (Nat.le_refl _) (by omega) (by omega) ?_;intro v5 w1 H1;simp only [Nat.zero_add,List.nil_append] at H1;obtain ⟨p5,c5,rfl⟩:=H1.slice;have hq:=HPk.out _ H1.grown0;clear o1 o2 a2;obtain ⟨_,_,_,_,_,_,o0,o1,o2,o3,of_,r0,r1,r2,r3,rf⟩:=hq;have of2:=of_ 2;have rf0:=rf 0;have rf1:=rf 1;have rf2:=rf 2;have rf3:=rf 3;clear of_ rf)
  obtain ⟨p5',c5',e9,h1,h2,h3,hob⟩:=own_form H1.own
  obtain ⟨rfl,rfl⟩ : p5=p5'∧c5=c5':=by injection e9 with e9 e10 e11;exact ⟨e9,e11⟩
  have hlt:=H1.own.lt
  have hst:=(HPk.out _ H1.grown0).start h (H1.fval HFl.out (fun i hi=>by simp [fCells,hi])) h1 h2 h3 (fun a ha=>by have:=hlt _ (hob a ha);omega)
  have hend:=hst.end_
  clear hst hlt hob e9
  refine bodyPost_ret (by simp [results,Tryz.results22,go_sem,r0,r1,r2,r3];try rfl) rfl ?_
  exact ⟨_,rfl,hend.1,hend.2⟩
theorem NewLeaf_2 (h:Nat) (d:Int) (p q:Option Addr) (n cap m c2:Nat) (f:Nat→Nat) (hn:n≤2000) (hcap:n≤cap) (hnil:p=none→cap=0) (W:World) (hf:FVal W p n f) :
    Calls Tryz.prog 22 #[.agg #[.int .i64 2,.int .i64 d,.slice p n cap,.slice q m c2]] W fun e w'=>∃ v',e=.returned v'∧KD (Fr W w') (h+1) w' v' (.mk 2 (d % 4) (n / widN (d % 4).toNat*widN (d % 4).toNat) f [])∧W.grownBy w' none:=by
  obtain ⟨r,hr⟩ : ∃ r:Nat,d % 4=r:=⟨(d % 4).toNat,by omega⟩
  have hd3:bits .and .i64 d 3=(r:Int):=by rw [i64_and3,hr]
  have hrt:(d % 4).toNat=r:=by rw [hr];rfl
  rw [hrt,hr]
  have hk4:2≤widN r∧widN r≤4:=by unfold widN;omega
  have HSR:Hid (∀ N,N≤n→∀ w',W.grownBy w' none→(Value.slice p N cap=.slice none 0 0∧N=0∨∃ ad c,Value.slice p N cap=.slice (some ad) N c∧∀ j u,(fCells f N)[j]?=some u→w'.cell? (ad.add j)=some u)):=by
    intro N hN w' g
    cases p with
    | none =>
      have:=hnil rfl
      subst this
      obtain rfl:N=0:=by omega
      exact .inl ⟨rfl,rfl⟩
    | some a =>
      refine .inr ⟨a,cap,rfl,fun j u hj=>?_⟩
      by_cases hjN:j<N
      · simp [fCells,hjN] at hj
        subst hj
        exact g.cell (hf.at_ a rfl j (by omega)) (by simp)
      · simp [fCells,hjN] at hj
  have HWd:=Lib.hid (fun w=>Width_any r (by omega) w)
  have HLf:=Lib.hid (fun w=>Leaf_any 2 true (.inl ⟨by omega,rfl⟩) w)
  have HFl:=Lib.hid hf.lt
  revert HWd
  generalize widN r=k at hk4 ⊢
  intro HWd
  obtain ⟨hk2,hk4⟩:=hk4
  obtain ⟨L0,hL0⟩ : ∃ L0,L0=n / k:=⟨_,rfl⟩
  obtain ⟨L,hL⟩ : ∃ L,L=n / k:=⟨_,rfl⟩
  obtain ⟨N,hN⟩ : ∃ N,N=L*k:=⟨_,rfl⟩
  have hLL:L≤L0:=by rw [hL,hL0];exact Nat.le_refl _
  have hNn:N≤n:=by
    rw [hN]
    refine Nat.le_trans (Nat.mul_le_mul_right k hLL) ?_
    rw [hL0]
    exact Nat.div_mul_le_self n k
  have hLn:L0≤n:=by rw [hL0];exact Nat.div_le_self _ _
  have hdiv:IntKind.i64.wrap ((n:Int) / (k:Int))=(L0:Int):=by
    have e:(n:Int) / (k:Int)=(L0:Int):=by rw [hL0];push_cast;rfl
    rw [e,IntKind.wrap_i64];omega
  have hmul:IntKind.i64.wrap ((L:Int)*(k:Int))=(N:Int):=by
    have e:(L:Int)*(k:Int)=(N:Int):=by rw [hN];push_cast;rfl
    rw [e,IntKind.wrap_i64];omega
  rw [←hL,←hN]
  have hk0:¬ ((k:Int)=0):=by omega
  have hNcap:N≤cap:=by omega
  obtain rfl:L=L0:=by rw [hL,hL0]
  clear hr hL hN hf hcap hnil hrt hL0
  go_enter Tryz.func22,Tryz.ntmps22
  go_wp2_with (first
    | (go_at_call 41;refine (HLf.out _).mono ?_;rintro e w' ⟨rfl,hw⟩;obtain rfl:=hw.symm))
  go_quiet ((go_at_call 42;exact Calls.quiet_of_same (HWd.out _)))
  go_wp2_with fail
  have hpre:=Pre.of W ((W3 W (.int .i64 2) (.int .i64 d) (.slice p n cap) (.slice q m c2) 2 r 33).drewN nq).drew (.int .i64 2) (.int .i64 d) (.slice p n cap) (.slice q m c2) 2 r 33 (gt_drew_r (gt_drewN_r (gt_refl _ _) nq))
  refine wp_region_still_tail 10 (by kernel_rfl) (by kernel_rfl) ?_
  simp only [List.take_succ_cons,List.take_zero,List.drop_succ_cons,List.drop_zero]
  change wpStill _ _ ((W3 W (.int .i64 2) (.int .i64 d) (.slice p n cap) (.slice q m c2) 2 r 33).drewN nq).drew (fun a'=>wpList _ _ _ _ a' ((W3 W (.int .i64 2) (.int .i64 d) (.slice p n cap) (.slice q m c2) 2 r 33).drewN nq).drew) _ _
  revert hpre
  generalize ((W3 W (.int .i64 2) (.int .i64 d) (.slice p n cap) (.slice q m c2) 2 r 33).drewN nq).drew=W4
  intro hpre
  have HPk:Hid (∀ w1,W4.grownBy w1 none→Pre W w1 (.int .i64 2) (.int .i64 d) (.slice p n cap) (.slice q m c2) 2 r):=fun w1 g=>hpre.kept g
  have HG4:=hpre.g
  have a2:=hpre.a2
  have o1:=hpre.o1
  have o2:=hpre.o2
  have hbig:=hpre.big
  clear hpre
  repeat still_step
  still_call (HWd.out _)
  repeat still_step
  refine wpStill_nil ?_
  go_wp2_with (at_builtin;refine app_src rfl _ _ _ rfl Tryz.underlying30 (.float .f64 0) 8 infoF rfl (by omega) (AppV.nil W4 26 1 W4.heap.size) rfl _ rfl N (fCells f N) (by simp [fCells]) (by simp [fCells,Value.oneCell']) (HSR.out N hNn _ HG4) (Nat.le_refl _) (by omega) (by omega) ?_;intro v5 w1 H1;simp only [Nat.zero_add,List.nil_append] at H1;obtain ⟨p5,c5,rfl⟩:=H1.slice;have hq:=HPk.out _ H1.grown0;clear o1 o2 a2;obtain ⟨_,_,_,_,_,_,o0,o1,o2,o3,of_,r0,r1,r2,r3,rf⟩:=hq;have of2:=of_ 2;have rf0:=rf 0;have rf1:=rf 1;have rf2:=rf 2;have rf3:=rf 3;clear of_ rf)
  obtain ⟨p5',c5',e9,h1,h2,h3,hob⟩:=own_form H1.own
  obtain ⟨rfl,rfl⟩ : p5=p5'∧c5=c5':=by injection e9 with e9 e10 e11;exact ⟨e9,e11⟩
  have hlt:=H1.own.lt
  have hst:=(HPk.out _ H1.grown0).start h (H1.fval HFl.out (fun i hi=>by simp [fCells,hi])) h1 h2 h3 (fun a ha=>by have:=hlt _ (hob a ha);omega)
  have hend:=hst.end_
  clear hst hlt hob e9
  refine bodyPost_ret (by simp [results,Tryz.results22,go_sem,r0,r1,r2,r3];try rfl) rfl ?_
  exact ⟨_,rfl,hend.1,hend.2⟩
end
section
open Go.RowKit
theorem dimsOks_new:∀ ts:List Raw,dimsOks (newTs ts)
  | []=>trivial
  | t::ts=>by unfold newTs dimsOks;exact ⟨dims_new t,dimsOks_new ts⟩
theorem dimsOks_filter (p:Raw→Bool):∀ ts:List Raw,dimsOks ts→dimsOks (ts.filter p)
  | [],h=>h
  | t::ts,h=>by
    have h2:=dimsOks_filter p ts h.2
    by_cases hp:p t=true
    · rw [List.filter_cons_of_pos hp];exact ⟨h.1,h2⟩
    · rw [List.filter_cons_of_neg hp];exact h2
theorem and_small (a b:Nat) (ha:a<4) (hb:b<4):bits .and .i64 (a:Int) (b:Int)=((a &&& b:Nat):Int):=by
  rcases (by omega:a=0∨a=1∨a=2∨a=3) with rfl | rfl | rfl | rfl <;> rcases (by omega:b=0∨b=1∨b=2∨b=3) with rfl | rfl | rfl | rfl <;> kernel_rfl
theorem KidOf_any (k:Int) (w:World):Calls Tryz.prog 43 #[.int .i64 k] w fun e w'=>e=.returned (.int .i64 (kidOf k))∧w'=w:=by
  unfold kidOf
  by_cases h4:k=4
  · subst h4
    go_enter Tryz.func43,Tryz.ntmps43
    go_wp2_with fail
    go_ret
    exact ⟨rfl,rfl⟩
  · by_cases h3:k=3
    · subst h3
      go_enter Tryz.func43,Tryz.ntmps43
      go_wp2_with fail
      go_ret
      exact ⟨rfl,rfl⟩
    · by_cases h5:k=5
      · subst h5
        go_enter Tryz.func43,Tryz.ntmps43
        go_wp2_with fail
        go_ret
        exact ⟨rfl,rfl⟩
      · by_cases h6:k=6
        · subst h6
          go_enter Tryz.func43,Tryz.ntmps43
          go_wp2_with fail
          go_ret
          exact ⟨rfl,rfl⟩
        · rw [if_neg h4,if_neg (by omega),if_neg h6]
          have e4:(k==4)=false:=by simpa using h4
          have e3:(k==3)=false:=by simpa using h3
          have e5:(k==5)=false:=by simpa using h5
          have e6:(k==6)=false:=by simpa using h6
          clear h4 h3 h5 h6
          go_enter Tryz.func43,Tryz.ntmps43
          go_wp2_with fail
          go_ret
          exact ⟨rfl,rfl⟩
end
section
open Go.RowKit
structure Pt where
  x:Nat
  y:Nat
  z:Nat
  m:Nat
  r:Nat
  b:Bool
def Pt.v (p:Pt):Value:=.agg #[.float .f64 p.x,.float .f64 p.y,.float .f64 p.z,.float .f64 p.m,.int .u8 p.r,.bool p.b]
def Pt.cs (p:Pt):List Value:=[.float .f64 p.x,.float .f64 p.y,.float .f64 p.z,.float .f64 p.m,.int .u8 p.r,.bool p.b]
structure Pt.Ok (p:Pt):Prop where
  x:p.x<18446744073709551616
  y:p.y<18446744073709551616
  z:p.z<18446744073709551616
  m:p.m<18446744073709551616
  r:p.r<4
def ptE (r:Nat):Pt:=⟨0,0,0,0,r,false⟩
def Pt.force (p:Pt) (r':Nat):Pt:=if p.b=true then ⟨p.x,p.y,if p.r % 2=r' % 2 then p.z else 0,if p.r / 2=r' / 2 then p.m else 0,r',true⟩ else ptE r'
def ptOf (r n:Nat) (f:Nat→Nat):Pt:=if n / widN r=0 then ptE r else ⟨plX r f 0,plY r f 0,plZ r f 0,plM r f 0,r,true⟩
theorem NewEmptyPoint_any (r:Nat) (W:World):Calls Tryz.prog 103 #[.int .u8 r] W fun e w'=>e=.returned (ptE r).v∧W.grownBy w' none:=by
  have ev:(ptE r).v=.agg #[.float .f64 0,.float .f64 0,.float .f64 0,.float .f64 0,.int .u8 r,.bool false]:=rfl
  rw [ev]
  clear ev
  have hsf:=run_store_flt Tryz.prog
  go_enter Tryz.func103,Tryz.ntmps103
  go_wp2_with fail
  go_returns
  exact ⟨rfl,World.grownBy_alloc _ _ _⟩
theorem NewPoint_any (x y z m r:Nat) (W:World):Calls Tryz.prog 105 #[.agg #[.float .f64 x,.float .f64 y,.float .f64 z,.float .f64 m,.int .u8 r]] W fun e w'=>e=.returned (.agg #[.float .f64 x,.float .f64 y,.float .f64 z,.float .f64 m,.int .u8 r,.bool true])∧W.grownBy w' none:=by
  have hsf:=run_store_flt Tryz.prog
  go_enter Tryz.func105,Tryz.ntmps105
  go_wp2_with fail
  go_returns
  exact ⟨rfl,gt_alloc_r (World.grownBy_alloc _ _ _) _⟩
theorem PtCT_any (x y z m r:Nat) (b:Bool) (W:World):Calls Tryz.prog 140 #[.agg #[.float .f64 x,.float .f64 y,.float .f64 z,.float .f64 m,.int .u8 r,.bool b]] W fun e w'=>e=.returned (.int .u8 r)∧W.grownBy w' none:=by
  have hsf:=run_store_flt Tryz.prog
  go_enter Tryz.func140,Tryz.ntmps140
  go_wp2_with fail
  go_ret
  exact ⟨rfl,World.grownBy_alloc _ _ _⟩
theorem ptForce_val (x y z m r r':Nat):(Pt.force ⟨x,y,z,m,r,true⟩ r').v=.agg #[.float .f64 x,.float .f64 y,.float .f64 (if r % 2=r' % 2 then z else 0),.float .f64 (if r / 2=r' / 2 then m else 0),.int .u8 r',.bool true]:=by
  unfold Pt.force Pt.v
  rw [if_pos rfl]
theorem PtForce_empty (x y z m r r':Nat) (W:World) :
    Calls Tryz.prog 213 #[.agg #[.float .f64 x,.float .f64 y,.float .f64 z,.float .f64 m,.int .u8 r,.bool false],.int .u8 r'] W fun e w'=>e=.returned (ptE r').v∧W.grownBy w' none:=by
  have ev:(ptE r').v=.agg #[.float .f64 0,.float .f64 0,.float .f64 0,.float .f64 0,.int .u8 r',.bool false]:=rfl
  have HE:Hid (∀ w,Calls Tryz.prog 103 #[.int .u8 r'] w fun e w'=>e=.returned (.agg #[.float .f64 0,.float .f64 0,.float .f64 0,.float .f64 0,.int .u8 r',.bool false])∧w.grownBy w' none):=fun w=>NewEmptyPoint_any r' w
  rw [ev]
  clear ev
  have HG:=Lib.hid (gt_alloc_r (World.grownBy_alloc W (.cells #[.float .f64 x,.float .f64 y,.float .f64 z,.float .f64 m,.int .u8 r,.bool false] 87) none) (.cells #[.float .f64 0,.float .f64 0,.float .f64 0,.float .f64 0,.int .u8 0,.bool false] 87))
  have HC:Hid (∀ w,((W.alloc (.cells #[.float .f64 x,.float .f64 y,.float .f64 z,.float .f64 m,.int .u8 r,.bool false] 87)).alloc (.cells #[.float .f64 0,.float .f64 0,.float .f64 0,.float .f64 0,.int .u8 0,.bool false] 87)).grownBy w none→(w.cell? ⟨W.heap.size+1,0,none⟩=some (.float .f64 0)∧w.cell? ⟨W.heap.size+1,1,none⟩=some (.float .f64 0)∧w.cell? ⟨W.heap.size+1,2,none⟩=some (.float .f64 0)∧w.cell? ⟨W.heap.size+1,3,none⟩=some (.float .f64 0)∧w.cell? ⟨W.heap.size+1,4,none⟩=some (.int .u8 0)∧w.cell? ⟨W.heap.size+1,5,none⟩=some (.bool false))∧∀ j,w.frozen? ⟨W.heap.size+1,j,none⟩=false):=fun w g=>by
    have hb:=g.block (W.heap.size+1) (by simp) (by simp)
    refine ⟨⟨g.cell (by simp) (by simp),g.cell (by simp) (by simp),g.cell (by simp) (by simp),g.cell (by simp) (by simp),g.cell (by simp) (by simp),g.cell (by simp) (by simp)⟩,fun j=>?_⟩
    rw [World.frozen?_of_block hb];simp
  have hsf:=run_store_flt Tryz.prog
  go_enter Tryz.func213,Tryz.ntmps213
  go_wp2_with (go_at_call 103;refine (HE.out _).mono ?_;rintro e w4 ⟨rfl,hg4⟩;obtain ⟨⟨x0,x1,x2,x3,x4,x5⟩,xf⟩:=HC.out _ hg4;have f0:=xf 0;have f1:=xf 1;have f2:=xf 2;have f3:=xf 3;have f4:=xf 4;have f5:=xf 5)
  refine bodyPost_ret (by simp [results,Tryz.results213,go_sem,x0,x1,x2,x3,x4,x5];try rfl) rfl ?_
  refine ⟨rfl,?_⟩
  have gs:∀ (w:World) (jj:Nat) (y:Value),W.grownBy w none→W.grownBy (w.setCell ⟨W.heap.size+1,jj,none⟩ y) none:=fun w jj y g=>gt_set_r g _ _ (Nat.le_succ _)
  exact gs _ _ _ (gs _ _ _ (gs _ _ _ (gs _ _ _ (gs _ _ _ (gs _ _ _ (gt_trans HG.out hg4 (.inl rfl)))))))
structure F6 (w:World) (A x y z m r:Nat):Prop where
  y0:w.cell? ⟨A,0,none⟩=some (.float .f64 x)
  y1:w.cell? ⟨A,1,none⟩=some (.float .f64 y)
  y2:w.cell? ⟨A,2,none⟩=some (.float .f64 z)
  y3:w.cell? ⟨A,3,none⟩=some (.float .f64 m)
  y4:w.cell? ⟨A,4,none⟩=some (.int .u8 r)
  y5:w.cell? ⟨A,5,none⟩=some (.bool true)
  x0:w.cell? ⟨A+1,0,none⟩=some (.float .f64 0)
  x1:w.cell? ⟨A+1,1,none⟩=some (.float .f64 0)
  x2:w.cell? ⟨A+1,2,none⟩=some (.float .f64 0)
  x3:w.cell? ⟨A+1,3,none⟩=some (.float .f64 0)
  x4:w.cell? ⟨A+1,4,none⟩=some (.int .u8 0)
  x5:w.cell? ⟨A+1,5,none⟩=some (.bool false)
  yf:∀ j,w.frozen? ⟨A,j,none⟩=false
  xf:∀ j,w.frozen? ⟨A+1,j,none⟩=false
theorem F6.drew {w:World} {A x y z m r:Nat} (h:F6 w A x y z m r) (n:Nat):F6 (w.drewN n) A x y z m r :=
  ⟨h.y0,h.y1,h.y2,h.y3,h.y4,h.y5,h.x0,h.x1,h.x2,h.x3,h.x4,h.x5,h.yf,h.xf⟩
theorem F6.setz {w:World} {A x y z m r:Nat} (h:F6 w A x y z m r):F6 (w.setCell ⟨A,2,none⟩ (.float .f64 0)) A x y 0 m r:=by
  refine ⟨?_,?_,World.cell?_setCell_same (v:=.float .f64 0) (h:=h.y2),?_,?_,?_,?_,?_,?_,?_,?_,?_,fun j=>?_,fun j=>?_⟩
  · rw [World.cell?_setCell_other (h:=by simp)];exact h.y0
  · rw [World.cell?_setCell_other (h:=by simp)];exact h.y1
  · rw [World.cell?_setCell_other (h:=by simp)];exact h.y3
  · rw [World.cell?_setCell_other (h:=by simp)];exact h.y4
  · rw [World.cell?_setCell_other (h:=by simp)];exact h.y5
  · rw [World.cell?_setCell_other (h:=by simp)];exact h.x0
  · rw [World.cell?_setCell_other (h:=by simp)];exact h.x1
  · rw [World.cell?_setCell_other (h:=by simp)];exact h.x2
  · rw [World.cell?_setCell_other (h:=by simp)];exact h.x3
  · rw [World.cell?_setCell_other (h:=by simp)];exact h.x4
  · rw [World.cell?_setCell_other (h:=by simp)];exact h.x5
  · rw [World.frozen?_setCell];exact h.yf j
  · rw [World.frozen?_setCell];exact h.xf j
theorem PtForce_full (x y z m r r':Nat) (hr:r<4) (hr':r'<4) (W:World) :
    Calls Tryz.prog 213 #[.agg #[.float .f64 x,.float .f64 y,.float .f64 z,.float .f64 m,.int .u8 r,.bool true],.int .u8 r'] W fun e w'=>e=.returned (Pt.force ⟨x,y,z,m,r,true⟩ r').v∧W.grownBy w' none:=by
  rw [ptForce_val]
  obtain ⟨s1,h1⟩ : ∃ s1:Bool,s1=decide (r % 2=1):=⟨_,rfl⟩
  obtain ⟨s2,h2⟩ : ∃ s2:Bool,s2=decide (r' % 2=1):=⟨_,rfl⟩
  obtain ⟨t1,k1⟩ : ∃ t1:Bool,t1=decide (r / 2=1):=⟨_,rfl⟩
  obtain ⟨t2,k2⟩ : ∃ t2:Bool,t2=decide (r' / 2=1):=⟨_,rfl⟩
  have H1:=Lib.hid (fun w=>Is3D_lit r s1 (by subst h1;rcases (by omega:r=0∨r=1∨r=2∨r=3) with rfl | rfl | rfl | rfl <;> decide) w)
  have H2:=Lib.hid (fun w=>Is3D_lit r' s2 (by subst h2;rcases (by omega:r'=0∨r'=1∨r'=2∨r'=3) with rfl | rfl | rfl | rfl <;> decide) w)
  have H3:=Lib.hid (fun w=>IsMeasured_lit r t1 (by subst k1;rcases (by omega:r=0∨r=1∨r=2∨r=3) with rfl | rfl | rfl | rfl <;> decide) w)
  have H4:=Lib.hid (fun w=>IsMeasured_lit r' t2 (by subst k2;rcases (by omega:r'=0∨r'=1∨r'=2∨r'=3) with rfl | rfl | rfl | rfl <;> decide) w)
  have ez:(if r % 2=r' % 2 then z else 0)=if s1=s2 then z else 0:=by
    have:(r % 2=r' % 2)↔s1=s2:=by subst h1;subst h2;simp only [decide_eq_decide];omega
    simp only [this]
  have em:(if r / 2=r' / 2 then m else 0)=if t1=t2 then m else 0:=by
    have:(r / 2=r' / 2)↔t1=t2:=by subst k1;subst k2;simp only [decide_eq_decide];omega
    simp only [this]
  rw [ez,em]
  clear ez em h1 h2 k1 k2 hr hr'
  have hsf:=run_store_flt Tryz.prog
  have HX:Hid (F6 ((W.alloc (.cells #[.float .f64 x,.float .f64 y,.float .f64 z,.float .f64 m,.int .u8 r,.bool true] 87)).alloc (.cells #[.float .f64 0,.float .f64 0,.float .f64 0,.float .f64 0,.int .u8 0,.bool false] 87)) W.heap.size x y z m r):=by
    refine ⟨?_,?_,?_,?_,?_,?_,?_,?_,?_,?_,?_,?_,fun j=>?_,fun j=>?_⟩ <;> simp
  have HG:=Lib.hid (gt_alloc_r (World.grownBy_alloc W (.cells #[.float .f64 x,.float .f64 y,.float .f64 z,.float .f64 m,.int .u8 r,.bool true] 87) none) (.cells #[.float .f64 0,.float .f64 0,.float .f64 0,.float .f64 0,.int .u8 0,.bool false] 87))
  have hgs:∀ (w:World) (b jj:Nat) (y:Value),W.heap.size≤b→W.grownBy w none→W.grownBy (w.setCell ⟨b,jj,none⟩ y) none:=fun w b jj y hb g=>gt_set_r g _ _ hb
  have HGs:=Lib.hid hgs
  clear hgs
  obtain ⟨zz,hzz,hz⟩ : ∃ zz,zz=(if s1=s2 then z else 0)∧((s2==s1)=false∧zz=0∨(s2==s1)=true∧zz=z):=by
    refine ⟨_,rfl,?_⟩
    cases s1 <;> cases s2 <;> simp
  obtain ⟨mm,hmm,hm⟩ : ∃ mm,mm=(if t1=t2 then m else 0)∧((t2==t1)=false∧mm=0∨(t2==t1)=true∧mm=m):=by
    refine ⟨_,rfl,?_⟩
    cases t1 <;> cases t2 <;> simp
  rw [←hzz,←hmm]
  clear hzz hmm
  rcases hz with ⟨hz,hz0⟩ | ⟨hz,hz0⟩ <;> rcases hm with ⟨hm,hm0⟩ | ⟨hm,hm0⟩
  · rw [hz0,hm0]
    clear hz0 hm0
    go_enter Tryz.func213,Tryz.ntmps213
    go_wp2_with fail
    go_quiet (first | (go_at_call 142;exact Calls.quiet_of_same (H2.out _)) | (go_at_call 142;exact Calls.quiet_of_same (H1.out _)))
    have hX:=HX.out.drew nq
    have hgW:=gt_drewN_r HG.out nq
    revert hX hgW
    generalize ((W.alloc (.cells #[.float .f64 x,.float .f64 y,.float .f64 z,.float .f64 m,.int .u8 r,.bool true] 87)).alloc (.cells #[.float .f64 0,.float .f64 0,.float .f64 0,.float .f64 0,.int .u8 0,.bool false] 87)).drewN nq=w6
    intro hX hgW
    have HX6:=Lib.hid hX
    obtain ⟨y0,y1,y2,y3,y4,y5,x0,x1,x2,x3,x4,x5,yf,xf⟩:=hX
    have g2:=yf 2
    clear HX HG nq
    go_wp2_with fail
    go_quiet (first | (go_at_call 143;exact Calls.quiet_of_same (H4.out _)) | (go_at_call 143;exact Calls.quiet_of_same (H3.out _)))
    clear y0 y1 y2 y3 y4 y5 x0 x1 x2 x3 x4 x5 yf xf g2
    have hX:=HX6.out.setz.drew nq
    have hgW7:=gt_drewN_r (HGs.out w6 W.heap.size 2 (.float .f64 0) (Nat.le_refl _) hgW) nq
    revert hX hgW7
    generalize (w6.setCell ⟨W.heap.size,2,none⟩ (.float .f64 0)).drewN nq=w7
    intro hX hgW7
    obtain ⟨y0,y1,y2,y3,y4,y5,x0,x1,x2,x3,x4,x5,yf,xf⟩:=hX
    have f0:=xf 0
    have f1:=xf 1
    have f2:=xf 2
    have f3:=xf 3
    have f4:=xf 4
    have f5:=xf 5
    have g3:=yf 3
    have g4:=yf 4
    go_wp2_with fail
    refine bodyPost_ret (by simp [results,Tryz.results213,go_sem,x0,x1,x2,x3,x4,x5];try rfl) rfl ?_
    refine ⟨rfl,?_⟩
    repeat first
      | with_reducible exact hgW7
      | with_reducible refine HGs.out _ _ _ _ (Nat.le_add_right _ 1) ?_
      | with_reducible refine HGs.out _ _ _ _ (Nat.le_refl _) ?_
  · rw [hz0,hm0]
    clear hz0 hm0
    go_enter Tryz.func213,Tryz.ntmps213
    go_wp2_with fail
    go_quiet (first | (go_at_call 142;exact Calls.quiet_of_same (H2.out _)) | (go_at_call 142;exact Calls.quiet_of_same (H1.out _)))
    have hX:=HX.out.drew nq
    have hgW:=gt_drewN_r HG.out nq
    revert hX hgW
    generalize ((W.alloc (.cells #[.float .f64 x,.float .f64 y,.float .f64 z,.float .f64 m,.int .u8 r,.bool true] 87)).alloc (.cells #[.float .f64 0,.float .f64 0,.float .f64 0,.float .f64 0,.int .u8 0,.bool false] 87)).drewN nq=w6
    intro hX hgW
    have HX6:=Lib.hid hX
    obtain ⟨y0,y1,y2,y3,y4,y5,x0,x1,x2,x3,x4,x5,yf,xf⟩:=hX
    have g2:=yf 2
    clear HX HG nq
    go_wp2_with fail
    go_quiet (first | (go_at_call 143;exact Calls.quiet_of_same (H4.out _)) | (go_at_call 143;exact Calls.quiet_of_same (H3.out _)))
    clear y0 y1 y2 y3 y4 y5 x0 x1 x2 x3 x4 x5 yf xf g2
    have hX:=HX6.out.setz.drew nq
    have hgW7:=gt_drewN_r (HGs.out w6 W.heap.size 2 (.float .f64 0) (Nat.le_refl _) hgW) nq
    revert hX hgW7
    generalize (w6.setCell ⟨W.heap.size,2,none⟩ (.float .f64 0)).drewN nq=w7
    intro hX hgW7
    obtain ⟨y0,y1,y2,y3,y4,y5,x0,x1,x2,x3,x4,x5,yf,xf⟩:=hX
    have f0:=xf 0
    have f1:=xf 1
    have f2:=xf 2
    have f3:=xf 3
    have f4:=xf 4
    have f5:=xf 5
    have g3:=yf 3
    have g4:=yf 4
    go_wp2_with fail
    refine bodyPost_ret (by simp [results,Tryz.results213,go_sem,x0,x1,x2,x3,x4,x5];try rfl) rfl ?_
    refine ⟨rfl,?_⟩
    repeat first
      | with_reducible exact hgW7
      | with_reducible refine HGs.out _ _ _ _ (Nat.le_add_right _ 1) ?_
      | with_reducible refine HGs.out _ _ _ _ (Nat.le_refl _) ?_
  · rw [hz0,hm0]
    clear hz0 hm0
    go_enter Tryz.func213,Tryz.ntmps213
    go_wp2_with fail
    go_quiet (first | (go_at_call 142;exact Calls.quiet_of_same (H2.out _)) | (go_at_call 142;exact Calls.quiet_of_same (H1.out _)))
    have hX:=HX.out.drew nq
    have hgW:=gt_drewN_r HG.out nq
    revert hX hgW
    generalize ((W.alloc (.cells #[.float .f64 x,.float .f64 y,.float .f64 z,.float .f64 m,.int .u8 r,.bool true] 87)).alloc (.cells #[.float .f64 0,.float .f64 0,.float .f64 0,.float .f64 0,.int .u8 0,.bool false] 87)).drewN nq=w6
    intro hX hgW
    have HX6:=Lib.hid hX
    obtain ⟨y0,y1,y2,y3,y4,y5,x0,x1,x2,x3,x4,x5,yf,xf⟩:=hX
    have g2:=yf 2
    clear HX HG nq
    go_wp2_with fail
    go_quiet (first | (go_at_call 143;exact Calls.quiet_of_same (H4.out _)) | (go_at_call 143;exact Calls.quiet_of_same (H3.out _)))
    clear y0 y1 y2 y3 y4 y5 x0 x1 x2 x3 x4 x5 yf xf g2
    have hX:=HX6.out.drew nq
    have hgW7:=gt_drewN_r hgW nq
    revert hX hgW7
    generalize w6.drewN nq=w7
    intro hX hgW7
    obtain ⟨y0,y1,y2,y3,y4,y5,x0,x1,x2,x3,x4,x5,yf,xf⟩:=hX
    have f0:=xf 0
    have f1:=xf 1
    have f2:=xf 2
    have f3:=xf 3
    have f4:=xf 4
    have f5:=xf 5
    have g3:=yf 3
    have g4:=yf 4
    go_wp2_with fail
    refine bodyPost_ret (by simp [results,Tryz.results213,go_sem,x0,x1,x2,x3,x4,x5];try rfl) rfl ?_
    refine ⟨rfl,?_⟩
    repeat first
      | with_reducible exact hgW7
      | with_reducible refine HGs.out _ _ _ _ (Nat.le_add_right _ 1) ?_
      | with_reducible refine HGs.out _ _ _ _ (Nat.le_refl _) ?_
  · rw [hz0,hm0]
    clear hz0 hm0
    go_enter Tryz.func213,Tryz.ntmps213
    go_wp2_with fail
    go_quiet (first | (go_at_call 142;exact Calls.quiet_of_same (H2.out _)) | (go_at_call 142;exact Calls.quiet_of_same (H1.out _)))
    have hX:=HX.out.drew nq
    have hgW:=gt_drewN_r HG.out nq
    revert hX hgW
    generalize ((W.alloc (.cells #[.float .f64 x,.float .f64 y,.float .f64 z,.float .f64 m,.int .u8 r,.bool true] 87)).alloc (.cells #[.float .f64 0,.float .f64 0,.float .f64 0,.float .f64 0,.int .u8 0,.bool false] 87)).drewN nq=w6
    intro hX hgW
    have HX6:=Lib.hid hX
    obtain ⟨y0,y1,y2,y3,y4,y5,x0,x1,x2,x3,x4,x5,yf,xf⟩:=hX
    have g2:=yf 2
    clear HX HG nq
    go_wp2_with fail
    go_quiet (first | (go_at_call 143;exact Calls.quiet_of_same (H4.out _)) | (go_at_call 143;exact Calls.quiet_of_same (H3.out _)))
    clear y0 y1 y2 y3 y4 y5 x0 x1 x2 x3 x4 x5 yf xf g2
    have hX:=HX6.out.drew nq
    have hgW7:=gt_drewN_r hgW nq
    revert hX hgW7
    generalize w6.drewN nq=w7
    intro hX hgW7
    obtain ⟨y0,y1,y2,y3,y4,y5,x0,x1,x2,x3,x4,x5,yf,xf⟩:=hX
    have f0:=xf 0
    have f1:=xf 1
    have f2:=xf 2
    have f3:=xf 3
    have f4:=xf 4
    have f5:=xf 5
    have g3:=yf 3
    have g4:=yf 4
    go_wp2_with fail
    refine bodyPost_ret (by simp [results,Tryz.results213,go_sem,x0,x1,x2,x3,x4,x5];try rfl) rfl ?_
    refine ⟨rfl,?_⟩
    repeat first
      | with_reducible exact hgW7
      | with_reducible refine HGs.out _ _ _ _ (Nat.le_add_right _ 1) ?_
      | with_reducible refine HGs.out _ _ _ _ (Nat.le_refl _) ?_
end
end Go.Proofs.YtlpaecafpbbbkaaGreatDoor
