/- A shape as a geometry of plain data: GeomOf. -/
import Derived.Laws.FloatBits
import Derived.Deep.RegionHeld3
import Derived.Test.YtlpaecafpbbbkaaGreatDoorRCT1
import Derived.Test.YtlpaecafpbbbkaaGreatDoorRCT4
set_option linter.unusedVariables false
set_option linter.unusedSimpArgs false
set_option maxRecDepth 100000
set_option maxHeartbeats 24000000
namespace Go.Proofs.YtlpaecafpbbbkaaGreatDoor
section
open Go.Joins Go.ChangeShapes Go.WideShapes Go.RowKit Go.Deep Go.ChangeAt
def fI (i:Int):Nat:=floatOfInt FloatKind.f64 i
theorem fI_lt (i:Int):fI i<18446744073709551616:=by
  have h:=Ieee.Format.write_lt FloatKind.f64.format (.number (i<0) i.natAbs 0)
  have e:2 ^ FloatKind.f64.format.width=18446744073709551616:=by decide
  rw [e] at h
  exact h
def ptF (pts:List (Int × Int)) (i:Nat):Nat:=if i % 2=0 then fI (pts.getD (i / 2) (0,0)).1 else fI (pts.getD (i / 2) (0,0)).2
theorem ptF_lt (pts:List (Int × Int)) (i:Nat):ptF pts i<18446744073709551616:=by unfold ptF;split <;> exact fI_lt _
mutual
def rawS:Shp→Raw
  | .mk k pts kids=>.mk k 0 (2*pts.length) (ptF pts) (rawSs kids)
def rawSs:List Shp→List Raw
  | []=>[]
  | t::ts=>rawS t::rawSs ts
end
mutual
def okS:Shp→Prop
  | .mk _ pts kids=>pts.length≤2513169434843∧kids.length≤2513169434843∧okSs kids
def okSs:List Shp→Prop
  | []=>True
  | t::ts=>okS t∧okSs ts
end
theorem okSs_mem:∀ {ts:List Shp} {i:Nat} {t:Shp},okSs ts→ts[i]?=some t→okS t
  | [],_,_,_,h=>by simp at h
  | s::ts,0,t,h,hi=>by simp at hi;subst hi;unfold okSs at h;exact h.1
  | s::ts,i+1,t,h,hi=>by unfold okSs at h;exact okSs_mem h.2 (by simpa using hi)
theorem rawSs_append:∀ (a b:List Shp),rawSs (a++b)=rawSs a++rawSs b
  | [],b=>by simp [rawSs]
  | t::a,b=>by simp only [List.cons_append,rawSs,rawSs_append a b]
theorem rawSs_len:∀ (a:List Shp),(rawSs a).length=a.length
  | []=>by simp [rawSs]
  | t::a=>by simp only [rawSs,List.length_cons,rawSs_len a]
theorem rawSs_take (kids:List Shp) (j:Nat) (t:Shp) (h:kids[j]?=some t):rawSs (kids.take (j+1))=rawSs (kids.take j)++[rawS t]:=by
  obtain ⟨hlt,rfl⟩:=List.getElem?_eq_some_iff.1 h
  rw [List.take_succ_eq_append_getElem hlt,rawSs_append]
  simp [rawSs]
theorem flC_two (pts:List (Int × Int)) (j:Nat) (u:Int × Int) (h:pts[j]?=some u):flC (ptF pts) (2*(j+1))=flC (ptF pts) (2*j)++[.float .f64 (fI u.1),.float .f64 (fI u.2)]:=by
  have e:2*(j+1)=2*j+1+1:=by omega
  have e0:ptF pts (2*j)=fI u.1:=by
    unfold ptF
    rw [if_pos (by omega),show 2*j / 2=j by omega,List.getD_eq_getElem?_getD,h];rfl
  have e1:ptF pts (2*j+1)=fI u.2:=by
    unfold ptF
    rw [if_neg (by omega),show (2*j+1) / 2=j by omega,List.getD_eq_getElem?_getD,h];rfl
  rw [e]
  unfold flC
  rw [List.range_succ,List.range_succ]
  simp [e0,e1]
theorem infoFl:(Tryz.prog.info? 26).map (fun i=>(i.zero,i.size,i.bytes))=some (some (.float .f64 0),1,8):=by kernel_rfl
def WS (W:World) (s0 s1 s2:Value) (k:Int):World:=((W.alloc (.cells #[s0,s1,s2] 25)).alloc (.cells #[.int .i64 0,.int .i64 0,.slice none 0 0,.slice none 0 0] 33)).alloc (.cells #[.int .i64 k,.int .i64 0,.slice none 0 0,.slice none 0 0] 33)
theorem WS_size (W:World) (s0 s1 s2:Value) (k:Int):(WS W s0 s1 s2 k).heap.size=W.heap.size+3:=by simp [WS]
theorem WS_num (W:World) (s0 s1 s2:Value) (k:Int):NumB W (WS W s0 s1 s2 k) (W.heap.size+3) (W.heap.size+1+1) (WS W s0 s1 s2 k) k 0 (.slice none 0 0) 0 []:=by
  have hs:=WS_size W s0 s1 s2 k
  have g:W.grownBy (WS W s0 s1 s2 k) none:=gt_alloc_r (gt_alloc_r (World.grownBy_alloc W _ none) _) _
  have co:∀ j v,#[Value.int .i64 k,.int .i64 0,.slice none 0 0,.slice none 0 0][j]?=some v→(WS W s0 s1 s2 k).cell? ⟨W.heap.size+1+1,j,none⟩=some v:=fun j v hv=>(cell_new_at' ((W.alloc (.cells #[s0,s1,s2] 25)).alloc (.cells #[.int .i64 0,.int .i64 0,.slice none 0 0,.slice none 0 0] 33)) _ _ (W.heap.size+1+1) j (by simp)).trans hv
  refine ⟨⟨g,by omega,by omega,by omega,fun _ _ _ _ h=>h,fun _ _ _ _=>rfl,fun j=>?_⟩,co 0 _ rfl,co 1 _ rfl,co 2 _ rfl,co 3 _ rfl,World.ownsRow_nil _ _ _ _⟩
  exact frozen_new_at' _ _ _ _ j (by simp)
theorem WS_old (W wr:World) (s0 s1 s2:Value) (k:Int) (u:Und W (WS W s0 s1 s2 k) (W.heap.size+3) (W.heap.size+1+1) wr) :
    (wr.cell? ⟨W.heap.size,0,none⟩=some s0∧wr.cell? ⟨W.heap.size,1,none⟩=some s1∧wr.cell? ⟨W.heap.size,2,none⟩=some s2) ∧
    (wr.cell? ⟨W.heap.size+1,0,none⟩=some (.int .i64 0)∧wr.cell? ⟨W.heap.size+1,1,none⟩=some (.int .i64 0)∧wr.cell? ⟨W.heap.size+1,2,none⟩=some (.slice none 0 0)∧wr.cell? ⟨W.heap.size+1,3,none⟩=some (.slice none 0 0))∧∀ j,wr.frozen? ⟨W.heap.size+1,j,none⟩=false:=by
  have ca:∀ j v,#[s0,s1,s2][j]?=some v→wr.cell? ⟨W.heap.size,j,none⟩=some v:=fun j v hv=>u.keep ⟨W.heap.size,j,none⟩ v (by show W.heap.size<_;omega) (by show W.heap.size≠_;omega)
    ((gt_alloc_r (World.grownBy_alloc (W.alloc (.cells #[s0,s1,s2] 25)) _ none) _).cell ((cell_new_at' W #[s0,s1,s2] 25 W.heap.size j rfl).trans hv) (by simp))
  have gr:((W.alloc (.cells #[s0,s1,s2] 25)).alloc (.cells #[.int .i64 0,.int .i64 0,.slice none 0 0,.slice none 0 0] 33)).grownBy (WS W s0 s1 s2 k) none:=World.grownBy_alloc _ _ _
  have cr:∀ j v,#[Value.int .i64 0,.int .i64 0,.slice none 0 0,.slice none 0 0][j]?=some v→wr.cell? ⟨W.heap.size+1,j,none⟩=some v:=fun j v hv=>u.keep ⟨W.heap.size+1,j,none⟩ v (by show W.heap.size+1<_;omega) (by show W.heap.size+1≠_;omega)
    (gr.cell ((cell_new_at' (W.alloc (.cells #[s0,s1,s2] 25)) _ _ (W.heap.size+1) j (by simp)).trans hv) (by simp))
  refine ⟨⟨ca 0 _ rfl,ca 1 _ rfl,ca 2 _ rfl⟩,⟨cr 0 _ rfl,cr 1 _ rfl,cr 2 _ rfl,cr 3 _ rfl⟩,fun j=>?_⟩
  rw [u.kf (W.heap.size+1) j (by omega) (by omega),World.frozen?_of_block (gr.block (W.heap.size+1) (by simp) (by simp))]
  exact frozen_new_at' _ _ _ _ j (by simp)
def IHS (h:Nat):Prop:=∀ (W:World) (v:Value) (t:Shp),KS h W v t→okS t→Calls Tryz.prog 33 #[v] W fun e w'=>∃ v',e=.returned v'∧KD (Fr W w') h w' v' (rawS t)∧W.grownBy w' none
theorem geomOf_succ (h:Nat) (ih:IHS h):IHS (h+1):=by
  intro W v t hk hok
  obtain ⟨k,pts,kids⟩:=t
  obtain ⟨p,cap,q,c2,rfl,hpr,hkl,hkm,hkn,hkids⟩:=hk
  unfold okS at hok
  obtain ⟨hp2,hm2,hoks⟩:=hok
  have HPt:Hid (∀ w,W.grownBy w none→∀ j,j<pts.length→∃ a u,p=some a∧pts[j]?=some u∧w.cell? (a.add (j*2))=some (.int .i64 u.1)∧w.cell? ⟨(a.add (j*2)).block,(a.add (j*2)).off+1,none⟩=some (.int .i64 u.2)):=fun w g j hj=>by
    obtain ⟨a,ha⟩:=hpr.some_ (by omega)
    have hi:pts[j]?=some (pts[j]'hj):=List.getElem?_eq_getElem hj
    obtain ⟨q0,q1⟩:=(hpr.mono g).at_ a ha j _ hi
    exact ⟨a,_,ha,hi,q0,q1⟩
  have HKd:Hid (∀ w,W.grownBy w none→∀ j,j<kids.length→∃ a t c0 c1 c2,q=some a∧kids[j]?=some t∧KS h w (.agg #[c0,c1,c2]) t∧w.cell? (a.add (j*3))=some c0∧w.cell? ⟨(a.add (j*3)).block,(a.add (j*3)).off+1,none⟩=some c1∧w.cell? ⟨(a.add (j*3)).block,(a.add (j*3)).off+2,none⟩=some c2):=fun w g j hj=>by
    obtain ⟨a,ha⟩ : ∃ a,q=some a:=by
      cases q with
      | none=>have:=hkn rfl;omega
      | some a=>exact ⟨a,rfl⟩
    have hi:kids[j]?=some (kids[j]'hj):=List.getElem?_eq_getElem hj
    obtain ⟨c0,c1,c2,k0,q0,q1,q2⟩:=hkids a ha j _ hi
    exact ⟨a,_,c0,c1,c2,ha,hi,k0.mono g,g.cell q0 (by simp),g.cell q1 (by simp),g.cell q2 (by simp)⟩
  have HIH:Hid (∀ w v j t,kids[j]?=some t→KS h w v t→Calls Tryz.prog 33 #[v] w fun e w'=>∃ v',e=.returned v'∧KD (Fr w w') h w' v' (rawS t)∧w.grownBy w' none):=fun w v j t hj hk=>ih w v t hk (okSs_mem hoks hj)
  have HFl:=Lib.hid (fun j u (hj:pts[j]?=some u)=>flC_two pts j u hj)
  have HRt:=Lib.hid (fun j t (hj:kids[j]?=some t)=>rawSs_take kids j t hj)
  have HRl:Hid (∀ j,j≤kids.length→(rawSs (kids.take j)).length=j):=fun j hj=>by rw [rawSs_len,List.length_take];omega
  have HR0:Hid (rawSs (kids.take 0)=[]):=by show rawSs (kids.take 0)=[];rw [List.take_zero];simp [rawSs]
  have HRe:Hid (rawSs (kids.take kids.length)=rawSs kids):=by show rawSs (kids.take kids.length)=_;rw [List.take_length]
  have HLt:=Lib.hid (ptF_lt pts)
  have HO:=Lib.hid (fun wr u=>WS_old W wr (.int .i64 k) (.slice p pts.length cap) (.slice q kids.length c2) k u)
  have HN0:=Lib.hid (WS_num W (.int .i64 k) (.slice p pts.length cap) (.slice q kids.length c2) k)
  obtain ⟨WW,hWW⟩ : ∃ WW,WW=WS W (.int .i64 k) (.slice p pts.length cap) (.slice q kids.length c2) k:=⟨_,rfl⟩
  have HWW:Hid (WW=((W.alloc (.cells #[.int .i64 k,.slice p pts.length cap,.slice q kids.length c2] 25)).alloc (.cells #[.int .i64 0,.int .i64 0,.slice none 0 0,.slice none 0 0] 33)).alloc (.cells #[.int .i64 k,.int .i64 0,.slice none 0 0,.slice none 0 0] 33)):=by rw [hWW];rfl
  rw [←hWW] at HN0
  simp only [←hWW] at HO
  unfold rawS
  generalize ptF pts=F at HFl HLt ⊢
  generalize rawSs kids=RK at HRe ⊢
  generalize hN:pts.length=N at HPt HO HN0 HWW hp2 ⊢
  generalize hM:kids.length=M at HKd HRl HRe HO HN0 HWW hm2 ⊢
  clear hpr hkids hkn hoks hWW hN hM ih hkl hkm
  have hsf:=run_store_flt Tryz.prog
  go_enter Tryz.func33,Tryz.ntmps33
  go_wp2_with fail
  rw [←HWW.out]
  go_loopw [14] (fun i wr=>∃ (j:Nat) (x:Value),j≤N∧i=.int .i64 j∧NumB W WW (W.heap.size+3) (W.heap.size+1+1) wr k 0 x (2*j) (flC F (2*j))) (fun i _=>N - (intOf i).toNat)
  case atStart=>exact ⟨0,_,by omega,rfl,HN0.out⟩
  case round =>
    obtain ⟨j,x,hj,rfl,I⟩:=hrel
    rename World=>wr
    by_cases hjN:j<N
    · obtain ⟨a,⟨ux,uy⟩,rfl,hu,q0,q1⟩:=HPt.out wr I.u.g j hjN
      have HFj:=Lib.hid (HFl.out j _ hu)
      have hbig:=I.u.big
      have hz:W.heap.size+1+1<wr.heap.size:=by omega
      have o2:=I.o2
      obtain ⟨px,cx,rfl⟩ : ∃ px cx,x=.slice px (2*j) cx:=by
        obtain ⟨px,cx,e,_⟩:=own_form I.own
        exact ⟨px,cx,e⟩
      have HI:=Lib.hid I
      have HX7:Hid (∀ w6 w7,wr.grownBy w6 none→w6.grownBy w7 (Value.slice px (2*j) cx).ownBlock→w7.cell? ⟨W.heap.size+1+1,2,none⟩=some (.slice px (2*j) cx)∧w7.frozen? ⟨W.heap.size+1+1,2,none⟩=false):=fun w6 w7 g g'=>by
        have hi:=HI.out.kept g
        have hne:some (W.heap.size+1+1)≠(Value.slice px (2*j) cx).ownBlock:=fun e=>by have:=(hi.own.lt _ e.symm).1;omega
        exact ⟨g'.cell hi.o2 hne,by rw [World.frozen?_of_block (g'.block (W.heap.size+1+1) (by have:=hi.u.big;omega) hne)];exact hi.u.of_ 2⟩
      clear hu I
      go_wp2_with (at_builtin;refine app_cells2 (size:=1) (n:=2*j) (xs:=flC F (2*j)) (base:=W.heap.size+3) rfl _ _ _ rfl Tryz.underlying30 (.float .f64 0) 8 infoFl rfl (Nat.succ_pos 0) rfl rfl (by simp) _ (HI.out.kept (gt_alloc_r (World.grownBy_alloc _ _ _) _)).own rfl (by simp [Value.oneCell']) (Nat.succ_pos 1) (by simp;omega) (by omega) (by omega) ?_;intro gg cap7 w7 hown7 hg7 hat7;obtain ⟨u2,uf⟩:=HX7.out _ _ (gt_alloc_r (World.grownBy_alloc _ _ _) _) hg7;have HFin:=Lib.hid (HI.out.app (gt_alloc_r (World.grownBy_alloc _ _ _) _) hg7 hown7);clear hown7 hg7 hat7)
      exact ⟨⟨j+1,_,by omega,by go_num,by rw [HFj.out];exact HFin.out⟩,by simp [intOf];omega⟩
    · obtain rfl:j=N:=by omega
      obtain ⟨⟨s0,s1,s2⟩,_,_⟩:=HO.out _ I.u
      obtain ⟨pn,cn,rfl,I2⟩:=KidB.of_num I h HLt.out
      have hI2:=Lib.hid I2
      have o3:=I2.o3
      clear I I2
      go_wp2_with fail
      go_wp2_with fail
      clear s0 s1 s2 o3
      go_loopw [33] (fun i w2=>∃ (l:Nat) (y:Value) (cs:List Value),l≤M∧i=.int .i64 l∧KidB W WW (W.heap.size+3) (W.heap.size+1+1) w2 h k 0 pn (2*j) cn F y (rawSs (kids.take l)) cs) (fun i _=>M - (intOf i).toNat)
      case atStart=>exact ⟨0,_,_,by omega,rfl,by rw [HR0.out];exact hI2.out⟩
      case round =>
        clear hI2
        obtain ⟨l,y,cs,hl,rfl,I⟩:=hrel
        rename World=>w2
        have hll:=HRl.out l hl
        obtain ⟨py,cy,rfl,_⟩:=own_form I.kr.1
        rw [hll] at I
        by_cases hlM:l<M
        · obtain ⟨a,t,c0,c1,c2',rfl,hti,kk,q0,q1,q2⟩:=HKd.out w2 I.u.g l hlM
          obtain ⟨k1,pts1,kids1,p1,cap1,q1',cq1,_,rfl,rfl,rfl⟩:=kk.form3
          generalize pts1.length=n1 at kk q1
          generalize kids1.length=m1 at kk q2
          have hbig:=I.u.big
          have hz:W.heap.size+1+1<w2.heap.size:=by omega
          have HG5:=Lib.hid (World.grownBy_alloc w2 (.cells #[.int .i64 k1,.slice p1 n1 cap1,.slice q1' m1 cq1] 25) none)
          have HK5:Hid (∀ w,w2.grownBy w none→Calls Tryz.prog 33 #[.agg #[.int .i64 k1,.slice p1 n1 cap1,.slice q1' m1 cq1]] w (fun e w'=>∃ k6 d6 p6 n6 cap6 q6 m6 cq6,e=.returned (.agg #[.int .i64 k6,.int .i64 d6,.slice p6 n6 cap6,.slice q6 m6 cq6])∧KD (Fr w w') h w' (.agg #[.int .i64 k6,.int .i64 d6,.slice p6 n6 cap6,.slice q6 m6 cq6]) (rawS t)∧w.grownBy w' none)):=fun w g=>(HIH.out w _ l t hti (kk.mono g)).mono fun e w' ⟨v',he,hk,hg⟩=>by
            obtain ⟨k6,d6,n6,f6,kids6,p6,cap6,q6,cq6,_,hv⟩:=hk.form
            exact ⟨k6,d6,p6,n6,cap6,q6,_,cq6,by rw [he,hv],by rw [←hv];exact hk,hg⟩
          have HRj:=Lib.hid (HRt.out l t hti)
          have HI:=Lib.hid I
          have HOw:Hid (∀ w,w2.grownBy w none→w.ownsRow (W.heap.size+3) 33 4 (.slice py l cy) l cs):=fun w g=>by
            have hh:=(HI.out.kept g).kr.1
            rw [hll] at hh
            exact hh
          have HX7:Hid (∀ w6 w7,w2.grownBy w6 none→w6.grownBy w7 (Value.slice py l cy).ownBlock→w7.cell? ⟨W.heap.size+1+1,3,none⟩=some (.slice py l cy)∧w7.frozen? ⟨W.heap.size+1+1,3,none⟩=false):=fun w6 w7 g g'=>by
            have hi:=HI.out.kept g
            have hne:some (W.heap.size+1+1)≠(Value.slice py l cy).ownBlock:=fun e=>by have:=(hi.kr.1.lt _ e.symm).1;omega
            exact ⟨g'.cell hi.o3 hne,by rw [World.frozen?_of_block (g'.block (W.heap.size+1+1) (by have:=hi.u.big;omega) hne)];exact hi.u.of_ 3⟩
          have HSn:Hid (∀ (w1 w4 w5 w7:World) (d0 d1 d2 d3:Value) (gg cap:Nat),w2.grownBy w1 none→w1.grownBy w4 none→w4.grownBy w5 none→KD (Fr w1 w4) h w4 (.agg #[d0,d1,d2,d3]) (rawS t)→w7.ownsRow (W.heap.size+3) 33 4 (.slice (some ⟨gg,0,none⟩) (l+1) cap) (l+1) (cs++[d0,d1,d2,d3])→w5.grownBy w7 (Value.slice py l cy).ownBlock→((Value.slice py l cy).ownBlock=some gg∨gg=w5.heap.size) →
              KidB W WW (W.heap.size+3) (W.heap.size+1+1) (w7.setCell ⟨W.heap.size+1+1,3,none⟩ (.slice (some ⟨gg,0,none⟩) (l+1) cap)) h k 0 pn (2*j) cn F (.slice (some ⟨gg,0,none⟩) (l+1) cap) (rawSs (kids.take l)++[rawS t]) (cs++[d0,d1,d2,d3])):=fun w1 w4 w5 w7 d0 d1 d2 d3 gg cap g1 g2 g3 hk hown g4 hg=>by
            have hh:=HI.out.snoc g1 g2 g3 hk (gg:=gg) (cap:=cap) (by rw [hll];exact hown) g4 hg
            rw [hll] at hh
            exact hh
          have HS:Hid (∀ w,(w2.alloc (.cells #[.int .i64 k1,.slice p1 n1 cap1,.slice q1' m1 cq1] 25)).grownBy w none→w.cell? ⟨w2.heap.size,0,none⟩=some (.int .i64 k1)∧w.cell? ⟨w2.heap.size,1,none⟩=some (.slice p1 n1 cap1)∧w.cell? ⟨w2.heap.size,2,none⟩=some (.slice q1' m1 cq1)∧w.cell? ⟨W.heap.size+1+1,3,none⟩=some (.slice py l cy)):=fun w g =>
            ⟨g.cell (by simp) (by simp),g.cell (by simp) (by simp),g.cell (by simp) (by simp),by have:=(HI.out.kept (gt_trans HG5.out g (.inl rfl))).o3;exact this⟩
          clear I kk hti
          go_wp2_with fail
          have hgd:=gt_drew_r (gt_refl (w2.alloc (.cells #[.int .i64 k1,.slice p1 n1 cap1,.slice q1' m1 cq1] 25)) none)
          obtain ⟨b0,b1,b2,b3⟩:=HS.out _ (gt_refl _ _)
          go_region_law (first
              | (rw [if_pos (by simp [Region.wanted])];go_simp;go_at_call 33;(with_reducible refine (HK5.out _ ?_).mono ?_);exact gt_trans HG5.out hgd (.inl rfl);rintro e w5 ⟨k6,d6,p6,n6,cap6,q6,m6,cq6,rfl,hk5,hg5⟩;have Hk5:=Lib.hid hk5;clear hk5;have G6:=gt_trans hgd hg5 (.inl rfl);obtain ⟨d0,d1,d2,d3⟩:=HS.out _ G6;have hz5:W.heap.size+1+1<w5.heap.size:=by have:=G6.size;simp at this;omega)
              | (refine app_cells2_step (size:=4) (n:=l) (xs:=cs) (base:=W.heap.size+3) rfl _ _ _ rfl Tryz.underlying31 (.agg #[.int .i64 0,.int .i64 0,.slice none 0 0,.slice none 0 0]) 64 infoG rfl (Nat.succ_pos 3) rfl rfl rfl _ (HOw.out _ (gt_alloc_r (gt_trans HG5.out G6 (.inl rfl)) _)) rfl (one4 _ _ _ _ _ _ _ _) (Nat.succ_pos 0) (by have:=G6.size;simp at this ⊢;omega) (by omega) (by omega) ?_;intro gg cap7 w7 hown7 hg7 hat7;obtain ⟨u3,uf⟩:=HX7.out _ _ (gt_alloc_r (gt_trans HG5.out G6 (.inl rfl)) _) hg7;have HFin:=Lib.hid (HSn.out _ _ _ _ _ _ _ _ _ _ (gt_trans HG5.out hgd (.inl rfl)) hg5 (World.grownBy_alloc _ _ _) Hk5.out hown7 hg7 hat7);clear hown7 hg7 hat7))
          all_goals
            go_wp2_with fail
            exact ⟨⟨l+1,_,_,by omega,by go_num,by rw [HRj.out];exact HFin.out⟩,by simp [intOf];omega⟩
        · obtain rfl:l=M:=by omega
          obtain ⟨_,⟨r0,r1,r2,r3⟩,rf⟩:=HO.out _ I.u
          have o0:=I.o0
          have o1:=I.o1
          have o2:=I.o2
          have o3:=I.o3
          have rf0:=rf 0
          have rf1:=rf 1
          have rf2:=rf 2
          have rf3:=rf 3
          have HEnd:=Lib.hid (I.end_ (W.heap.size+1) (by omega) (by omega))
          rw [HRe.out] at HEnd
          clear I
          go_wp2_with fail
          go_wp2_with fail
          refine bodyPost_ret (by simp [results,Tryz.results33,go_sem,r0,r1,r2,r3];try rfl) rfl ?_
          exact ⟨_,rfl,HEnd.out.1,HEnd.out.2⟩
end
end Go.Proofs.YtlpaecafpbbbkaaGreatDoor
