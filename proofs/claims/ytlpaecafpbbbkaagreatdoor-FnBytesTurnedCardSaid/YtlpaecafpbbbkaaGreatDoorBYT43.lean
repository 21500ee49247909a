/- SameNums, SameGeom of equal data: they answer true. FnBytesReads, walked whole: whatever the bytes, it answers true. The reference's writer of well known binary: its state, and a number of n bytes. The reference's writer of well known binary: a number of n bytes, the least first. The reference's writer of well known binary: rows of numbers, lines. -/
import Derived.Deep.RegionHeld3
import Derived.Deep.RegionLaw
import Derived.Test.YtlpaecafpbbbkaaGreatDoorBYT1
import Derived.Test.YtlpaecafpbbbkaaGreatDoorBYT2
import Derived.Test.YtlpaecafpbbbkaaGreatDoorBYT3
import Derived.Test.YtlpaecafpbbbkaaGreatDoorBYT13
import Derived.Test.YtlpaecafpbbbkaaGreatDoorBYT42
set_option linter.unusedVariables false
set_option linter.unusedSimpArgs false
set_option maxRecDepth 100000
set_option maxHeartbeats 24000000
namespace Go.Proofs.YtlpaecafpbbbkaaGreatDoor
section
open Go.RowKit
theorem SameNums_any (p q:Option Addr) (n c c2:Nat) (f g:Nat→Nat) (W:World) (hf:FVal W p n f) (hg:FVal W q n g) (hn:n≤9223372036854775807) (he:∀ i,i<n→f i=g i) :
    Calls Tryz.prog 34 #[.slice p n c,.slice q n c2] W fun e w'=>e=.returned (.bool true)∧W.grownBy w' none:=by
  have hfb:∀ (w:World) (b:Nat),Sem.run Tryz.prog (callFunc 83 #[.float .f64 b]) w=.ok (.value (.int .u64 b)) w:=fun w b=>by kernel_rfl
  have HF:=Lib.hid hf
  have HGv:=Lib.hid hg
  have HE:=Lib.hid he
  clear hf hg he
  go_enter Tryz.func34,Tryz.ntmps34
  go_wp2_with fail
  go_loopw [14] (fun i wr=>∃ j:Nat,j≤n∧i=.int .i64 j∧W.grownBy wr none) (fun i _=>n - (intOf i).toNat)
  case atStart=>exact ⟨0,by omega,rfl,gt_refl _ _⟩
  case round =>
    obtain ⟨j,hj,rfl,Gr⟩:=hrel
    rename World=>wr
    by_cases hjn:j<n
    · obtain ⟨a,rfl⟩:=HF.out.some_ (by omega)
      obtain ⟨b,rfl⟩:=HGv.out.some_ (by omega)
      have q0:=(HF.out.mono Gr).at_ a rfl j hjn
      have q1:=(HGv.out.mono Gr).at_ b rfl j hjn
      rw [←HE.out j hjn] at q1
      have hj0:(0:Int)≤(j:Int):=by omega
      have hj1:(j:Int)<(n:Int):=by omega
      go_wp2_with fail
      go_region
      all_goals
        go_wp2_with fail
        exact ⟨⟨j+1,by omega,by go_num,gt_trans Gr (gt_below (by go_grown) none) (.inl rfl)⟩,by simp [intOf];omega⟩
    · obtain rfl:j=n:=by omega
      go_wp2_with fail
      go_wp2_with fail
      go_ret
      exact ⟨rfl,Gr⟩
inductive SameT:Raw→Raw→Prop where
  | mk {k d:Int} {n:Nat} {f f':Nat→Nat} {kids kids':List Raw} (hf:∀ i,i<n→f i=f' i) (hl:kids.length=kids'.length) (hk:∀ (i:Nat) (t t':Raw),kids[i]?=some t→kids'[i]?=some t'→SameT t t'):SameT (.mk k d n f kids) (.mk k d n f' kids')
def SameOk (h:Nat):Prop:=∀ (B1 B2:Nat→Prop) (W:World) (v1 v2:Value) (t1 t2:Raw),KD B1 h W v1 t1→KD B2 h W v2 t2→SameT t1 t2→Calls Tryz.prog 13 #[v1,v2] W fun e w'=>e=.returned (.bool true)∧W.grownBy w' none
theorem SameGeoms_of (M:Nat) (p q:Option Addr) (c c2:Nat) (W:World) (hM:M≤9223372036854775807)
    (HR:∀ w,W.grownBy w none→∀ j,j<M→∃ (a b:Addr) (k1 d1:Int) (p1:Option Addr) (n1 e1:Nat) (q1:Option Addr) (m1 g1:Nat) (k2 d2:Int) (p2:Option Addr) (n2 e2:Nat) (q2:Option Addr) (m2 g2:Nat),p=some a∧q=some b∧(w.cell? (a.add (j*4))=some (.int .i64 k1)∧w.cell? ⟨(a.add (j*4)).block,(a.add (j*4)).off+1,none⟩=some (.int .i64 d1)∧w.cell? ⟨(a.add (j*4)).block,(a.add (j*4)).off+2,none⟩=some (.slice p1 n1 e1)∧w.cell? ⟨(a.add (j*4)).block,(a.add (j*4)).off+3,none⟩=some (.slice q1 m1 g1)) ∧
      (w.cell? (b.add (j*4))=some (.int .i64 k2)∧w.cell? ⟨(b.add (j*4)).block,(b.add (j*4)).off+1,none⟩=some (.int .i64 d2)∧w.cell? ⟨(b.add (j*4)).block,(b.add (j*4)).off+2,none⟩=some (.slice p2 n2 e2)∧w.cell? ⟨(b.add (j*4)).block,(b.add (j*4)).off+3,none⟩=some (.slice q2 m2 g2)) ∧
      ∀ w',w.grownBy w' none→Calls Tryz.prog 13 #[.agg #[.int .i64 k1,.int .i64 d1,.slice p1 n1 e1,.slice q1 m1 g1],.agg #[.int .i64 k2,.int .i64 d2,.slice p2 n2 e2,.slice q2 m2 g2]] w' fun e w2=>e=.returned (.bool true)∧w'.grownBy w2 none) :
    Calls Tryz.prog 35 #[.slice p M c,.slice q M c2] W fun e w'=>e=.returned (.bool true)∧W.grownBy w' none:=by
  have HRd:=Lib.hid HR
  clear HR
  go_enter Tryz.func35,Tryz.ntmps35
  go_wp2_with fail
  go_loopw [14] (fun i wr=>∃ j:Nat,j≤M∧i=.int .i64 j∧W.grownBy wr none) (fun i _=>M - (intOf i).toNat)
  case atStart=>exact ⟨0,by omega,rfl,gt_refl _ _⟩
  case round =>
    obtain ⟨j,hj,rfl,Gr⟩:=hrel
    rename World=>wr
    by_cases hjM:j<M
    · obtain ⟨a,b,k1,d1,p1,n1,e1,q1,m1,g1,k2,d2,p2,n2,e2,q2,m2,g2,rfl,rfl,⟨y0,y1,y2,y3⟩,⟨z0,z1,z2,z3⟩,hc⟩:=HRd.out wr Gr j hjM
      have HC:=Lib.hid hc
      have hz9:b.block<wr.heap.size+1:=by have:=World.block_lt_of_cell? wr _ z0;rw [add_block] at this;omega
      have hz8:(b.add (j*4)).block<wr.heap.size+1:=by rw [add_block];exact hz9
      have hj0:(0:Int)≤(j:Int):=by omega
      have hj1:(j:Int)<(M:Int):=by omega
      have hb:b.block<wr.heap.size:=by have:=World.block_lt_of_cell? wr _ z0;rw [add_block] at this;exact this
      have hb2:(b.add (j*4)).block<wr.heap.size:=by rw [add_block];exact hb
      clear hc
      go_wp2_with fail
      go_region_law (first
        | (rw [if_pos (by simp [Region.wanted])];go_simp;go_at_call 13;(with_reducible refine (HC.out _ ?_).mono ?_);exact gt_below (by go_grown) none;rintro e w3 ⟨rfl,hg3⟩))
      all_goals
        go_wp2_with fail
        exact ⟨⟨j+1,by omega,by go_num,gt_trans Gr (gt_trans (gt_below (by go_grown) none) hg3 (.inl rfl)) (.inl rfl)⟩,by simp [intOf];omega⟩
    · obtain rfl:j=M:=by omega
      go_wp2_with fail
      go_wp2_with fail
      go_ret
      exact ⟨rfl,Gr⟩
theorem sameGeom_succ (h:Nat) (ih:SameOk h):SameOk (h+1):=by
  intro B1 B2 W v1 v2 t1 t2 hk1 hk2 hs
  obtain ⟨hf,hl,hkd⟩:=hs
  rename_i k d n f f' kids kids'
  obtain ⟨p,cap,q,cq,rfl,hf1,h11,h12,h13,hm1,hm2,hm3,hm4,_⟩:=hk1
  obtain ⟨p',cap',q',cq',rfl,hf2,h21,h22,h23,hn1,hn2,hn3,hn4,_⟩:=hk2
  have hn9:n≤9223372036854775807:=by unfold maxLen at h12;omega
  have hM9:kids.length≤9223372036854775807:=by unfold maxLen at hm2;omega
  have HN:=Lib.hid (fun w (g:W.grownBy w none)=>SameNums_any p p' n cap cap' f f' w (hf1.mono g) (hf2.mono g) hn9 hf)
  rw [←hl] at hn1 ⊢
  have HG2:=Lib.hid (fun w (g:W.grownBy w none)=>SameGeoms_of kids.length q q' cq cq' w hM9 (fun w' g' j hj=>by
    have G:=gt_trans g g' (.inl rfl)
    obtain ⟨a,ha⟩ : ∃ a,q=some a:=by
      cases q with
      | none=>have:=hm3 rfl;omega
      | some a=>exact ⟨a,rfl⟩
    obtain ⟨b,hb⟩ : ∃ b,q'=some b:=by
      cases q' with
      | none=>have:=hn3 rfl;omega
      | some b=>exact ⟨b,rfl⟩
    have hi:kids[j]?=some (kids[j]'hj):=List.getElem?_eq_getElem hj
    have hi':kids'[j]?=some (kids'[j]'(by omega)):=List.getElem?_eq_getElem (by omega)
    obtain ⟨c0,c1,c2,c3,k0,x0,x1,x2,x3⟩:=hm4 a ha j _ hi
    obtain ⟨d0,d1,d2,d3,l0,y0,y1,y2,y3⟩:=hn4 b hb j _ hi'
    have hss:=hkd j _ _ hi hi'
    obtain ⟨e1,r1,n1,f1,kk1,p1,cap1,q1,cq1,_,rfl,rfl,rfl,rfl⟩:=k0.form4
    obtain ⟨e2,r2,n2,f2,kk2,p2,cap2,q2,cq2,_,rfl,rfl,rfl,rfl⟩:=l0.form4
    exact ⟨a,b,e1,r1,p1,n1,cap1,q1,_,cq1,e2,r2,p2,n2,cap2,q2,_,cq2,ha,hb,⟨G.cell x0 (by simp),G.cell x1 (by simp),G.cell x2 (by simp),G.cell x3 (by simp)⟩,⟨G.cell y0 (by simp),G.cell y1 (by simp),G.cell y2 (by simp),G.cell y3 (by simp)⟩,fun w2 g2=>ih B1 B2 w2 _ _ _ _ ((k0.mono G).mono g2) ((l0.mono G).mono g2) hss⟩))
  generalize kids.length=M at HG2 ⊢
  have HG:=Lib.hid (gt_alloc_r (World.grownBy_alloc W (.cells #[.int .i64 k,.int .i64 d,.slice p n cap,.slice q M cq] 33) none) (.cells #[.int .i64 k,.int .i64 d,.slice p' n cap',.slice q' M cq'] 33))
  have HB:Hid (∀ w,((W.alloc (.cells #[.int .i64 k,.int .i64 d,.slice p n cap,.slice q M cq] 33)).alloc (.cells #[.int .i64 k,.int .i64 d,.slice p' n cap',.slice q' M cq'] 33)).grownBy w none→w.cell? ⟨W.heap.size,3,none⟩=some (.slice q M cq)∧w.cell? ⟨W.heap.size+1,3,none⟩=some (.slice q' M cq')):=fun w g=>⟨g.cell (by simp) (by simp),g.cell (by simp) (by simp)⟩
  clear hf hl hkd hf1 hf2 h11 h12 h13 hm1 hm2 hm3 hm4 h21 h22 h23 hn1 hn2 hn3 hn4 hn9 hM9 ih
  go_enter Tryz.func13,Tryz.ntmps13
  go_wp2_with (first
    | (go_at_call 34;refine (HN.out _ HG.out).mono ?_;rintro e w2 ⟨rfl,hg2⟩;obtain ⟨b1,b2⟩:=HB.out _ hg2)
    | (go_at_call 35;refine (HG2.out _ (gt_trans HG.out hg2 (.inl rfl))).mono ?_;rintro e w3 ⟨rfl,hg3⟩))
  go_ret
  exact ⟨rfl,gt_trans (gt_trans HG.out hg2 (.inl rfl)) hg3 (.inl rfl)⟩
theorem sameOk:∀ h,SameOk h
  | 0=>fun _ _ _ _ _ _ _ hk=>hk.elim
  | h+1=>sameGeom_succ h (sameOk h)
end
section
open Go.Joins Go.ChangeShapes Go.WideShapes Go.RowKit Go.Deep Go.ChangeAt
mutual
theorem same_data:∀ t:Raw,SameT (dataT t) t
  | .mk k d n f kids=>by
    unfold dataT
    refine .mk (fun i hi=>by rw [if_neg (by omega)]) (dataTs_len kids) (fun i t t' h h'=>?_)
    rw [dataTs_get,h'] at h
    injection h with e
    subst e
    exact same_datas kids i t' h'
theorem same_datas:∀ (ts:List Raw) (i:Nat) (t:Raw),ts[i]?=some t→SameT (dataT t) t
  | [],_,_,h=>by simp at h
  | s::ts,0,t,h=>by
    simp at h
    subst h
    exact same_data s
  | s::ts,i+1,t,h=>same_datas ts i t (by simpa using h)
end
section
variable {H:Type} {enc:TypeId × Value→H} {W:World} {base:Nat} {spare:Nat→Bool} {held:Bool}
theorem BIn_of_trod {fuel:Nat} {c:Value} {x:DataW H × List MemPlace} (h:DataW.trod enc Tryz.prog W base spare held fuel 39 [c]=some x):∃ l:List UInt8,BIn W c l:=by
  rcases DataW.trod_slice Tryz.underlying39 h with ⟨e,_⟩ | ⟨a,len,cap,elems,rest,n,_,e,_,hb,hlc,hcm,hel,hat,_⟩
  · simp only [List.cons.injEq,and_true] at e
    exact ⟨[],none,0,e,Nat.le_refl _,by decide,fun _=>rfl,fun h=>absurd h (by simp)⟩
  · simp only [List.cons.injEq,and_true] at e
    obtain ⟨l,hl,hp⟩:=list_of (P:=fun i (u:UInt8)=>W.cell? (a.add i)=some (.int .u8 u.toNat)) len (fun i hi=>by
      have h1:=hat i hi
      rw [show Tryz.prog.cellsOf 5=1 by kernel_rfl,Nat.mul_one] at h1
      have hx:∃ y,elems[i]?=some y:=⟨_,List.getElem?_eq_getElem (by omega)⟩
      obtain ⟨y,hy⟩:=hx
      rw [hy] at h1
      obtain ⟨cs,hc,ht⟩:=Option.bind_eq_some_iff.1 h1
      obtain ⟨k,rfl,_,hwf⟩:=DataW.trod_int Tryz.underlying5 ht
      have hk:0≤k∧k≤255:=by simpa [Lit.wf,IntKind.min,IntKind.max,IntKind.signed,IntKind.bits] using hwf
      refine ⟨UInt8.ofNat k.toNat,?_⟩
      rw [cell_of_cells?_one hc]
      congr 2
      rw [UInt8.toNat_ofNat']
      omega)
    refine ⟨l,some a,cap,by rw [e,hl],by omega,hcm,(fun h=>by cases h),fun h0=>?_⟩
    have h00:=hp 0 (l[0]'h0) (List.getElem?_eq_getElem h0)
    obtain ⟨b,o,spot⟩:=a
    have hspot:spot=none:=by simpa [Addr.add] using World.cell?_spot h00
    subst hspot
    refine ⟨b,o,rfl,fun i u hi=>?_⟩
    have:=hp i u hi
    unfold Addr.add at this
    split at this
    · rename_i h0
      subst h0
      exact this
    · exact this
end
theorem reads_no (W:World) (x:Value) (l:List UInt8) (hb:BIn W x l) (hl2:l.length≤2000) (hR:rdG true 223 (-1) l≠.bad true) (hno:∀ t l',rdG true 223 (-1) l=.ok t l'→okK t=false) :
    (∀ w,W.grownBy w none→Calls Tryz.prog 15 #[x,.bool false] w fun e w'=>e=.returned (.tuple #[.agg #[.int .i64 0,.int .i64 0,.slice none 0 0,.slice none 0 0],.bool false])∧w.grownBy w' none) ∧
    ∀ w,W.grownBy w none→Calls Tryz.prog 16 #[x] w fun e w'=>e=.returned (.tuple #[.agg #[.int .i64 0,.int .i64 0,.slice none 0 0,.slice none 0 0],.bool false])∧w.grownBy w' none:=by
  refine ⟨fun w g=>(readWKB_any 223 w x l (hb.mono g) hR (by omega) (by omega)).mono fun e w' ⟨hg,hor⟩=>⟨?_,hg⟩,fun w g=>(specRead_any 223 w x l (hb.mono g) (by omega) hl2).mono fun e w' ⟨hg,hm⟩=>⟨?_,hg⟩⟩
  · rcases hor with ⟨_,he⟩ | ⟨t,l',k6,d6,p6,n6,c6,q6,m6,c7,h1,h2,_⟩
    · exact he
    · rw [hno t l' h1] at h2;cases h2
  · have hs:rdG false 223 (-1) l=.bad false:=by
      have key:=rdG_same 223 (-1) l
      cases hc:rdG true 223 (-1) l with
      | ok t l' =>
        rw [key.1 t l' hc,hno t l' hc]
        rfl
      | bad g =>
        cases g
        · exact key.2 hc
        · exact absurd hc hR
    rw [hs] at hm
    exact hm
theorem reads_yes (W:World) (x:Value) (l l':List UInt8) (t:Raw) (hb:BIn W x l) (hl2:l.length≤2000) (hR:rdG true 223 (-1) l=.ok t l') (hok:okK t=true) :
    (∀ w,W.grownBy w none→Calls Tryz.prog 15 #[x,.bool false] w fun e w'=>∃ k6 d6 p6 n6 c6 q6 m6 c7,e=.returned (.tuple #[.agg #[.int .i64 k6,.int .i64 d6,.slice p6 n6 c6,.slice q6 m6 c7],.bool true])∧KD (Fr w w') 225 w' (.agg #[.int .i64 k6,.int .i64 d6,.slice p6 n6 c6,.slice q6 m6 c7]) (dataT (newT t))∧w.grownBy w' none) ∧
    ∀ w,W.grownBy w none→Calls Tryz.prog 16 #[x] w fun e w'=>∃ k6 d6 p6 n6 c6 q6 m6 c7,e=.returned (.tuple #[.agg #[.int .i64 k6,.int .i64 d6,.slice p6 n6 c6,.slice q6 m6 c7],.bool true])∧KD (Fr w w') 225 w' (.agg #[.int .i64 k6,.int .i64 d6,.slice p6 n6 c6,.slice q6 m6 c7]) (newT t)∧w.grownBy w' none:=by
  refine ⟨fun w g=>(readWKB_any 223 w x l (hb.mono g) (by rw [hR];exact fun h=>by cases h) (by omega) (by omega)).mono fun e w' ⟨hg,hor⟩=>?_,fun w g=>(specRead_any 223 w x l (hb.mono g) (by omega) hl2).mono fun e w' ⟨hg,hm⟩=>?_⟩
  · rcases hor with ⟨hno,_⟩ | ⟨t2,l2,k6,d6,p6,n6,c6,q6,m6,c7,h1,h2,h3,h4⟩
    · rw [hno t l' hR] at hok;cases hok
    · rw [hR] at h1
      injection h1 with h1
      subst h1
      exact ⟨k6,d6,p6,n6,c6,q6,m6,c7,h3,h4,hg⟩
  · have hs:rdG false 223 (-1) l=.ok t l':=by
      rw [(rdG_same 223 (-1) l).1 t l' hR,hok]
      rfl
    rw [hs] at hm
    obtain ⟨k6,d6,p6,n6,c6,q6,m6,c7,h3,h4⟩:=hm
    exact ⟨k6,d6,p6,n6,c6,q6,m6,c7,h3,h4.up,hg⟩
theorem FnBytesReads_any (W:World) (x:Value) (l:List UInt8) (hb:BIn W x l) :
    Calls Tryz.prog 4 #[x] W fun e w'=>e=.returned (.bool true)∧W.grownBy w' none:=by
  have hxs:∃ p c,x=.slice p l.length c∧l.length≤c∧c≤maxLen:=by obtain ⟨p,c,e,h1,h2,_⟩:=hb;exact ⟨p,c,e,h1,h2⟩
  obtain ⟨p,c,rfl,hc1,hc2⟩:=hxs
  obtain ⟨n,hn⟩ : ∃ n,n=l.length:=⟨_,rfl⟩
  by_cases hbig:2147483647<l.length
  · have hni:(2147483647:Int)<(n:Int):=by omega
    rw [←hn]
    clear hb hn hbig hc1
    go_enter Tryz.func4,Tryz.ntmps4
    go_wp2_with fail
    go_ret
    exact ⟨rfl,gt_refl _ _⟩
  · by_cases h2000:2000<l.length
    · have hni:¬ (2147483647:Int)<(n:Int):=by omega
      have hnj:(2000:Int)<(n:Int):=by omega
      rw [←hn]
      clear hb hn hbig hc1 h2000
      go_enter Tryz.func4,Tryz.ntmps4
      go_wp2_with fail
      go_ret
      exact ⟨rfl,gt_refl _ _⟩
    · have hl2:l.length≤2000:=by omega
      have hni:¬ (2147483647:Int)<(n:Int):=by omega
      have hnj:¬ (2000:Int)<(n:Int):=by omega
      have HA:=Lib.hid (asked_any 223 W _ l hb (by omega))
      by_cases hR:rdG true 223 (-1) l=.bad true
      · rw [hR] at HA
        rw [←hn] at HA ⊢
        clear hb hn hbig hc1 h2000 hR hl2
        go_enter Tryz.func4,Tryz.ntmps4
        go_wp2_with (first
          | (go_at_call 14;refine HA.out.mono ?_;rintro e w1 ⟨b,rfl,hbt,hg1⟩;obtain rfl:b=false:=(by cases b;rfl;exact absurd rfl (hbt rfl));clear hbt))
        go_ret
        exact ⟨rfl,hg1⟩
      · by_cases hyes:∃ t l',rdG true 223 (-1) l=.ok t l'∧okK t=true
        · obtain ⟨t,l',hRt,hok⟩:=hyes
          obtain ⟨r1,r2⟩:=reads_yes W _ l l' t hb hl2 hRt hok
          have H1:=Lib.hid r1
          have H2:=Lib.hid r2
          have HAl:=Lib.hid (fun (B:Nat→Prop) w v (hk:KD B 225 w v (newT t))=>gAllN 225 B w v (newT t) hk)
          have HSm:=Lib.hid (fun (B1 B2:Nat→Prop) w v1 v2 (hk1:KD B1 225 w v1 (dataT (newT t))) (hk2:KD B2 225 w v2 (newT t))=>sameOk 225 B1 B2 w v1 v2 _ _ hk1 hk2 (same_data (newT t)))
          rw [←hn] at H1 H2 HA ⊢
          generalize newT t=tn at H1 H2 HAl HSm
          generalize allN tn=al at HAl
          clear hb hn hbig hc1 h2000 hR hl2 hRt hok r1 r2
          cases al
          · go_enter Tryz.func4,Tryz.ntmps4
            go_wp2_with (first
              | (go_at_call 14;refine HA.out.mono ?_;rintro e w1 ⟨b,rfl,hbt,hg1⟩;clear hbt)
              | (go_at_call 15;refine (H1.out _ hg1).mono ?_;rintro e w2 ⟨k6,d6,p6,n6,c6,q6,m6,c7,rfl,hk2,hg2⟩;have HK2:=Lib.hid hk2;have G2:=gt_alloc_r (gt_trans hg1 hg2 (.inl rfl)) (.cells #[.int .i64 k6,.int .i64 d6,.slice p6 n6 c6,.slice q6 m6 c7] 33);clear hk2)
              | (go_at_call 16;refine (H2.out _ G2).mono ?_;rintro e w3 ⟨j6,e6,f6,g6,h6,i6,j7,k7,rfl,hk3,hg3⟩;have HK3:=Lib.hid hk3;have G3:=gt_alloc_r (gt_trans G2 hg3 (.inl rfl)) (.cells #[.int .i64 j6,.int .i64 e6,.slice f6 g6 h6,.slice i6 j7 k7] 33);clear hk3)
              | (go_at_call 17;refine (HAl.out _ _ _ (HK3.out.mono (World.grownBy_alloc _ _ _))).mono ?_;rintro e w4 ⟨rfl,hg4⟩))
            all_goals first
              | (go_ret;exact ⟨rfl,hg1⟩)
              | (go_ret;exact ⟨rfl,gt_trans G3 hg4 (.inl rfl)⟩)
          · go_enter Tryz.func4,Tryz.ntmps4
            go_wp2_with (first
              | (go_at_call 14;refine HA.out.mono ?_;rintro e w1 ⟨b,rfl,hbt,hg1⟩;clear hbt)
              | (go_at_call 15;refine (H1.out _ hg1).mono ?_;rintro e w2 ⟨k6,d6,p6,n6,c6,q6,m6,c7,rfl,hk2,hg2⟩;have HK2:=Lib.hid hk2;have G2:=gt_alloc_r (gt_trans hg1 hg2 (.inl rfl)) (.cells #[.int .i64 k6,.int .i64 d6,.slice p6 n6 c6,.slice q6 m6 c7] 33);have HS2:Hid (∀ w,(w2.alloc (.cells #[.int .i64 k6,.int .i64 d6,.slice p6 n6 c6,.slice q6 m6 c7] 33)).grownBy w none→w.cell? ⟨w2.heap.size,0,none⟩=some (.int .i64 k6)∧w.cell? ⟨w2.heap.size,1,none⟩=some (.int .i64 d6)∧w.cell? ⟨w2.heap.size,2,none⟩=some (.slice p6 n6 c6)∧w.cell? ⟨w2.heap.size,3,none⟩=some (.slice q6 m6 c7)):=(fun w g=>⟨g.cell (by simp) (by simp),g.cell (by simp) (by simp),g.cell (by simp) (by simp),g.cell (by simp) (by simp)⟩);clear hk2)
              | (go_at_call 16;refine (H2.out _ G2).mono ?_;rintro e w3 ⟨j6,e6,f6,g6,h6,i6,j7,k7,rfl,hk3,hg3⟩;have HK3:=Lib.hid hk3;have G3:=gt_alloc_r (gt_trans G2 hg3 (.inl rfl)) (.cells #[.int .i64 j6,.int .i64 e6,.slice f6 g6 h6,.slice i6 j7 k7] 33);have HS3:Hid (∀ w,(w3.alloc (.cells #[.int .i64 j6,.int .i64 e6,.slice f6 g6 h6,.slice i6 j7 k7] 33)).grownBy w none→w.cell? ⟨w3.heap.size,0,none⟩=some (.int .i64 j6)∧w.cell? ⟨w3.heap.size,1,none⟩=some (.int .i64 e6)∧w.cell? ⟨w3.heap.size,2,none⟩=some (.slice f6 g6 h6)∧w.cell? ⟨w3.heap.size,3,none⟩=some (.slice i6 j7 k7)):=(fun w g=>⟨g.cell (by simp) (by simp),g.cell (by simp) (by simp),g.cell (by simp) (by simp),g.cell (by simp) (by simp)⟩);clear hk3)
              | (go_at_call 17;refine (HAl.out _ _ _ (HK3.out.mono (World.grownBy_alloc _ _ _))).mono ?_;rintro e w4 ⟨rfl,hg4⟩;have G4:=gt_trans G3 hg4 (.inl rfl);obtain ⟨x0,x1,x2,x3⟩:=HS3.out _ hg4;have gA:=gt_trans (gt_alloc_r hg3 (.cells #[.int .i64 j6,.int .i64 e6,.slice f6 g6 h6,.slice i6 j7 k7] 33)) hg4 (.inl rfl);obtain ⟨y0,y1,y2,y3⟩:=HS2.out _ gA)
              | (go_at_call 13;refine (HSm.out _ _ _ _ _ (HK2.out.mono (gt_trans (World.grownBy_alloc _ _ _) gA (.inl rfl))) (HK3.out.mono (gt_trans (World.grownBy_alloc _ _ _) hg4 (.inl rfl)))).mono ?_;rintro e w5 ⟨rfl,hg5⟩))
            all_goals first
              | (go_ret;exact ⟨rfl,hg1⟩)
              | (go_ret;exact ⟨rfl,gt_trans G4 hg5 (.inl rfl)⟩)
        · obtain ⟨r1,r2⟩:=reads_no W _ l hb hl2 hR (fun t l' h=>by
            cases hk:okK t with
            | false=>rfl
            | true=>exact absurd ⟨t,l',h,hk⟩ hyes)
          have H1:=Lib.hid r1
          have H2:=Lib.hid r2
          rw [←hn] at H1 H2 HA ⊢
          clear hb hn hbig hc1 h2000 hR hl2 hyes r1 r2
          go_enter Tryz.func4,Tryz.ntmps4
          go_wp2_with (first
            | (go_at_call 14;refine HA.out.mono ?_;rintro e w1 ⟨b,rfl,hbt,hg1⟩;clear hbt)
            | (go_at_call 15;refine (H1.out _ hg1).mono ?_;rintro e w2 ⟨rfl,hg2⟩;have G2:=gt_alloc_r (gt_trans hg1 hg2 (.inl rfl)) (.cells #[.int .i64 0,.int .i64 0,.slice none 0 0,.slice none 0 0] 33))
            | (go_at_call 16;refine (H2.out _ G2).mono ?_;rintro e w3 ⟨rfl,hg3⟩;have G3:=gt_alloc_r (gt_trans G2 hg3 (.inl rfl)) (.cells #[.int .i64 0,.int .i64 0,.slice none 0 0,.slice none 0 0] 33)))
          all_goals first
            | (go_ret;exact ⟨rfl,hg1⟩)
            | (go_ret;exact ⟨rfl,G3⟩)
end
section
open Go.RowKit
structure WS (V W:World) (rb:Nat) (x:Value) (l:List UInt8):Prop where
  g:V.grownBy W none
  lo:V.heap.size≤rb
  c0:W.cell? ⟨rb,0,none⟩=some x
  c1:W.cell? ⟨rb,1,none⟩=some (.slice none 0 0)
  fz:∀ j,W.frozen? ⟨rb,j,none⟩=false
  own:W.ownsRow V.heap.size 5 1 x l.length (Bs l)
  ne:x.ownBlock≠some rb
structure Two (W w:World) (rb:Nat) (ob:Option Nat):Prop where
  os:w.os=W.os
  tape:w.tape=W.tape
  output:w.output=W.output
  size:W.heap.size≤w.heap.size
  block:∀ i,i<W.heap.size→i≠rb→some i≠ob→w.heap[i]?=W.heap[i]?
structure WT (V W w:World) (rb:Nat) (x x':Value) (l:List UInt8):Prop where
  s:WS V w rb x' l
  t:Two W w rb x.ownBlock
  at_:x'.ownBlock=x.ownBlock∨∃ b,x'.ownBlock=some b∧W.heap.size≤b
section
variable {V W w w1 w2 w3:World} {rb:Nat} {x x' x1 x2:Value} {l l1 l2:List UInt8}
theorem WS.lt (h:WS V W rb x l):rb<W.heap.size:=World.block_lt_of_cell? W _ h.c0
theorem WS.kept (h:WS V W rb x l) (g:W.grownBy w none):WS V w rb x l :=
  ⟨gt_trans h.g g (.inl rfl),h.lo,g.cell h.c0 (by simp),g.cell h.c1 (by simp),fun j=>by rw [World.frozen?_of_block (g.block rb h.lt (by simp))];exact h.fz j,h.own.kept g (by cases x.ownBlock <;> simp),h.ne⟩
theorem Two.refl (W:World) (rb:Nat) (ob:Option Nat):Two W W rb ob:=⟨rfl,rfl,rfl,Nat.le_refl _,fun _ _ _ _=>rfl⟩
theorem Two.grow (h:Two W w rb x.ownBlock) (g:w.grownBy w1 none):Two W w1 rb x.ownBlock :=
  ⟨g.os.trans h.os,g.tape.trans h.tape,g.output.trans h.output,Nat.le_trans h.size g.size,fun i hi h1 h2=>(g.block i (Nat.lt_of_lt_of_le hi h.size) (by simp)).trans (h.block i hi h1 h2)⟩
theorem WT.start (h:WS V W rb x l):WT V W W rb x x l:=⟨h,.refl _ _ _,.inl rfl⟩
theorem WT.trans (h:WT V W w rb x x1 l1) (k:WT V w w2 rb x1 x2 l2):WT V W w2 rb x x2 l2:=by
  refine ⟨k.s,⟨k.t.os.trans h.t.os,k.t.tape.trans h.t.tape,k.t.output.trans h.t.output,Nat.le_trans h.t.size k.t.size,fun i hi h1 h2=>?_⟩,?_⟩
  · refine (k.t.block i (Nat.lt_of_lt_of_le hi h.t.size) h1 (fun e=>?_)).trans (h.t.block i hi h1 h2)
    rcases h.at_ with ha | ⟨b,ha,hb⟩
    · exact h2 (e.trans ha)
    · rw [ha] at e;injection e with e;omega
  · rcases k.at_ with k' | ⟨b,k',hb⟩
    · rcases h.at_ with h' | ⟨b,h',hb⟩
      · exact .inl (k'.trans h')
      · exact .inr ⟨b,k'.trans h',hb⟩
    · exact .inr ⟨b,k',Nat.le_trans h.t.size hb⟩
theorem WT.kept (h:WT V W w rb x x1 l1) (g:w.grownBy w1 none):WT V W w1 rb x x1 l1:=⟨h.s.kept g,h.t.grow g,h.at_⟩
theorem WT.ahead (h:WS V W rb x l) (g:W.grownBy w none) (k:WT V w w1 rb x x1 l1):WT V W w1 rb x x1 l1:=((WT.start h).kept g).trans k
theorem WT.other (h:WT V W w rb x x' l) {b:Nat} (hb:b<W.heap.size) (h1:b≠rb) (h2:some b≠x.ownBlock):w.heap[b]?=W.heap[b]?∧some b≠x'.ownBlock∧b<w.heap.size:=by
  refine ⟨h.t.block b hb h1 h2,fun e=>?_,Nat.lt_of_lt_of_le hb h.t.size⟩
  rcases h.at_ with ha | ⟨c,ha,hc⟩
  · exact h2 (e.trans ha)
  · rw [ha] at e;injection e with e;omega
theorem WT.cell (h:WT V W w rb x x' l) {b j:Nat} {y:Value} (h1:b≠rb) (h2:some b≠x.ownBlock) (hc:W.cell? ⟨b,j,none⟩=some y):w.cell? ⟨b,j,none⟩=some y:=by
  have hb:=World.block_lt_of_cell? W _ hc
  exact (World.cell?_of_block (h.other hb h1 h2).1).trans hc
theorem WS.new (h:WS V W rb x l) {b:Nat} (hb:W.heap.size≤b):b≠rb∧some b≠x.ownBlock:=by
  have:=h.lt
  refine ⟨by omega,fun e=>?_⟩
  have:=(h.own.lt b e.symm).2
  omega
theorem WS.app (h:WS V W rb x l) (g1:W.grownBy w1 none) {m gg cap:Nat} {cs:List UInt8} (hown:w2.ownsRow V.heap.size 5 1 (.slice (some ⟨gg,0,none⟩) (l.length+m) cap) (l.length+m) (Bs l++Bs cs)) (hm:cs.length=m) (hg:w1.grownBy w2 x.ownBlock) (hat:x.ownBlock=some gg∨gg=w1.heap.size) :
    WT V W (w2.setCell ⟨rb,0,none⟩ (.slice (some ⟨gg,0,none⟩) (l.length+m) cap)) rb x (.slice (some ⟨gg,0,none⟩) (l.length+m) cap) (l++cs):=by
  have k:=h.kept g1
  have hlt:=k.own.lt
  have hrb:=h.lt
  have hs1:=g1.size
  have hne:some rb≠x.ownBlock:=fun e=>h.ne e.symm
  have hob:(Value.slice (some ⟨gg,0,none⟩) (l.length+m) cap).ownBlock=some gg:=rfl
  have hgr:gg≠rb:=by
    rcases hat with e | e
    · exact fun e2=>hne (by rw [e,e2])
    · omega
  have z:=World.cell?_setCell_same (v:=.slice (some ⟨gg,0,none⟩) (l.length+m) cap) (h:=hg.cell k.c0 hne)
  have hl:(l++cs).length=l.length+m:=by rw [List.length_append,hm]
  refine ⟨⟨?_,h.lo,z,?_,fun j=>?_,?_,?_⟩,⟨?_,?_,?_,?_,fun i hi h1 h2=>?_⟩,?_⟩
  · refine gt_set_r (gt_trans (gt_trans h.g g1 (.inl rfl)) hg ?_) _ _ h.lo
    cases hx:x.ownBlock with
    | none=>exact .inl rfl
    | some b=>exact .inr (.inr ⟨b,rfl,(hlt b hx).1⟩)
  · rw [World.cell?_setCell_other (h:=by simp)];exact hg.cell k.c1 hne
  · rw [World.frozen?_setCell,World.frozen?_of_block (hg.block rb (by omega) hne)];exact k.fz j
  · rw [hl,Bs_append]
    refine hown.kept (grown_set w2 ⟨rb,0,none⟩ _) (.inr ?_)
    rw [hob];exact fun e=>by injection e with e;exact hgr e
  · rw [hob];exact fun e=>by injection e with e;exact hgr e
  · exact (hg.os.trans g1.os)
  · exact (hg.tape.trans g1.tape)
  · exact (hg.output.trans g1.output)
  · exact Nat.le_trans (Nat.le_trans hs1 hg.size) (by simp [World.setCell])
  · refine (Below.heap_setCell w2 ⟨rb,0,none⟩ _ i h1).trans ((hg.block i (by omega) h2).trans (g1.block i hi (by simp)))
  · rw [hob]
    rcases hat with e | e
    · exact .inl e.symm
    · exact .inr ⟨gg,rfl,by omega⟩
end
theorem leBytes_snoc:∀ (k v:Nat),Lib.leBytes (k+1) v=Lib.leBytes k v++[(v / 256 ^ k % 256).toUInt8]
  | 0,v=>by simp [Lib.leBytes]
  | k+1,v=>by
    show (v % 256).toUInt8::Lib.leBytes (k+1) (v / 256)=(v % 256).toUInt8::(Lib.leBytes k (v / 256)++_)
    rw [leBytes_snoc k (v / 256),Nat.div_div_eq_div_mul,Nat.pow_succ,Nat.mul_comm 256]
theorem toU8 (v:Nat) (h:v<256):(v.toUInt8).toNat=v:=by
  have:=Lib.toUInt8_mod v
  rwa [Nat.mod_eq_of_lt h] at this
end
section
open Go.RowKit
theorem infoW8:(Tryz.prog.info? 5).map (fun i=>(i.zero,i.size,i.bytes))=some (some (.int .u8 0),1,1):=by kernel_rfl
theorem byte_at (v k:Nat) (hv:v<18446744073709551616):IntKind.u8.wrap ((v:Int) / 2 ^ (8*k))=(((v / 256 ^ k % 256).toUInt8).toNat:Int):=by
  have e:(256:Nat) ^ k=2 ^ (8*k):=by rw [Nat.pow_mul]
  have hP:((2:Int) ^ (8*k))=((256 ^ k:Nat):Int):=by rw [e,Int.natCast_pow];rfl
  rw [hP,←Int.natCast_ediv,toU8 _ (Nat.mod_lt _ (by decide)),IntKind.wrap_u8]
  omega
section
variable {e size base:Nat} {W:World} {v:Value} {n:Nat} {xs:List Value}
variable {P:Program} {ops:Array Oper} {o:Oper} {a:Act} {K:Act→World→Prop} {Q:Exit→Act→World→Prop} {E:Prop}
theorem app_cells2_step_d (hgd:o.guard=none) (s x:Operand) (t:TypeId) (ho:o.op=.call { callee:=.builtin .append,args:=#[s,x],argTypes:=#[t,t] })
    (ht:P.underlying t=some (.slice e)) (z:Value) (bytes:Nat) (hinfo:(P.info? e).map (fun i=>(i.zero,i.size,i.bytes))=some (some z,size,bytes)) (hzs:z.cells.size=size) (hsz:0<size)
    (hs:a.eval s=v) {k m c:Nat} (hx:a.eval x=.slice (some ⟨k,0,none⟩) m c) (hk:k=W.heap.size) (cs:Array Value) (hown:(W.drew.alloc (.cells cs e)).ownsRow base e size v n xs) (hcl:cs.size=m*size) (h1:∀ u ∈ cs.toList,u.oneCell'=true)
    (hm:0<m) (hbase:base≤(W.drew.alloc (.cells cs e)).heap.size) (hl:(n+m)*bytes≤140737488355328) (hl2:n+m≤140737488355328)
    (h:∀ g cap w',w'.ownsRow base e size (.slice (some ⟨g,0,none⟩) (n+m) cap) (n+m) (xs++cs.toList)→(W.drew.alloc (.cells cs e)).grownBy w' v.ownBlock→(v.ownBlock=some g∨g=(W.drew.alloc (.cells cs e)).heap.size)→K (a.put o.dst (.slice (some ⟨g,0,none⟩) (n+m) cap)) w') :
    if Region.wanted o (yielded ops a.tmps)=true then Oper.wp P o a (W.alloc (.cells cs e)).drew K Q else E :=
  app_cells2_step (W:=W.drew) hgd s x t ho ht z bytes hinfo hzs hsz hs hx hk cs hown hcl h1 hm hbase hl hl2 h
end
theorem wuint_any (V W:World) (rb v n:Nat) (x:Value) (l:List UInt8) (hv:v<18446744073709551616) (hn:n≤8) (hl:l.length≤10000000) (h:WS V W rb x l) :
    Calls Tryz.prog 161 #[.pointer (some ⟨rb,0,none⟩),.int .u64 v,.int .i64 n,.bool false] W fun e w'=>e=.returned (.tuple #[])∧∃ x',WT V W w' rb x x' (l++Lib.leBytes n v):=by
  have H0:=Lib.hid h
  have hbig:V.heap.size≤W.heap.size:=h.g.size
  clear h
  go_enter Tryz.func161,Tryz.ntmps161
  go_wp2_with fail
  go_loopw [10] (fun i wr=>∃ (k:Nat) (x1:Value),k≤n∧i=.int .i64 k∧WT V W wr rb x x1 (l++Lib.leBytes k v)) (fun i _=>n - (intOf i).toNat)
  case atStart=>exact ⟨0,x,by omega,rfl,by simpa [Lib.leBytes] using WT.start H0.out⟩
  case round =>
    obtain ⟨k,x1,hk,rfl,I⟩:=hrel
    rename World=>wr
    have c0:=I.s.c0
    have f0:=I.s.fz 0
    have hlt:=I.s.lt
    obtain ⟨L,hL⟩ : ∃ L,L=l++Lib.leBytes k v:=⟨_,rfl⟩
    rw [←hL] at I
    have hM:L.length=l.length+k:=by rw [hL,List.length_append,leB_len]
    obtain ⟨p1,c1,rfl,_⟩:=own_form I.s.own
    have HI:=Lib.hid I
    have hbw:=I.s.g.size
    obtain ⟨M,hMM⟩ : ∃ M,M=L.length:=⟨_,rfl⟩
    rw [←hMM] at c0 hM
    by_cases hkn:k<n
    · obtain ⟨c,hc⟩ : ∃ c:UInt8,c=(v / 256 ^ k % 256).toUInt8:=⟨_,rfl⟩
      have hby:=byte_at v k hv
      rw [←hc] at hby
      obtain ⟨sh,hsh⟩ : ∃ sh,sh=8*k:=⟨_,rfl⟩
      have hwS:IntKind.i64.wrap (8*(k:Int))=(sh:Int):=by rw [IntKind.wrap_i64];omega
      have hS0:(0:Int)≤(sh:Int):=by omega
      have hS64:(sh:Int)≤64:=by omega
      rw [←hsh] at hby
      have hsn:l++Lib.leBytes (k+1) v=L++[c]:=by rw [leBytes_snoc,hL,List.append_assoc,hc]
      have HSn:=Lib.hid hsn
      have HOw:Hid (∀ w,wr.grownBy w none→w.ownsRow V.heap.size 5 1 (.slice p1 M c1) M (Bs L)):=fun w g=>by
        have hh:=(HI.out.s.kept g).own
        rw [←hMM] at hh
        exact hh
      have HX:Hid (∀ w6 w7,wr.grownBy w6 none→w6.grownBy w7 (Value.slice p1 M c1).ownBlock→w7.cell? ⟨rb,0,none⟩=some (.slice p1 M c1)∧w7.frozen? ⟨rb,0,none⟩=false∧rb<w7.heap.size):=fun w6 w7 g g'=>by
        have hs:=HI.out.s.kept g
        have hne:some rb≠(Value.slice p1 M c1).ownBlock:=fun e=>HI.out.s.ne (by rw [←hMM,←e])
        have c0:=hs.c0
        rw [←hMM] at c0
        have:=g'.size
        have:=hs.lt
        exact ⟨g'.cell c0 hne,by rw [World.frozen?_of_block (g'.block rb (by omega) hne)];exact hs.fz 0,by omega⟩
      have HAp:Hid (∀ w6 w7 gg cap,wr.grownBy w6 none→w7.ownsRow V.heap.size 5 1 (.slice (some ⟨gg,0,none⟩) (M+1) cap) (M+1) (Bs L++[.int .u8 c.toNat])→w6.grownBy w7 (Value.slice p1 M c1).ownBlock→((Value.slice p1 M c1).ownBlock=some gg∨gg=w6.heap.size)→WT V W (w7.setCell ⟨rb,0,none⟩ (.slice (some ⟨gg,0,none⟩) (M+1) cap)) rb x (.slice (some ⟨gg,0,none⟩) (M+1) cap) (L++[c])):=fun w6 w7 gg cap g1 hown hg hat=>by
        have hh:=HI.out.s.app g1 (m:=1) (gg:=gg) (cap:=cap) (cs:=[c]) (w2:=w7) (by rw [←hMM];exact hown) rfl (by rw [←hMM];exact hg) (by rw [←hMM];exact hat)
        rw [←hMM] at hh
        have h9:=HI.out
        rw [←hMM] at h9
        exact h9.trans hh
      have G6:=World.grownBy_alloc wr (.cells #[.int .u8 c.toNat] 5) none
      have hM9:M≤10000008:=by omega
      clear I hc hsn hMM hL hsh hM
      go_wp2_with fail
      go_region_law (first
        | (refine app_cells2_step_d (size:=1) (n:=M) (xs:=Bs L) (base:=V.heap.size) rfl _ _ _ rfl Tryz.underlying39 (.int .u8 0) 1 infoW8 rfl (Nat.succ_pos 0) rfl rfl rfl _ (HOw.out _ (gt_alloc_r (gt_drew_r (gt_refl _ _)) _)) rfl (by simp [Value.oneCell']) (Nat.succ_pos 0) (by simp;omega) (by omega) (by omega) ?_;intro gg cap7 w7 hown7 hg7 hat7;go_loud (obtain ⟨u0,uf,uz⟩:=HX.out _ _ (gt_alloc_r (gt_drew_r (gt_refl _ _)) _) hg7;have HFin:=Lib.hid (HAp.out _ _ _ _ (gt_alloc_r (gt_drew_r (gt_refl _ _)) _) hown7 hg7 hat7);clear hown7 hg7 hat7)))
      all_goals
        go_wp2_with fail
        exact ⟨⟨k+1,_,by omega,by go_num,by rw [HSn.out];exact HFin.out⟩,by simp [intOf];omega⟩
    · obtain rfl:k=n:=by omega
      rw [hL] at HI
      clear I
      go_wp2_with fail
      go_wp2_with fail
      first | (go_returns;exact ⟨rfl,_,HI.out⟩) | exact bodyPost_normal ⟨rfl,_,HI.out⟩ | (refine ⟨_,rfl,?_⟩;exact ⟨rfl,_,HI.out⟩)
end
section
open Go.RowKit
theorem numsW_snoc (n:Nat) (f:Nat→Nat):numsW (n+1) f=numsW n f++Lib.leBytes 8 (f n):=by
  unfold numsW
  rw [List.range_succ,List.flatMap_append]
  simp
theorem wuint8 (V W:World) (rb v:Nat) (x:Value) (l:List UInt8) (hv:v<18446744073709551616) (hl:l.length≤10000000) (h:WS V W rb x l) :
    Calls Tryz.prog 161 #[.pointer (some ⟨rb,0,none⟩),.int .u64 v,.int .i64 8,.bool false] W fun e w'=>e=.returned (.tuple #[])∧∃ x',WT V W w' rb x x' (l++Lib.leBytes 8 v):=wuint_any V W rb v 8 x l hv (by decide) hl h
theorem wuint4 (V W:World) (rb v:Nat) (x:Value) (l:List UInt8) (hv:v<18446744073709551616) (hl:l.length≤10000000) (h:WS V W rb x l) :
    Calls Tryz.prog 161 #[.pointer (some ⟨rb,0,none⟩),.int .u64 v,.int .i64 4,.bool false] W fun e w'=>e=.returned (.tuple #[])∧∃ x',WT V W w' rb x x' (l++Lib.leBytes 4 v):=wuint_any V W rb v 4 x l hv (by decide) hl h
theorem wnums_any (V W:World) (rb:Nat) (x:Value) (l:List UInt8) (p:Option Addr) (n c:Nat) (f:Nat→Nat) (hl:l.length+8*n≤10000000) (hf:FVal V p n f) (h:WS V W rb x l) :
    Calls Tryz.prog 163 #[.pointer (some ⟨rb,0,none⟩),.slice p n c,.bool false] W fun e w'=>e=.returned (.tuple #[])∧∃ x',WT V W w' rb x x' (l++numsW n f):=by
  have H0:=Lib.hid h
  have HF:=Lib.hid hf
  have hfb:∀ (w:World) (b:Nat),(callFunc 83 #[.float .f64 b]).run Tryz.prog w=.ok (.value (.int .u64 b)) w:=fun w b=>by kernel_rfl
  clear h hf
  go_enter Tryz.func163,Tryz.ntmps163
  go_wp2_with fail
  go_loopw [10] (fun i wr=>∃ (k:Nat) (x1:Value),k≤n∧i=.int .i64 k∧WT V W wr rb x x1 (l++numsW k f)) (fun i _=>n - (intOf i).toNat)
  case atStart=>exact ⟨0,x,by omega,rfl,by simpa [numsW] using WT.start H0.out⟩
  case round =>
    obtain ⟨k,x1,hk,rfl,I⟩:=hrel
    rename World=>wr
    have HI:=Lib.hid I
    by_cases hkn:k<n
    · obtain ⟨a,rfl⟩:=HF.out.some_ (by omega)
      have q1:=(HF.out.mono I.s.g).at_ a rfl k hkn
      have HU:=Lib.hid (wuint8 V wr rb (f k) x1 (l++numsW k f) (HF.out.lt k) (by rw [List.length_append,numsW_len];omega) I.s)
      have HSn:=Lib.hid (numsW_snoc k f)
      clear I
      go_wp2_with (first
        | (go_at_call 161;refine HU.out.mono ?_;rintro e w2 ⟨rfl,x2,hx2⟩;have HX:=Lib.hid hx2;clear hx2))
      exact ⟨⟨k+1,x2,by omega,by go_num,by rw [HSn.out,←List.append_assoc];exact HI.out.trans HX.out⟩,by simp [intOf];omega⟩
    · obtain rfl:k=n:=by omega
      clear I
      go_wp2_with fail
      go_wp2_with fail
      go_returns
      exact ⟨rfl,_,HI.out⟩
theorem wline_any (V W:World) (rb:Nat) (x:Value) (l:List UInt8) (k:Int) (dm:Nat) (hd:dm<4) (p q:Option Addr) (n c m c2:Nat) (f:Nat→Nat) (kids:List Raw) (hl:l.length+8*n≤1000000) (hf:FVal V p n f) (h:WS V W rb x l) :
    Calls Tryz.prog 164 #[.pointer (some ⟨rb,0,none⟩),.agg #[.int .i64 k,.int .i64 dm,.slice p n c,.slice q m c2],.bool false] W fun e w'=>e=.returned (.tuple #[])∧∃ x',WT V W w' rb x x' (l++bLine (.mk k dm n f kids)):=by
  have G1:=World.grownBy_alloc W (.cells #[.int .i64 k,.int .i64 dm,.slice p n c,.slice q m c2] 33) none
  have H1:=Lib.hid (h.kept G1)
  have H0:=Lib.hid h
  have hnew:=h.new (Nat.le_refl _)
  have HB:Hid (∀ w x1 l1,WT V (W.alloc (.cells #[.int .i64 k,.int .i64 dm,.slice p n c,.slice q m c2] 33)) w rb x x1 l1→w.cell? ⟨W.heap.size,2,none⟩=some (.slice p n c)):=fun w x1 l1 I=>I.cell hnew.1 hnew.2 (by simp)
  have hw2:=widN_le dm hd
  have HWi:=Lib.hid (fun w=>Width_any dm hd w)
  obtain ⟨wd,hwd⟩ : ∃ wd,wd=widN dm:=⟨_,rfl⟩
  rw [←hwd] at HWi hw2
  obtain ⟨Q,hQ⟩ : ∃ Q,Q=n / wd:=⟨_,rfl⟩
  have hQn:Q≤n:=by rw [hQ];exact Nat.div_le_self _ _
  have hn6:n≤1000000:=by omega
  have hl6:l.length≤10000000:=by omega
  have hQ6:Q≤1000000:=Nat.le_trans hQn hn6
  have hQ64:Q<18446744073709551616:=Nat.lt_of_le_of_lt hQ6 (by decide)
  have hl7:(l++Lib.leBytes 4 Q).length+8*n≤10000000:=by rw [List.length_append,leB_len];omega
  have hw0:¬ wd=0:=by omega
  have hw0':¬ ((wd:Int)=0):=by omega
  have hq1:(n:Int) / (wd:Int)=(Q:Int):=by rw [hQ];exact (Int.natCast_ediv n wd).symm
  have hq2:IntKind.i64.wrap ((n:Int) / (wd:Int))=(Q:Int):=by rw [hq1,IntKind.wrap_i64];omega
  have hq3:IntKind.u64.wrap (Q:Int)=(Q:Int):=by rw [IntKind.wrap_u64];omega
  have hq5:IntKind.i64.wrap (Q:Int)=(Q:Int):=by rw [IntKind.wrap_i64];omega
  have hq4:wrap64 (Q:Int)=(Q:Int):=by unfold wrap64;omega
  have HL:Hid (bLine (.mk k dm n f kids)=Lib.leBytes 4 Q++numsW n f):=by
    show Lib.leBytes 4 (n / widN ((dm:Int)).toNat)++numsW n f=_
    rw [Int.toNat_natCast,←hwd,hQ]
  have HU:=Lib.hid (fun w (hs:WS V w rb x l)=>wuint4 V w rb Q x l hQ64 hl6 hs)
  have HN:=Lib.hid (fun w x1 (hs:WS V w rb x1 (l++Lib.leBytes 4 Q))=>wnums_any V w rb x1 (l++Lib.leBytes 4 Q) p n c f hl7 hf hs)
  clear hf h hwd hQ hnew hQn hl7 hl
  go_enter Tryz.func164,Tryz.ntmps164
  go_wp2_with fail
  go_region_law (first
    | (rw [if_pos (by simp [Region.wanted])];go_simp;go_at_call 42;go_loud (refine (HWi.out _).mono ?_;rintro e wx ⟨rfl,rfl⟩))
    | (rw [if_pos (by simp [Region.wanted])];go_simp;go_at_call 161;go_loud (refine (HU.out _ (H1.out.kept (gt_drew_r (gt_refl _ _)))).mono ?_;rintro e w2 ⟨rfl,x2,hx2⟩;have HX:=Lib.hid (WT.ahead H1.out (gt_drew_r (gt_refl _ _)) hx2);have b2:=HB.out _ _ _ HX.out;clear hx2)))
  all_goals
    go_wp2_with (first
      | (go_at_call 163;refine (HN.out _ _ HX.out.s).mono ?_;rintro e w3 ⟨rfl,x3,hx3⟩;have HX3:=Lib.hid hx3;clear hx3))
    go_returns
    exact ⟨rfl,_,by rw [HL.out,←List.append_assoc];exact WT.ahead H0.out G1 (HX.out.trans HX3.out)⟩
end
end Go.Proofs.YtlpaecafpbbbkaaGreatDoor
