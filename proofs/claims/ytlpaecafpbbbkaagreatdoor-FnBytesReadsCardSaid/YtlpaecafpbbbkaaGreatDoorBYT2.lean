/- What the reference makes of a geometry, and its text: plain functions. The questions of size, with what they tell of the tree. Well known binary: what is read of bytes, as plain functions. Well known binary: what the reference writes is read again, and is refused where it is cut off: plain functions. The package's text of a line string: its methods. Appending a whole row that lies in memory. -/
import Derived.Lib.Endian
import Derived.Laws.AppendOwnNone
import Derived.Deep.AppendLies
import Derived.Test.YtlpaecafpbbbkaaGreatDoorBYT1
set_option linter.unusedVariables false
set_option linter.unusedSimpArgs false
set_option maxRecDepth 100000
set_option maxHeartbeats 24000000
namespace Go.Proofs.YtlpaecafpbbbkaaGreatDoor
section
open Go.RowKit
def kidOf (k:Int):Int:=if k=4 then 1 else if k=3∨k=5 then 2 else if k=6 then 3 else -1
def kindOf:Raw→Int
  | .mk k _ _ _ _=>k
def dimR:Raw→Nat
  | .mk _ d _ _ _=>d.toNat
def fF (r r':Nat) (f:Nat→Nat) (i:Nat):Nat :=
  if i % widN r'=0 then plX r f (i / widN r') else if i % widN r'=1 then plY r f (i / widN r') else if i % widN r'=2∧r' % 2=1 then plZ r f (i / widN r') else plM r f (i / widN r')
mutual
def forceT (r':Nat):Raw→Raw
  | .mk k d n f kids=>.mk k r' (n / widN d.toNat*widN r') (fF d.toNat r' f) (forceTs r' kids)
def forceTs (r':Nat):List Raw→List Raw
  | []=>[]
  | t::ts=>forceT r' t::forceTs r' ts
end
def dimsOf:List Raw→Nat
  | []=>3
  | t::ts=>dimR t &&& dimsOf ts
def keepT (k:Int) (m:Raw):Bool:=decide (kidOf k<0)||decide (kidOf k=kindOf m)
def nodeT (k:Int) (r:Nat) (f:Nat→Nat) (ks:List Raw):Raw:=if ks=[] then .mk k r 0 f [] else forceT (dimsOf ks) (.mk k r 0 f ks)
def kindN (k:Int):Int:=if k<0∨6<k then 0 else k
mutual
def newT:Raw→Raw
  | .mk k d n f kids =>
    if kindN k=1 then .mk 1 (d % 4) (min (n / widN (d % 4).toNat) 1*widN (d % 4).toNat) f []
    else if kindN k=2 then .mk 2 (d % 4) (n / widN (d % 4).toNat*widN (d % 4).toNat) f []
    else nodeT (kindN k) (d % 4).toNat f ((newTs kids).filter (keepT (kindN k)))
def newTs:List Raw→List Raw
  | []=>[]
  | t::ts=>newT t::newTs ts
end
mutual
def pl:Raw→Nat
  | .mk _ d n _ kids=>1+n / widN d.toNat+pls kids
def pls:List Raw→Nat
  | []=>0
  | t::ts=>pl t+pls ts
end
mutual
def dimsOk:Raw→Prop
  | .mk _ d _ _ kids=>0≤d∧d<4∧dimsOks kids
def dimsOks:List Raw→Prop
  | []=>True
  | t::ts=>dimsOk t∧dimsOks ts
end
theorem widN_le (r:Nat) (hr:r<4):2≤widN r∧widN r≤4:=by unfold widN;omega
theorem widN_pos (r:Nat):2≤widN r:=by unfold widN;omega
mutual
theorem pl_force (r':Nat):∀ t:Raw,pl (forceT r' t)=pl t
  | .mk k d n f kids=>by
    unfold forceT pl
    rw [pls_force r' kids]
    have h:=widN_pos r'
    simp only [Int.toNat_natCast]
    rw [Nat.mul_div_cancel _ (by omega)]
theorem pls_force (r':Nat):∀ ts:List Raw,pls (forceTs r' ts)=pls ts
  | []=>rfl
  | t::ts=>by unfold forceTs pls;rw [pl_force r' t,pls_force r' ts]
end
mutual
theorem dims_force (r':Nat) (hr:r'<4):∀ t:Raw,dimsOk (forceT r' t)
  | .mk k d n f kids=>by unfold forceT dimsOk;exact ⟨by omega,by omega,dimss_force r' hr kids⟩
theorem dimss_force (r':Nat) (hr:r'<4):∀ ts:List Raw,dimsOks (forceTs r' ts)
  | []=>trivial
  | t::ts=>by unfold forceTs dimsOks;exact ⟨dims_force r' hr t,dimss_force r' hr ts⟩
end
theorem dimsOf_lt:∀ ks:List Raw,dimsOf ks<4
  | []=>by decide
  | t::ts=>by
    unfold dimsOf
    have h:=dimsOf_lt ts
    exact Nat.lt_of_le_of_lt Nat.and_le_right h
theorem pls_filter (p:Raw→Bool):∀ ts:List Raw,pls (ts.filter p)≤pls ts
  | []=>Nat.le_refl _
  | t::ts=>by
    have h:=pls_filter p ts
    by_cases hp:p t=true
    · rw [List.filter_cons_of_pos hp];simp only [pls];omega
    · rw [List.filter_cons_of_neg hp];simp only [pls];omega
theorem pl_node (k:Int) (r:Nat) (f:Nat→Nat) (ks:List Raw):pl (nodeT k r f ks)≤1+pls ks:=by
  unfold nodeT
  split
  · simp [pl,pls]
  · rw [pl_force];simp [pl]
theorem dims_node (k:Int) (r:Nat) (hr:r<4) (f:Nat→Nat) (ks:List Raw):dimsOk (nodeT k r f ks):=by
  unfold nodeT
  split
  · exact ⟨by omega,by omega,trivial⟩
  · exact dims_force _ (dimsOf_lt ks) _
mutual
theorem pl_new:∀ t:Raw,pl (newT t)≤wt t
  | .mk k d n f kids=>by
    unfold newT wt
    have hd:n / widN (d % 4).toNat≤n:=Nat.div_le_self _ _
    have hw:=widN_pos (d % 4).toNat
    split
    · unfold pl pls
      rw [Nat.mul_div_cancel _ (by omega)]
      omega
    · split
      · unfold pl pls
        rw [Nat.mul_div_cancel _ (by omega)]
        omega
      · have h1:=pl_node (kindN k) (d % 4).toNat f ((newTs kids).filter (keepT (kindN k)))
        have h2:=pls_filter (keepT (kindN k)) (newTs kids)
        have h3:=pls_new kids
        omega
theorem pls_new:∀ ts:List Raw,pls (newTs ts)≤wts ts
  | []=>Nat.le_refl _
  | t::ts=>by
    have h1:=pl_new t
    have h2:=pls_new ts
    unfold newTs pls wts
    omega
end
theorem dims_new:∀ t:Raw,dimsOk (newT t)
  | .mk k d n f kids=>by
    unfold newT
    split
    · exact ⟨by omega,by omega,trivial⟩
    · split
      · exact ⟨by omega,by omega,trivial⟩
      · exact dims_node _ _ (by omega) _ _
theorem forceTs_len (r':Nat):∀ ts:List Raw,(forceTs r' ts).length=ts.length
  | []=>rfl
  | t::ts=>by unfold forceTs;simp [forceTs_len r' ts]
theorem forceTs_get (r':Nat):∀ (ts:List Raw) (i:Nat),(forceTs r' ts)[i]?=(ts[i]?).map (forceT r')
  | [],i=>by simp [forceTs]
  | t::ts,0=>by simp [forceTs]
  | t::ts,i+1=>by simp [forceTs,forceTs_get r' ts i]
theorem forceTs_snoc (r':Nat):∀ (ts:List Raw) (t:Raw),forceTs r' (ts++[t])=forceTs r' ts++[forceT r' t]
  | [],t=>rfl
  | s::ts,t=>by simp only [List.cons_append,forceTs,forceTs_snoc r' ts t]
theorem newTs_snoc:∀ (ts:List Raw) (t:Raw),newTs (ts++[t])=newTs ts++[newT t]
  | [],t=>rfl
  | s::ts,t=>by simp only [List.cons_append,newTs,newTs_snoc ts t]
theorem dimsOf_snoc:∀ (ts:List Raw) (t:Raw),dimsOf (ts++[t])=dimsOf ts &&& dimR t
  | [],t=>by simp [dimsOf,Nat.and_comm]
  | s::ts,t=>by simp only [List.cons_append,dimsOf,dimsOf_snoc ts t,Nat.and_assoc]
theorem dimsOks_mem:∀ (ts:List Raw),dimsOks ts→∀ (i:Nat) (t:Raw),ts[i]?=some t→dimsOk t
  | [],_,_,_,h=>by simp at h
  | s::ts,hd,0,t,h=>by simp at h;subst h;exact hd.1
  | s::ts,hd,i+1,t,h=>dimsOks_mem ts hd.2 i t (by simpa using h)
theorem pls_mem:∀ (l:List Raw) (i:Nat) (t:Raw),l[i]?=some t→pl t≤pls l
  | [],_,_,h=>by simp at h
  | s::l,0,t,h=>by simp at h;subst h;simp only [pls];omega
  | s::l,i+1,t,h=>by
    have:=pls_mem l i t (by simpa using h)
    simp only [pls];omega
theorem pl_pos (t:Raw):1≤pl t:=by cases t;unfold pl;exact Nat.le_trans (Nat.le_add_right 1 _) (Nat.le_add_right _ _)
theorem pls_len:∀ (l:List Raw),l.length≤pls l
  | []=>by simp [pls]
  | t::l=>by
    have:=pls_len l
    have:=pl_pos t
    simp only [List.length_cons,pls];omega
end
section
open Go.RowKit
theorem ret_bool {a b:Bool} (h:a=b):Ending.returned (.bool a)=.returned (.bool b):=by rw [h]
def WPostD (W:World) (t:Raw) (left:Int) (e:Ending) (w':World):Prop:=∃ r:Int,e=.returned (.int .i64 r)∧-1≤r∧r≤2000∧(0≤r→(wt t:Int)+r=left)∧((wt t:Int)≤left→0≤r)∧W.grownBy w' none
theorem gWeightD {B:Nat→Prop} : ∀ (h:Nat) (W:World) (v:Value) (t:Raw) (left:Int),KD B h W v t→left≤2000→Calls Tryz.prog 39 #[v,.int .i64 left] W (WPostD W t left):=by
  intro h
  induction h with
  | zero=>intro W v t left hk;exact hk.elim
  | succ h ih =>
    intro W v t left hk hleft
    obtain ⟨k,d,n,f,kids⟩:=t
    obtain ⟨p,cap,q,c2,rfl,hf,h1,h2,h3,hm1,hm2,hm3,hm4,_⟩:=hk
    have HM:=Lib.hid hm4
    have HM3:=Lib.hid hm3
    have HT:=Lib.hid (fun j t (hj:kids[j]?=some t)=>wts_take_succ kids j t hj)
    have HWl:Hid (kids.length≤wts kids):=wts_len kids
    have HTk:Hid (∀ j,wts (kids.take j)≤wts kids):=fun j=>by
      have:=wts_append (kids.take j) (kids.drop j)
      rw [List.take_append_drop] at this
      omega
    have HE:Hid (wts (kids.take kids.length)=wts kids):=by rw [List.take_length];rfl
    have HW:Hid ((wt (.mk k d n f kids):Int)=1+n+wts kids):=by unfold wt;push_cast;rfl
    obtain ⟨m,hm⟩ : ∃ m,m=kids.length:=⟨_,rfl⟩
    have HG:Hid (∀ j,j<m→∃ t,kids[j]?=some t):=fun j hj=>⟨kids[j]'(by omega),List.getElem?_eq_getElem (by omega)⟩
    rw [←hm] at HE HWl hm1 ⊢
    clear hm4 hm3 hm
    have hmax:maxLen=9223372036854775807:=rfl
    by_cases hb:left<1∨left<n∨left<m
    · go_enter Tryz.func39,Tryz.ntmps39
      go_wp2_with fail
      all_goals first
        | (exfalso;omega)
        | (go_ret;exact ⟨-1,rfl,by omega,by omega,fun h=>by omega,fun h=>by rw [HW.out] at h;have:=HWl.out;omega,World.grownBy_alloc _ _ _⟩)
    · obtain ⟨b1,b2,b3⟩ : 1≤left∧(n:Int)≤left∧(m:Int)≤left:=by omega
      clear hb
      go_enter Tryz.func39,Tryz.ntmps39
      go_wp2_with fail
      have H1:=World.grownBy_alloc W (.cells #[.int .i64 k,.int .i64 d,.slice p n cap,.slice q m c2] 33) none
      have HB:Hid (∀ W',(W.alloc (.cells #[.int .i64 k,.int .i64 d,.slice p n cap,.slice q m c2] 33)).grownBy W' none→W'.cell? ⟨W.heap.size,3,none⟩=some (.slice q m c2)):=fun W' g=>g.cell (by simp) (by simp)
      go_loopw [1,5] (fun l i wr=>∃ (r:Int) (j:Nat),l=.int .i64 r∧i=.int .i64 j∧j≤m∧-1≤r∧r≤2000∧(0≤r→1+(n:Int)+wts (kids.take j)+r=left)∧(1+(n:Int)+wts kids≤left→0≤r)∧(W.alloc (.cells #[.int .i64 k,.int .i64 d,.slice p n cap,.slice q m c2] 33)).grownBy wr none) (fun _ i _=>m - (intOf i).toNat)
      case atStart=>exact ⟨_,0,rfl,rfl,by omega,by omega,by omega,fun _=>by simp [wts];omega,fun _=>by omega,gt_refl _ _⟩
      case round =>
        obtain ⟨r,j,rfl,rfl,hj,hr1,hr2,hsum,hpos,hg⟩:=hrel
        rename World=>wr
        have hbox:=HB.out wr hg
        have HS:=Lib.hid hsum
        have HP:=Lib.hid hpos
        clear hsum hpos
        by_cases hjm:j<m
        · by_cases hr0:0≤r
          · obtain ⟨t,ht⟩:=HG.out j hjm
            obtain ⟨a,rfl⟩ : ∃ a,q=some a:=by
              cases q with
              | none=>have:=HM3.out rfl;omega
              | some a=>exact ⟨a,rfl⟩
            obtain ⟨c0,c1,c2,c3,k0,k1,k2,k3,k4⟩:=HM.out a rfl j t ht
            have G:=gt_trans H1 hg (.inl rfl)
            have q1:=G.cell k1 (by simp)
            have q2:=G.cell k2 (by simp)
            have q3:=G.cell k3 (by simp)
            have q4:=G.cell k4 (by simp)
            have IH:=Lib.hid (ih wr _ t r (k0.mono G) hr2)
            have HTj:=Lib.hid (HT.out j t ht)
            clear k0 k1 k2 k3 k4 ht
            go_wp2_with (go_at_call 39;refine IH.out.mono ?_;rintro e w' ⟨r',rfl,hr1',hr2',hs',hp',hg'⟩)
            exact ⟨⟨r',j+1,rfl,by go_num,by omega,hr1',hr2',fun h0=>by rw [HTj.out];have e1:=hs' h0;have e2:=HS.out hr0;push_cast;omega,fun h0=>hp' (by have e2:=HS.out hr0;have e3:=HTk.out (j+1);rw [HTj.out] at e3;omega),gt_trans hg hg' (.inr (.inl rfl))⟩,by simp [intOf];omega⟩
          · go_wp2_with fail
            go_wp2_with fail
            go_ret
            exact ⟨r,rfl,hr1,hr2,fun h=>by omega,fun h=>HP.out (by rw [HW.out] at h;exact h),gt_trans H1 hg (.inl rfl)⟩
        · obtain rfl:j=m:=by omega
          go_wp2_with fail
          go_wp2_with fail
          go_ret
          exact ⟨r,rfl,hr1,hr2,fun h0=>by have e:=HS.out h0;rw [HE.out] at e;rw [HW.out];omega,fun h=>HP.out (by rw [HW.out] at h;exact h),gt_trans H1 hg (.inl rfl)⟩
theorem gSmallD1 {B:Nat→Prop} (h:Nat) (W:World) (a:Addr) (c0 c1 c2 c3:Value) (t:Raw) (hk:KD B h W (.agg #[c0,c1,c2,c3]) t) (k0:W.cell? a=some c0)
    (k1:W.cell? ⟨a.block,a.off+1,none⟩=some c1) (k2:W.cell? ⟨a.block,a.off+2,none⟩=some c2) (k3:W.cell? ⟨a.block,a.off+3,none⟩=some c3) :
    Calls Tryz.prog 20 #[.slice (some a) 1 1] W (fun e w'=>e=.returned (.bool (decide (wt t≤2000)))∧W.grownBy w' none):=by
  go_enter Tryz.func20,Tryz.ntmps20
  go_wp2_with fail
  go_loopw [3,4] (fun l i wr=>∃ (r:Int) (j:Nat),l=.int .i64 r∧i=.int .i64 j∧j≤1∧-1≤r∧r≤2000∧W.grownBy wr none∧(j=0→r=2000)∧(j=1→(0≤r↔wt t≤2000))) (fun _ i _=>1 - (intOf i).toNat)
  case atStart=>exact ⟨2000,0,rfl,rfl,by omega,by omega,by omega,gt_refl _ _,fun _=>rfl,fun h=>by omega⟩
  case round =>
    obtain ⟨r,j,rfl,rfl,hj,hr1,hr2,hg,hn0,hn⟩:=hrel
    rename World=>wr
    by_cases hj0:j=0
    · subst hj0
      have q0:=hg.cell k0 (by simp)
      have q1:=hg.cell k1 (by simp)
      have q2:=hg.cell k2 (by simp)
      have q3:=hg.cell k3 (by simp)
      have IH:=Lib.hid (gWeightD h wr _ t r (hk.mono hg) hr2)
      clear k0 k1 k2 k3
      obtain rfl:=hn0 rfl
      clear hn0
      go_wp2_with (go_at_call 39;refine IH.out.mono ?_;rintro e w' ⟨r',rfl,hr1',hr2',hn',hp',hg'⟩)
      exact ⟨⟨r',1,rfl,by go_num,by omega,hr1',hr2',gt_trans hg hg' (.inl rfl),fun h=>by omega,fun _=>⟨fun h0=>by have:=hn' h0;omega,fun h0=>hp' (by omega)⟩⟩,by simp [intOf]⟩
    · obtain rfl:j=1:=by omega
      have hn1:=hn rfl
      have he:decide (wt t≤2000)=decide (0≤r):=by rw [decide_eq_decide];exact hn1.symm
      have HE:=Lib.hid he
      clear hn hn0 hn1 he
      go_wp2_with fail
      go_wp2_with fail
      go_ret
      exact ⟨ret_bool HE.out.symm,hg⟩
end
section
open Go.RowKit
inductive Rd (α:Type) where
  | ok (a:α) (l:List UInt8)
  | bad (great:Bool)
def Rd.bind {α β:Type} : Rd α→(α→List UInt8→Rd β)→Rd β
  | .ok a l,f=>f a l
  | .bad g,_=>.bad g
theorem Rd.ok_bind {α β:Type} (a:α) (l:List UInt8) (f:α→List UInt8→Rd β):(Rd.ok a l).bind f=f a l:=rfl
theorem Rd.bind_ok {α β:Type} {r:Rd α} {f:α→List UInt8→Rd β} {b:β} {l:List UInt8} (h:r.bind f=.ok b l):∃ a l1,r=.ok a l1∧f a l1=.ok b l:=by
  cases r with
  | ok a l1=>exact ⟨a,l1,rfl,h⟩
  | bad g=>cases h
def numL (big:Bool) (l:List UInt8):Nat:=if big=true then Lib.beNat l else Lib.leNat l
def rdN (n:Nat) (big:Bool) (l:List UInt8):Rd Nat:=if l.length<n then .bad false else .ok (numL big (l.take n)) (l.drop n)
def rdC (big:Bool) (l:List UInt8):Rd Nat:=(rdN 4 big l).bind fun n l1=>if 4096<n then .bad true else .ok n l1
def numsOf (big:Bool):Nat→List UInt8→List Nat
  | 0,_=>[]
  | m+1,l=>numL big (l.take 8)::numsOf big m (l.drop 8)
def rdF (m:Nat) (big:Bool) (l:List UInt8):Rd (List Nat):=if l.length<8*m then .bad false else .ok (numsOf big m l) (l.drop (8*m))
def fOf (ns:List Nat) (i:Nat):Nat:=ns.getD i 0
def rdL (f:List UInt8→Rd Raw):Nat→List UInt8→Rd (List Raw)
  | 0,l=>.ok [] l
  | n+1,l=>(f l).bind fun t l1=>(rdL f n l1).bind fun ts l2=>.ok (t::ts) l2
def rdLine (d:Nat) (big:Bool) (l:List UInt8):Rd Raw:=(rdC big l).bind fun n l1=>(rdF (n*widN d) big l1).bind fun ns l2=>.ok (.mk 2 d (n*widN d) (fOf ns) []) l2
def nanB (b:Nat):Bool:=FloatKind.f64.format.order b b != some .eq
theorem isNaN_D (b:Nat) (W:World):Calls Tryz.prog 38 #[.float .f64 b] W fun e w'=>e=.returned (.bool (nanB b))∧w'=W:=by
  go_enter Tryz.func38,Tryz.ntmps38
  go_wp2_with fail
  go_ret
  exact ⟨ret_bool (by unfold nanB;first | rfl | simp),rfl⟩
noncomputable def rdPt (any:Bool) (d:Nat) (ns:List Nat) (l:List UInt8):Rd Raw :=
  if (nanB (fOf ns 0)&&nanB (fOf ns 1))=true then .ok (.mk 1 d 0 (fOf ns) []) l
  else if ((nanB (fOf ns 0)||nanB (fOf ns 1))&&!any)=true then .bad false
  else .ok (.mk 1 d (widN d) (fOf ns) []) l
structure Hd where
  big:Bool
  k:Int
  d:Nat
def rdHead (l:List UInt8):Rd Hd:=(rdN 1 false l).bind fun o l1=>(rdN 4 (o==0) l1).bind fun c l2 =>
  if 1<o∨c % 1000<1∨7<c % 1000∨3<c / 1000 then .bad false else .ok ⟨o==0,if c % 1000=7 then 0 else (c % 1000:Nat),c / 1000⟩ l2
noncomputable def rdB (any:Bool) (F:Int→List UInt8→Rd Raw) (hd:Hd) (l:List UInt8):Rd Raw :=
  if hd.k=1 then (rdF (widN hd.d) hd.big l).bind fun ns l2=>rdPt any hd.d ns l2
  else if hd.k=2 then rdLine hd.d hd.big l
  else (rdC hd.big l).bind fun n l2=>(rdL (if hd.k=3 then rdLine hd.d hd.big else F (kidOf hd.k)) n l2).bind fun ts l3=>.ok (.mk hd.k hd.d 0 (fun _=>0) ts) l3
noncomputable def rdG (any:Bool):Nat→Int→List UInt8→Rd Raw
  | 0,_,_=>.bad false
  | h+1,kind,l=>(rdHead l).bind fun hd l1=>if 0≤kind∧hd.k≠kind∧any=false then .bad false else rdB any (rdG any h) hd l1
mutual
noncomputable def okK:Raw→Bool
  | .mk k _ n f kids=>(!decide (k=1)||n==0||!(nanB (f 0)||nanB (f 1)))&&okKs k kids
noncomputable def okKs (k:Int):List Raw→Bool
  | []=>true
  | t::ts=>(decide (kidOf k<0)||decide (kindOf t=kidOf k))&&okK t&&okKs k ts
end
theorem leNat_lt:∀ l:List UInt8,Lib.leNat l<256 ^ l.length
  | []=>by decide
  | b::l=>by
    have h:=leNat_lt l
    have hb:=b.toNat_lt
    unfold Lib.leNat
    rw [List.length_cons,Nat.pow_succ]
    omega
theorem beFrom_eq:∀ (l:List UInt8) (a:Nat),Lib.beFrom a l=a*256 ^ l.length+Lib.beFrom 0 l
  | [],a=>by simp [Lib.beFrom]
  | b::l,a=>by
    unfold Lib.beFrom
    rw [beFrom_eq l (a*256+b.toNat),beFrom_eq l (0*256+b.toNat),List.length_cons,Nat.pow_succ]
    simp only [Nat.add_mul,Nat.zero_mul,Nat.zero_add,Nat.mul_assoc,Nat.add_assoc,Nat.mul_comm 256]
theorem beNat_lt:∀ l:List UInt8,Lib.beNat l<256 ^ l.length:=by
  intro l
  unfold Lib.beNat
  induction l with
  | nil=>decide
  | cons b l ih =>
    have hb:=b.toNat_lt
    unfold Lib.beFrom
    rw [beFrom_eq,List.length_cons,Nat.pow_succ]
    have h1:(0*256+b.toNat)*256 ^ l.length≤255*256 ^ l.length:=Nat.mul_le_mul_right _ (by omega)
    omega
theorem numL_lt (big:Bool) (l:List UInt8) (k:Nat) (h:l.length≤k):numL big l<256 ^ k:=by
  have h1:256 ^ l.length≤256 ^ k:=Nat.pow_le_pow_right (by decide) h
  unfold numL
  split
  · exact Nat.lt_of_lt_of_le (beNat_lt l) h1
  · exact Nat.lt_of_lt_of_le (leNat_lt l) h1
theorem numL_lt8 (big:Bool) (l:List UInt8):numL big (l.take 8)<18446744073709551616:=by
  have:=numL_lt big (l.take 8) 8 (by rw [List.length_take];omega)
  have e:256 ^ 8=18446744073709551616:=by decide
  omega
theorem numsOf_len (big:Bool):∀ (m:Nat) (l:List UInt8),(numsOf big m l).length=m
  | 0,_=>rfl
  | m+1,l=>by simp [numsOf,numsOf_len big m]
theorem numsOf_at (big:Bool):∀ (m:Nat) (l:List UInt8) (i:Nat),i<m→(numsOf big m l)[i]?=some (numL big ((l.drop (8*i)).take 8))
  | m+1,l,0,_=>by simp [numsOf]
  | m+1,l,i+1,h=>by
    simp only [numsOf,List.getElem?_cons_succ]
    rw [numsOf_at big m (l.drop 8) i (by omega),List.drop_drop,show 8+8*i=8*(i+1) by omega]
theorem fOf_at (big:Bool) (m:Nat) (l:List UInt8) (i:Nat) (h:i<m):fOf (numsOf big m l) i=numL big ((l.drop (8*i)).take 8):=by
  unfold fOf
  rw [List.getD_eq_getElem?_getD,numsOf_at big m l i h];rfl
theorem fOf_lt (big:Bool) (m:Nat) (l:List UInt8) (i:Nat):fOf (numsOf big m l) i<18446744073709551616:=by
  by_cases h:i<m
  · rw [fOf_at big m l i h];exact numL_lt8 _ _
  · unfold fOf
    rw [List.getD_eq_getElem?_getD,List.getElem?_eq_none (by rw [numsOf_len];omega)]
    decide
theorem rdN_len {n:Nat} {big:Bool} {l l1:List UInt8} {a:Nat} (h:rdN n big l=.ok a l1):l1.length+n=l.length∧a=numL big (l.take n)∧l1=l.drop n:=by
  unfold rdN at h
  split at h
  · cases h
  · injection h with h1 h2
    subst h2
    exact ⟨by rw [List.length_drop];omega,h1.symm,rfl⟩
theorem rdC_len {big:Bool} {l l1:List UInt8} {a:Nat} (h:rdC big l=.ok a l1):l1.length+4=l.length∧a≤4096:=by
  obtain ⟨n,l2,h1,h2⟩:=Rd.bind_ok h
  split at h2
  · cases h2
  · injection h2 with h3 h4
    subst h4 h3
    exact ⟨(rdN_len h1).1,by omega⟩
theorem rdF_len {m:Nat} {big:Bool} {l l1:List UInt8} {a:List Nat} (h:rdF m big l=.ok a l1):l1.length+8*m=l.length∧a=numsOf big m l∧l1=l.drop (8*m):=by
  unfold rdF at h
  split at h
  · cases h
  · injection h with h1 h2
    subst h2
    exact ⟨by rw [List.length_drop];omega,h1.symm,rfl⟩
theorem rdHead_len {l l1:List UInt8} {hd:Hd} (h:rdHead l=.ok hd l1):l1.length+5=l.length∧0≤hd.k∧hd.k≤6∧hd.d<4:=by
  obtain ⟨o,l2,h1,h2⟩:=Rd.bind_ok h
  obtain ⟨c,l3,h3,h4⟩:=Rd.bind_ok h2
  have e1:=(rdN_len h1).1
  have e3:=(rdN_len h3).1
  split at h4
  · cases h4
  · rename_i hc
    injection h4 with h5 h6
    subst h6 h5
    refine ⟨by omega,?_⟩
    show 0≤(if c % 1000=7 then (0:Int) else (c % 1000:Nat))∧(if c % 1000=7 then (0:Int) else (c % 1000:Nat))≤6∧c / 1000<4
    split <;> omega
theorem rdLine_ok {d:Nat} {big:Bool} {l l1:List UInt8} {t:Raw} (h:rdLine d big l=.ok t l1):∃ n l0,rdC big l=.ok n l0∧n≤4096∧l0.length+4=l.length∧l1.length+8*(n*widN d)=l0.length∧l1=l0.drop (8*(n*widN d))∧t=.mk 2 d (n*widN d) (fOf (numsOf big (n*widN d) l0)) []:=by
  obtain ⟨n,l0,h1,h2⟩:=Rd.bind_ok h
  obtain ⟨ns,l2,h3,h4⟩:=Rd.bind_ok h2
  injection h4 with h5 h6
  subst h6 h5
  obtain ⟨e1,e2,e3⟩:=rdF_len h3
  obtain ⟨e4,e5⟩:=rdC_len h1
  exact ⟨n,l0,h1,e5,e4,e1,e3,by rw [e2]⟩
theorem rdLine_wt {d:Nat} {big:Bool} {l l1:List UInt8} {t:Raw} (h:rdLine d big l=.ok t l1):4*wt t+l1.length≤l.length:=by
  obtain ⟨n,l0,_,_,e1,e2,_,rfl⟩:=rdLine_ok h
  unfold wt wts
  omega
theorem rdL_wt {F:List UInt8→Rd Raw} : ∀ (n:Nat) (l:List UInt8) (l1:List UInt8) (ts:List Raw),(∀ l t l1,F l=.ok t l1→4*wt t+l1.length≤l.length)→rdL F n l=.ok ts l1→4*wts ts+l1.length≤l.length∧ts.length=n
  | 0,l,l1,ts,_,h=>by
    injection h with h1 h2
    subst h1 h2
    simp [wts]
  | n+1,l,l1,ts,hF,h=>by
    obtain ⟨t,l2,h1,h2⟩:=Rd.bind_ok h
    obtain ⟨ts',l3,h3,h4⟩:=Rd.bind_ok h2
    injection h4 with h5 h6
    subst h6 h5
    have e1:=hF _ _ _ h1
    obtain ⟨e2,e3⟩:=rdL_wt n l2 l3 ts' hF h3
    unfold wts
    exact ⟨by omega,by rw [List.length_cons,e3]⟩
theorem rdPt_ok {any:Bool} {d:Nat} {ns:List Nat} {l l1:List UInt8} {t:Raw} (h:rdPt any d ns l=.ok t l1):l1=l∧∃ n,t=.mk 1 d n (fOf ns) []∧(n=0∨n=widN d):=by
  unfold rdPt at h
  split at h
  · injection h with h1 h2
    exact ⟨h2.symm,0,h1.symm,.inl rfl⟩
  · split at h
    · cases h
    · injection h with h1 h2
      exact ⟨h2.symm,_,h1.symm,.inr rfl⟩
theorem rdG_wt (any:Bool):∀ (h:Nat) (kind:Int) (l:List UInt8) (t:Raw) (l1:List UInt8),rdG any h kind l=.ok t l1→4*wt t+l1.length≤l.length
  | 0,_,_,_,_,h=>by cases h
  | h+1,kind,l,t,l1,e=>by
    obtain ⟨hd,l2,e1,e2⟩:=Rd.bind_ok e
    obtain ⟨b1,b2,b3,b4⟩:=rdHead_len e1
    split at e2
    · cases e2
    · unfold rdB at e2
      split at e2
      · obtain ⟨ns,l3,e3,e4⟩:=Rd.bind_ok e2
        obtain ⟨c1,c2,c3⟩:=rdF_len e3
        obtain ⟨rfl,n,rfl,hn⟩:=rdPt_ok e4
        have hw:=widN_le hd.d b4
        unfold wt wts
        omega
      · split at e2
        · have:=rdLine_wt e2
          omega
        · obtain ⟨n,l3,e3,e4⟩:=Rd.bind_ok e2
          obtain ⟨ts,l4,e5,e6⟩:=Rd.bind_ok e4
          injection e6 with e7 e8
          subst e8 e7
          have c1:=rdC_len e3
          have c2:=rdL_wt n l3 l4 ts (by
            split
            · exact fun l t l1 h=>rdLine_wt h
            · exact fun l t l1 h'=>rdG_wt any h _ l t l1 h') e5
          unfold wt
          omega
theorem rdL_same (k:Int) (F G:List UInt8→Rd Raw) (hok:∀ l t l1,F l=.ok t l1→G l=if ((decide (kidOf k<0)||decide (kindOf t=kidOf k))&&okK t)=true then .ok t l1 else .bad false) (hbad:∀ l,F l=.bad false→G l=.bad false) :
    ∀ (n:Nat) (l:List UInt8),(∀ ts l1,rdL F n l=.ok ts l1→rdL G n l=if okKs k ts=true then .ok ts l1 else .bad false)∧(rdL F n l=.bad false→rdL G n l=.bad false)
  | 0,l=>by
    refine ⟨fun ts l1 h=>?_,fun h=>?_⟩
    · injection h with h1 h2
      subst h1 h2
      unfold rdL okKs
      rw [if_pos rfl]
    · cases h
  | n+1,l=>by
    have ih:=rdL_same k F G hok hbad n
    cases hF:F l with
    | bad g=>
      refine ⟨fun ts l1 h=>(by unfold rdL at h;rw [hF] at h;cases h),fun h=>?_⟩
      have h':Rd.bind (F l) (fun t l1=>(rdL F n l1).bind fun ts l2=>Rd.ok (t::ts) l2)=.bad false:=h
      rw [hF] at h'
      have hg:g=false:=by injection h'
      rw [hg] at hF
      show Rd.bind (G l) _=_
      rw [hbad l hF]
      rfl
    | ok t l2 =>
      have hG:=hok l t l2 hF
      obtain ⟨i1,i2⟩:=ih l2
      have eF:rdL F (n+1) l=(rdL F n l2).bind fun ts l2=>Rd.ok (t::ts) l2:=by show Rd.bind (F l) _=_;rw [hF];rfl
      have eG:rdL G (n+1) l=(G l).bind fun t l1=>(rdL G n l1).bind fun ts l2=>Rd.ok (t::ts) l2:=rfl
      rw [eF,eG,hG]
      cases hc:((decide (kidOf k<0)||decide (kindOf t=kidOf k))&&okK t) with
      | false =>
        rw [if_neg (by simp)]
        refine ⟨fun ts l1 h=>?_,fun _=>rfl⟩
        obtain ⟨ts',l3,h1,h2⟩:=Rd.bind_ok h
        injection h2 with h3 h4
        subst h3
        rw [if_neg]
        · rfl
        · show ¬ ((decide (kidOf k<0)||decide (kindOf t=kidOf k))&&okK t&&okKs k ts')=true
          rw [hc];simp
      | true =>
        rw [if_pos rfl]
        have e9:Rd.bind (Rd.ok t l2) (fun t l1=>(rdL G n l1).bind fun ts l2=>Rd.ok (t::ts) l2)=(rdL G n l2).bind fun ts l2=>Rd.ok (t::ts) l2:=rfl
        rw [e9]
        refine ⟨fun ts l1 h=>?_,fun h=>?_⟩
        · obtain ⟨ts',l3,h1,h2⟩:=Rd.bind_ok h
          injection h2 with h3 h4
          subst h3 h4
          rw [i1 ts' l3 h1]
          have ek:okKs k (t::ts')=okKs k ts':=by
            show ((decide (kidOf k<0)||decide (kindOf t=kidOf k))&&okK t&&okKs k ts')=_
            rw [hc];simp
          rw [ek]
          split <;> rfl
        · cases hr:rdL F n l2 with
          | ok a b=>rw [hr] at h;cases h
          | bad g =>
            rw [hr] at h
            have hg:g=false:=by injection h
            rw [hg] at hr
            rw [i2 hr];rfl
theorem rdLine_kind {d:Nat} {big:Bool} {l l1:List UInt8} {t:Raw} (h:rdLine d big l=.ok t l1):kindOf t=2∧okK t=true:=by
  obtain ⟨n,l0,_,_,e1,e2,_,rfl⟩:=rdLine_ok h
  exact ⟨rfl,by unfold okK okKs;simp⟩
theorem rdG_anyk:∀ (h:Nat) (k k':Int) (l:List UInt8),rdG true h k l=rdG true h k' l
  | 0,_,_,_=>rfl
  | h+1,k,k',l=>by unfold rdG;simp
theorem rdG_same:∀ (h:Nat) (kind:Int) (l:List UInt8),
    (∀ t l1,rdG true h (-1) l=.ok t l1→rdG false h kind l=if ((decide (kind<0)||decide (kindOf t=kind))&&okK t)=true then .ok t l1 else .bad false) ∧
    (rdG true h (-1) l=.bad false→rdG false h kind l=.bad false)
  | 0,kind,l=>⟨fun t l1 h=>(by cases h),fun _=>rfl⟩
  | h+1,kind,l=>by
    have ih:=rdG_same h
    cases hH:rdHead l with
    | bad g =>
      have eT:rdG true (h+1) (-1) l=.bad g:=by unfold rdG;rw [hH];rfl
      have eF:rdG false (h+1) kind l=.bad g:=by unfold rdG;rw [hH];rfl
      rw [eT,eF]
      exact ⟨fun t l1 h=>(by cases h),fun h=>h⟩
    | ok hd l2 =>
      obtain ⟨_,b2,b3,b4⟩:=rdHead_len hH
      have eT:rdG true (h+1) (-1) l=rdB true (rdG true h) hd l2:=by
        have e:rdG true (h+1) (-1) l=if (0:Int)≤-1∧hd.k≠-1∧true=false then Rd.bad false else rdB true (rdG true h) hd l2:=by
          unfold rdG;rw [hH];rfl
        rw [e,if_neg (by simp)]
      have eF:rdG false (h+1) kind l=if 0≤kind∧hd.k≠kind then .bad false else rdB false (rdG false h) hd l2:=by
        have e:rdG false (h+1) kind l=if 0≤kind∧hd.k≠kind∧false=false then Rd.bad false else rdB false (rdG false h) hd l2:=by
          unfold rdG;rw [hH];rfl
        rw [e]
        by_cases hc:0≤kind∧hd.k≠kind
        · rw [if_pos ⟨hc.1,hc.2,rfl⟩,if_pos hc]
        · rw [if_neg (fun h=>hc ⟨h.1,h.2.1⟩),if_neg hc]
      have key:(∀ t l1,rdB true (rdG true h) hd l2=.ok t l1→kindOf t=hd.k∧rdB false (rdG false h) hd l2=if okK t=true then .ok t l1 else .bad false)∧(rdB true (rdG true h) hd l2=.bad false→rdB false (rdG false h) hd l2=.bad false):=by
        unfold rdB
        by_cases h1:hd.k=1
        · simp only [if_pos h1]
          cases rdF (widN hd.d) hd.big l2 with
          | bad g=>exact ⟨fun t l1 h=>(by cases h),fun h=>h⟩
          | ok ns l3 =>
            show (∀ t l1,rdPt true hd.d ns l3=.ok t l1→kindOf t=hd.k∧rdPt false hd.d ns l3=_)∧(rdPt true hd.d ns l3=.bad false→rdPt false hd.d ns l3=.bad false)
            have hw:=widN_le hd.d b4
            have hw0:(widN hd.d==0)=false:=by rw [beq_eq_false_iff_ne];omega
            have e0:okK (.mk 1 hd.d 0 (fOf ns) [])=true:=by unfold okK okKs;simp
            have e1:okK (.mk 1 hd.d (widN hd.d) (fOf ns) [])=!(nanB (fOf ns 0)||nanB (fOf ns 1)):=by unfold okK okKs;rw [hw0];simp
            unfold rdPt
            rw [h1]
            generalize nanB (fOf ns 0)=b0 at e1 ⊢
            generalize nanB (fOf ns 1)=b1 at e1 ⊢
            have key:∀ (t u:Raw) (a:Bool) (r:Rd Raw),okK u=a→kindOf u=1→r=(if a=true then Rd.ok u l3 else Rd.bad false)→(∀ t l1,Rd.ok u l3=Rd.ok t l1→kindOf t=1∧r=if okK t=true then Rd.ok t l1 else Rd.bad false):=by
              intro _ u a r h1 h2 h3 t l1 h
              injection h with h4 h5
              subst h4 h5
              rw [h1]
              exact ⟨h2,h3⟩
            cases b0 <;> cases b1 <;> refine ⟨?_,fun h=>?_⟩
            all_goals first
              | exact key (.mk 1 0 0 (fun _=>0) []) _ _ _ e0 rfl rfl
              | exact key (.mk 1 0 0 (fun _=>0) []) _ _ _ e1 rfl rfl
              | (cases h)
              | rfl
        · by_cases h2:hd.k=2
          · simp only [if_neg h1,if_pos h2]
            refine ⟨fun t l1 h=>?_,fun h=>h⟩
            obtain ⟨k1,k2⟩:=rdLine_kind h
            rw [k2,if_pos rfl,h2]
            exact ⟨k1,h⟩
          · simp only [if_neg h1,if_neg h2]
            cases rdC hd.big l2 with
            | bad g=>exact ⟨fun t l1 h=>(by cases h),fun h=>h⟩
            | ok n l3 =>
              have hs:=rdL_same hd.k (if hd.k=3 then rdLine hd.d hd.big else rdG true h (kidOf hd.k)) (if hd.k=3 then rdLine hd.d hd.big else rdG false h (kidOf hd.k))
                (by
                  intro l t l1 hF
                  by_cases h3:hd.k=3
                  · rw [if_pos h3] at hF ⊢
                    obtain ⟨k1,k2⟩:=rdLine_kind hF
                    rw [hF,k1,k2,h3]
                    rfl
                  · rw [if_neg h3] at hF ⊢
                    exact (ih (kidOf hd.k) l).1 t l1 (by rw [←hF];exact rdG_anyk h _ _ l))
                (by
                  intro l hF
                  by_cases h3:hd.k=3
                  · rw [if_pos h3] at hF ⊢
                    exact hF
                  · rw [if_neg h3] at hF ⊢
                    exact (ih (kidOf hd.k) l).2 (by rw [←hF];exact rdG_anyk h _ _ l)) n l3
              refine ⟨fun t l1 h=>?_,fun h=>?_⟩
              · change Rd.bind (rdL _ n l3) _=_ at h
                obtain ⟨ts,l4,e5,e6⟩:=Rd.bind_ok h
                injection e6 with e7 e8
                subst e8 e7
                refine ⟨rfl,?_⟩
                show Rd.bind (rdL _ n l3) _=_
                rw [hs.1 ts l4 e5]
                have ek:okK (.mk hd.k hd.d 0 (fun _=>0) ts)=okKs hd.k ts:=by
                  show ((!decide (hd.k=1)||(0:Nat)==0||_)&&okKs hd.k ts)=_
                  simp
                rw [ek]
                split <;> rfl
              · have h':Rd.bind (rdL (if hd.k=3 then rdLine hd.d hd.big else rdG true _ (kidOf hd.k)) n l3) (fun ts l3=>Rd.ok (Raw.mk hd.k hd.d 0 (fun _=>0) ts) l3)=.bad false:=h
                show Rd.bind (rdL _ n l3) _=_
                cases hr:rdL (if hd.k=3 then rdLine hd.d hd.big else rdG true _ (kidOf hd.k)) n l3 with
                | ok a b=>rw [hr] at h';cases h'
                | bad g =>
                  rw [hr] at h'
                  have hg:g=false:=by injection h'
                  rw [hg] at hr
                  rw [hs.2 hr];rfl
      rw [eT,eF]
      refine ⟨fun t l1 h=>?_,fun h=>?_⟩
      · obtain ⟨k1,k2⟩:=key.1 t l1 h
        rw [k2,k1]
        by_cases hc:0≤kind∧hd.k≠kind
        · rw [if_pos hc,if_neg]
          simp
          intro h
          omega
        · rw [if_neg hc]
          have e:(decide (kind<0)||decide (hd.k=kind))=true:=by
            by_cases h0:kind<0
            · simp [h0]
            · have:hd.k=kind:=Classical.byContradiction fun hn=>hc ⟨by omega,hn⟩
              simp [this]
          rw [e,Bool.true_and]
      · rw [key.2 h]
        split <;> rfl
end
section
open Go.RowKit
def emptyN:Nat:=9221120237041090561
def codeN (k:Int):Nat:=if k=0 then 7 else k.toNat
def numsW (n:Nat) (f:Nat→Nat):List UInt8:=(List.range n).flatMap fun i=>Lib.leBytes 8 (f i)
def bLine:Raw→List UInt8
  | .mk _ d n f _=>Lib.leBytes 4 (n / widN d.toNat)++numsW n f
mutual
def wrT:Raw→List UInt8
  | .mk k d n f kids=>[1]++Lib.leBytes 4 (codeN k+1000*d.toNat)++(if k=1 then (if n=0 then numsW (widN d.toNat) (fun _=>emptyN) else numsW n f) else if k=2 then bLine (.mk k d n f kids) else Lib.leBytes 4 kids.length++wrTs (decide (k=3)) kids)
def wrTs (b:Bool):List Raw→List UInt8
  | []=>[]
  | t::ts=>(if b=true then bLine t else wrT t)++wrTs b ts
end
mutual
def gdT:Raw→Prop
  | .mk k d n f kids=>0≤k∧k≤6∧0≤d∧d<4∧(∀ i,i<n→f i<18446744073709551616∧nanB (f i)=false)∧(k=1→n=0∨n=widN d.toNat)∧(k=2→n % widN d.toNat=0∧n≤4096)∧kids.length≤4096∧(k=1∨k=2→kids=[])∧(k≠1→k≠2→n=0)∧gdTs k d kids
def gdTs (k d:Int):List Raw→Prop
  | []=>True
  | t::ts=>gdT t∧(0≤kidOf k→kindOf t=kidOf k)∧(k=3→dimR t=d.toNat)∧gdTs k d ts
end
theorem leB_len (k v:Nat):(Lib.leBytes k v).length=k:=Lib.leBytes_length k v
theorem numsW_succ (n:Nat) (f:Nat→Nat):numsW (n+1) f=Lib.leBytes 8 (f 0)++numsW n (fun i=>f (i+1)):=by
  unfold numsW
  rw [List.range_succ_eq_map,List.flatMap_cons,List.flatMap_map]
theorem numsW_len:∀ (n:Nat) (f:Nat→Nat),(numsW n f).length=8*n
  | 0,f=>rfl
  | n+1,f=>by rw [numsW_succ,List.length_append,leB_len,numsW_len n];omega
theorem zero_nan:nanB 0=false:=by kernel_rfl
theorem take_take' (l:List UInt8) (m n:Nat):(l.take m).take n=l.take (min n m):=List.take_take
theorem numsOf_take (big:Bool):∀ (n:Nat) (l:List UInt8) (m:Nat),8*n≤m→numsOf big n (l.take m)=numsOf big n l
  | 0,_,_,_=>rfl
  | n+1,l,m,h=>by
    unfold numsOf
    rw [take_take',Nat.min_eq_left (by omega),List.drop_take,numsOf_take big n (l.drop 8) (m - 8) (by omega)]
end
section
open Go.RowKit
theorem LineCT_any (r:Nat) (y:Value) (hy:∃ p n c,y=.slice p n c) (W:World) :
    Calls Tryz.prog 129 #[.agg #[.int .u8 r,y]] W fun e w'=>e=.returned (.int .u8 r)∧W.grownBy w' none:=by
  obtain ⟨p,n,c,rfl⟩:=hy
  go_enter Tryz.func129,Tryz.ntmps129
  go_wp2_with go_in
  go_ret
  exact ⟨rfl,gt_alloc_r (World.grownBy_alloc _ _ _) _⟩
end
section
open Go.RowKit
section
variable {e size base:Nat} {w0 W:World} {v0 v:Value} {n:Nat} {xs:List Value}
variable {P:Program} {ops:Array Oper} {rest:List Oper} {o:Oper} {a:Act} {Q:Exit→Act→World→Prop}
theorem app_src (hgd:o.guard=none) (s x:Operand) (t:TypeId) (ho:o.op=.call { callee:=.builtin .append,args:=#[s,x],argTypes:=#[t,t] })
    (ht:P.underlying t=some (.slice e)) (z:Value) (bytes:Nat) (hinfo:(P.info? e).map (fun i=>(i.zero,i.size,i.bytes))=some (some z,size,bytes)) (hzs:z.cells.size=size) (hsz:0<size)
    (H:AppV e size base w0 v0 W v n xs) (hs:a.eval s=v) (src:Value) (hx:a.eval x=src) (m:Nat) (cs:List Value) (hcl:cs.length=m*size) (h1:∀ u ∈ cs,u.oneCell'=true)
    (hsrc:src=.slice none 0 0∧m=0∨∃ ad c,src=.slice (some ad) m c∧∀ j u,cs[j]?=some u→W.cell? (ad.add j)=some u)
    (hbase:base≤w0.heap.size) (hl:(n+m)*bytes≤140737488355328) (hl2:n+m≤140737488355328)
    (h:∀ v1 w1,AppV e size base w0 v0 w1 v1 (n+m) (xs++cs)→wpList P ops Q rest (a.put o.dst v1) w1) :
    wpList P ops Q (o::rest) a W:=by
  obtain ⟨i0,hi,hzz⟩:=Option.map_eq_some_iff.1 hinfo
  simp only [Prod.mk.injEq] at hzz
  obtain ⟨hz0,hz1,hz2⟩:=hzz
  rcases hsrc with ⟨rfl,rfl⟩ | ⟨ad,c,rfl,hc⟩
  · obtain rfl:cs=[]:=List.eq_nil_of_length_eq_zero (by simpa using hcl)
    refine wpList_append_own_none hgd s x t ho base e i0 size ht hi v n xs hs H.own hx ?_
    exact h v W (by simpa using H)
  · refine wpList_append_own_at W hgd s x t ho base e i0 z size bytes ht hi hz0 hz1 hz2 hzs hsz v n xs hs H.own ad m c cs hx hcl hc h1 (by simp only [maxLen];omega) hl (H.based hbase) ?_
    intro v1 w1 hown hg _ hat
    refine h v1 w1 (H.trans ⟨hown,hg,?_⟩)
    rcases hat with hat | hat
    · exact .inl hat
    · exact .inr ⟨_,hat,Nat.le_refl _⟩
end
theorem own_at4 {w:World} {base n c:Nat} {e:TypeId} {p:Option Addr} {xs:List Value} (h:w.ownsRow base e 4 (.slice p n c) n xs):(0<n→∃ a,p=some a)∧∀ a,p=some a→∀ i j v,xs[i*4+j]?=some v→w.cell? (if j=0 then a.add (i*4) else ⟨(a.add (i*4)).block,(a.add (i*4)).off+j,none⟩)=some v:=by
  refine ⟨fun hn=>?_,fun a ha i j v hv=>?_⟩
  · rcases h.2 with h' | ⟨g,cap,cur,hv,_⟩
    · omega
    · injection hv with h1;exact ⟨_,h1⟩
  · rcases h.2 with h' | ⟨g,cap,cur,hv',_⟩
    · have:=h'.1;rw [ha] at this;cases this
    · injection hv' with h1 h2 h3
      subst h3
      rw [h1] at ha h
      injection ha with ha
      subst ha
      have hc:=h.cells (g:=g) rfl (i*4+j) v hv
      have hadd:∀ k,(⟨g,0,none⟩ : Addr).add k=⟨g,0+k,none⟩:=fun k=>by unfold Addr.add;split <;> simp_all
      rw [hadd] at hc
      rw [hadd]
      split
      · next h0=>subst h0;exact hc
      · have e:0+(i*4+j)=0+i*4+j:=by omega
        rw [e] at hc
        exact hc
section
variable {e size base:Nat} {W:World} {v:Value} {n:Nat} {xs:List Value}
variable {P:Program} {ops:Array Oper} {o:Oper} {a:Act} {K:Act→World→Prop} {Q:Exit→Act→World→Prop} {E:Prop}
theorem step_cells (hgd:o.guard=none) (s x:Operand) (t:TypeId) (ho:o.op=.call { callee:=.builtin .append,args:=#[s,x],argTypes:=#[t,t] })
    (ht:P.underlying t=some (.slice e)) (z:Value) (bytes:Nat) (hinfo:(P.info? e).map (fun i=>(i.zero,i.size,i.bytes))=some (some z,size,bytes)) (hzs:z.cells.size=size) (hsz:0<size)
    (hs:a.eval s=v) {k m c:Nat} (hx:a.eval x=.slice (some ⟨k,0,none⟩) m c) (hk:k=W.heap.size) (cs:Array Value) (hown:(W.alloc (.cells cs e)).ownsRow base e size v n xs) (hcl:cs.size=m*size) (h1:∀ u ∈ cs.toList,u.oneCell'=true)
    (hm:0<m) (hbase:base≤(W.alloc (.cells cs e)).heap.size) (hl:(n+m)*bytes≤140737488355328) (hl2:n+m≤140737488355328)
    (h:∀ g cap w',w'.ownsRow base e size (.slice (some ⟨g,0,none⟩) (n+m) cap) (n+m) (xs++cs.toList)→(W.alloc (.cells cs e)).grownBy w' v.ownBlock→(v.ownBlock=some g∨g=(W.alloc (.cells cs e)).heap.size)→K (a.put o.dst (.slice (some ⟨g,0,none⟩) (n+m) cap)) w') :
    if Region.wanted o (yielded ops a.tmps)=true then Oper.wp P o a (W.alloc (.cells cs e)) K Q else E:=by
  subst hk
  obtain ⟨i0,hi,hzz⟩:=Option.map_eq_some_iff.1 hinfo
  simp only [Prod.mk.injEq] at hzz
  obtain ⟨hz0,hz1,hz2⟩:=hzz
  refine step_append_lies (W.alloc (.cells cs e)) hgd s x t ho base e i0 z size bytes ht hi hz0 hz1 hz2 hzs hsz v n xs hs hown ⟨W.heap.size,0,none⟩ m c cs.toList hx (by simpa using hcl)
    (fun j u hj=>?_) h1 hm (by simp only [maxLen];omega) hl hbase _ rfl (fun g cap w' h2 h3 h4 _=>h g cap w' h2 h3 h4)
  by_cases h0:j=0
  · subst h0;simp [Addr.add];simpa using hj
  · simp [Addr.add,h0];simpa using hj
end
section
variable {e size base:Nat} {W:World} {v:Value} {n:Nat} {xs:List Value}
variable {P:Program} {ops:Array Oper} {rest:List Oper} {o:Oper} {a:Act} {Q:Exit→Act→World→Prop}
theorem app_cells2 (hgd:o.guard=none) (s x:Operand) (t:TypeId) (ho:o.op=.call { callee:=.builtin .append,args:=#[s,x],argTypes:=#[t,t] })
    (ht:P.underlying t=some (.slice e)) (z:Value) (bytes:Nat) (hinfo:(P.info? e).map (fun i=>(i.zero,i.size,i.bytes))=some (some z,size,bytes)) (hzs:z.cells.size=size) (hsz:0<size)
    (hs:a.eval s=v) {k m c:Nat} (hx:a.eval x=.slice (some ⟨k,0,none⟩) m c) (hk:k=W.heap.size) (cs:Array Value) (hown:(W.alloc (.cells cs e)).ownsRow base e size v n xs) (hcl:cs.size=m*size) (h1:∀ u ∈ cs.toList,u.oneCell'=true)
    (hm:0<m) (hbase:base≤(W.alloc (.cells cs e)).heap.size) (hl:(n+m)*bytes≤140737488355328) (hl2:n+m≤140737488355328)
    (h:∀ g cap w',w'.ownsRow base e size (.slice (some ⟨g,0,none⟩) (n+m) cap) (n+m) (xs++cs.toList)→(W.alloc (.cells cs e)).grownBy w' v.ownBlock→(v.ownBlock=some g∨g=(W.alloc (.cells cs e)).heap.size)→wpList P ops Q rest (a.put o.dst (.slice (some ⟨g,0,none⟩) (n+m) cap)) w') :
    wpList P ops Q (o::rest) a (W.alloc (.cells cs e)):=by
  subst hk
  obtain ⟨i0,hi,hzz⟩:=Option.map_eq_some_iff.1 hinfo
  simp only [Prod.mk.injEq] at hzz
  obtain ⟨hz0,hz1,hz2⟩:=hzz
  refine wpList_append_own_at (W.alloc (.cells cs e)) hgd s x t ho base e i0 z size bytes ht hi hz0 hz1 hz2 hzs hsz v n xs hs hown ⟨W.heap.size,0,none⟩ m c cs.toList hx (by simpa using hcl)
    (fun j u hj=>?_) h1 (by simp only [maxLen];omega) hl hbase ?_
  · by_cases h0:j=0
    · subst h0;simp [Addr.add];simpa using hj
    · simp [Addr.add,h0];simpa using hj
  · intro v1 w1 hown1 hg _ hat
    rcases hown1.2 with ⟨_,h0⟩ | ⟨g,cap,cur,rfl,hrest⟩
    · omega
    · have hob:(Value.slice (some ⟨g,0,none⟩) (n+m) cap).ownBlock=some g:=rfl
      rw [hob] at hat
      refine h g cap w1 hown1 hg ?_
      rcases hat with hat | hat
      · exact .inl hat.symm
      · injection hat with hat;exact .inr hat
end
end
end Go.Proofs.YtlpaecafpbbbkaaGreatDoor
