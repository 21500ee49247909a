/- The reference's New of what has parts. The package's text of points and of several points. The package's points, all of one type of coordinates. Several points, made of a geometry. FnMultiPointText: the package's side. -/
import Derived.Lib.MinMax
import Derived.Test.YtlpaecafpbbbkaaGreatDoorRCT3
import Derived.Test.YtlpaecafpbbbkaaGreatDoorRCT6
import Derived.Test.YtlpaecafpbbbkaaGreatDoorRCT8
import Derived.Test.YtlpaecafpbbbkaaGreatDoorRCT9
set_option linter.unusedVariables false
set_option linter.unusedSimpArgs false
set_option maxRecDepth 100000
set_option maxHeartbeats 24000000
namespace Go.Proofs.YtlpaecafpbbbkaaGreatDoor
section
open Go.RowKit
def Acc (K:Int) (kids:List Raw) (j:Nat):List Raw:=(newTs (kids.take j)).filter (keepT K)
theorem Acc_succ (K:Int) (kids:List Raw) (j:Nat) (t:Raw) (h:kids[j]?=some t):Acc K kids (j+1)=Acc K kids j++(if keepT K (newT t)=true then [newT t] else []):=by
  obtain ⟨hlt,rfl⟩:=List.getElem?_eq_some_iff.1 h
  unfold Acc
  rw [List.take_succ_eq_append_getElem hlt,newTs_snoc,List.filter_append]
  congr 1
  by_cases hp:keepT K (newT kids[j])=true
  · rw [if_pos hp,List.filter_cons_of_pos hp];rfl
  · rw [if_neg hp,List.filter_cons_of_neg hp];rfl
theorem Acc_len (K:Int) (kids:List Raw) (j:Nat) (hj:j≤kids.length):(Acc K kids j).length≤j:=by
  unfold Acc
  refine Nat.le_trans (List.length_filter_le _ _) ?_
  have:∀ l:List Raw,(newTs l).length=l.length:=fun l=>by
    induction l with
    | nil=>rfl
    | cons t l ih=>unfold newTs;simp [ih]
  rw [this,List.length_take];omega
theorem newT_node (k d:Int) (n:Nat) (f:Nat→Nat) (kids:List Raw) (h1:¬ kindN k=1) (h2:¬ kindN k=2):newT (.mk k d n f kids)=nodeT (kindN k) (d % 4).toNat f (Acc (kindN k) kids kids.length):=by
  unfold newT Acc
  rw [if_neg h1,if_neg h2,List.take_length]
end
section
open Go.RowKit
structure PR (W:World) (p:Option Addr) (ps:List Pt):Prop where
  some_:0<ps.length→∃ a,p=some a
  at_:∀ a,p=some a→∀ i t,ps[i]?=some t→W.cell? (a.add (i*6))=some (.float .f64 t.x)∧W.cell? ⟨(a.add (i*6)).block,(a.add (i*6)).off+1,none⟩=some (.float .f64 t.y)∧W.cell? ⟨(a.add (i*6)).block,(a.add (i*6)).off+2,none⟩=some (.float .f64 t.z)∧W.cell? ⟨(a.add (i*6)).block,(a.add (i*6)).off+3,none⟩=some (.float .f64 t.m)∧W.cell? ⟨(a.add (i*6)).block,(a.add (i*6)).off+4,none⟩=some (.int .u8 t.r)∧W.cell? ⟨(a.add (i*6)).block,(a.add (i*6)).off+5,none⟩=some (.bool t.b)
theorem PR.mono {W W':World} {p:Option Addr} {ps:List Pt} (h:PR W p ps) (g:W.grownBy W' none):PR W' p ps :=
  ⟨h.some_,fun a ha i t hi=>by
    obtain ⟨h0,h1,h2,h3,h4,h5⟩:=h.at_ a ha i t hi
    exact ⟨g.cell h0 (by simp),g.cell h1 (by simp),g.cell h2 (by simp),g.cell h3 (by simp),g.cell h4 (by simp),g.cell h5 (by simp)⟩⟩
theorem MPCT_any (r n c:Nat) (p:Option Addr) (W:World):Calls Tryz.prog 147 #[.agg #[.slice p n c,.int .u8 r]] W fun e w'=>e=.returned (.int .u8 r)∧W.grownBy w' none:=by
  go_enter Tryz.func147,Tryz.ntmps147
  go_wp2_with fail
  go_ret
  exact ⟨rfl,World.grownBy_alloc _ _ _⟩
end
section
open Go.RowKit
theorem PtForce_any (x y z m r:Nat) (b:Bool) (r':Nat) (hr:r<4) (hr':r'<4) (W:World) :
    Calls Tryz.prog 213 #[.agg #[.float .f64 x,.float .f64 y,.float .f64 z,.float .f64 m,.int .u8 r,.bool b],.int .u8 r'] W fun e w'=>e=.returned (Pt.force ⟨x,y,z,m,r,b⟩ r').v∧W.grownBy w' none:=by
  cases b
  · have e:Pt.force ⟨x,y,z,m,r,false⟩ r'=ptE r':=by unfold Pt.force;rw [if_neg (by simp)]
    rw [e]
    exact PtForce_empty x y z m r r' W
  · exact PtForce_full x y z m r r' hr hr' W
theorem Pt.Ok.force {t:Pt} (h:t.Ok) (r':Nat) (hr':r'<4):(t.force r').Ok:=by
  obtain ⟨hx,hy,hz,hm,hr⟩:=h
  unfold Pt.force
  split
  · exact ⟨hx,hy,by show (if _ then _ else _)<_;split <;> omega,by show (if _ then _ else _)<_;split <;> omega,hr'⟩
  · exact ⟨Nat.zero_lt_succ _,Nat.zero_lt_succ _,Nat.zero_lt_succ _,Nat.zero_lt_succ _,hr'⟩
def set6 (xs:List Value) (J:Nat) (u0 u1 u2 u3 u4 u5:Value):List Value:=(((((xs.set J u0).set (J+1) u1).set (J+2) u2).set (J+3) u3).set (J+4) u4).set (J+5) u5
theorem set6_lt (xs:List Value) (J:Nat) (u0 u1 u2 u3 u4 u5:Value) (k:Nat) (hk:k<J):(set6 xs J u0 u1 u2 u3 u4 u5)[k]?=xs[k]?:=by
  unfold set6
  rw [List.getElem?_set_ne (by omega),List.getElem?_set_ne (by omega),List.getElem?_set_ne (by omega),List.getElem?_set_ne (by omega),List.getElem?_set_ne (by omega),List.getElem?_set_ne (by omega)]
theorem set6_at (xs:List Value) (J:Nat) (u0 u1 u2 u3 u4 u5:Value) (hl:J+6≤xs.length) (o:Nat) (u:Value) (h:[u0,u1,u2,u3,u4,u5][o]?=some u):(set6 xs J u0 u1 u2 u3 u4 u5)[J+o]?=some u:=by
  have ho:o<6:=(List.getElem?_eq_some_iff.1 h).1
  unfold set6
  rcases (by omega:o=0∨o=1∨o=2∨o=3∨o=4∨o=5) with rfl | rfl | rfl | rfl | rfl | rfl <;> (simp at h;subst h)
  · rw [List.getElem?_set_ne (by omega),List.getElem?_set_ne (by omega),List.getElem?_set_ne (by omega),List.getElem?_set_ne (by omega),List.getElem?_set_ne (by omega)]
    exact List.getElem?_set_self (by omega)
  · rw [List.getElem?_set_ne (by omega),List.getElem?_set_ne (by omega),List.getElem?_set_ne (by omega),List.getElem?_set_ne (by omega)]
    exact List.getElem?_set_self (by simp;omega)
  · rw [List.getElem?_set_ne (by omega),List.getElem?_set_ne (by omega),List.getElem?_set_ne (by omega)]
    exact List.getElem?_set_self (by simp;omega)
  · rw [List.getElem?_set_ne (by omega),List.getElem?_set_ne (by omega)]
    exact List.getElem?_set_self (by simp;omega)
  · rw [List.getElem?_set_ne (by omega)]
    exact List.getElem?_set_self (by simp;omega)
  · exact List.getElem?_set_self (by simp;omega)
theorem addr0 (g k:Nat):(⟨g,0,none⟩ : Addr).add k=⟨g,k,none⟩:=by unfold Addr.add;split <;> simp_all
def Wrt (ps:List Pt) (r' k:Nat) (xs:List Value):Prop:=∀ l t,l<k→ps[l]?=some t→∀ o u,(t.force r').cs[o]?=some u→xs[l*6+o]?=some u
theorem Wrt.next {ps:List Pt} {r' k:Nat} {xs:List Value} (h:Wrt ps r' k xs) (q:Pt) {t:Pt} (ht:ps[k]?=some t) (hq:t.force r'=q) (hl:k*6+6≤xs.length):Wrt ps r' (k+1) (set6 xs (k*6) (.float .f64 q.x) (.float .f64 q.y) (.float .f64 q.z) (.float .f64 q.m) (.int .u8 q.r) (.bool q.b)):=by
  intro l s hlk hs o u hu
  have ho:o<6:=(List.getElem?_eq_some_iff.1 hu).1
  by_cases hl':l<k
  · rw [set6_lt _ _ _ _ _ _ _ _ _ (by omega)]
    exact h l s hl' hs o u hu
  · obtain rfl:l=k:=by omega
    rw [ht] at hs
    injection hs with hs
    subst hs
    rw [hq] at hu
    exact set6_at _ _ _ _ _ _ _ _ hl o u hu
theorem Wrt.row {ps:List Pt} {r' n g cap base:Nat} {e:TypeId} {xs:List Value} {w:World} (h:Wrt ps r' n xs) (hn:ps.length=n) (ho:w.ownsRow base e 6 (.slice (some ⟨g,0,none⟩) n cap) n xs):PR w (some ⟨g,0,none⟩) (ps.map fun t=>t.force r'):=by
  refine ⟨fun _=>⟨_,rfl⟩,fun a ha i t hi=>?_⟩
  injection ha with ha
  subst ha
  rw [List.getElem?_map] at hi
  obtain ⟨s,hs,rfl⟩:=Option.map_eq_some_iff.1 hi
  have hin:i<n:=by have:=(List.getElem?_eq_some_iff.1 hs).1;omega
  have key:∀ o u,(s.force r').cs[o]?=some u→w.cell? ⟨g,i*6+o,none⟩=some u:=fun o u hu=>by
    have ho6:o<6:=(List.getElem?_eq_some_iff.1 hu).1
    rw [ho.cellAt _ (by omega)]
    exact h i s hin hs o u hu
  rw [addr0]
  exact ⟨key 0 _ rfl,key 1 _ rfl,key 2 _ rfl,key 3 _ rfl,key 4 _ rfl,key 5 _ rfl⟩
theorem infoPt:(Tryz.prog.info? 87).map (fun i=>(i.zero,i.size,i.bytes))=some (some (.agg #[.float .f64 0,.float .f64 0,.float .f64 0,.float .f64 0,.int .u8 0,.bool false]),6,48):=by kernel_rfl
theorem forceSlice_any (r':Nat) (hr':r'<4) (p:Option Addr) (ps:List Pt) (n c:Nat) (hpn:ps.length=n) (hn:n≤2513169434843) (hok:∀ t ∈ ps,t.Ok) (W:World) (hp:PR W p ps) :
    Calls Tryz.prog 169 #[.slice p n c,.int .u8 r'] W fun e w'=>∃ a,e=.returned (.slice (some a) n n)∧PR w' (some a) (ps.map fun t=>t.force r')∧W.heap.size≤a.block∧W.grownBy w' none:=by
  obtain ⟨i0,hi,hzz⟩:=Option.map_eq_some_iff.1 infoPt
  simp only [Prod.mk.injEq] at hzz
  have HI:=Lib.hid hzz
  have HPR:=Lib.hid (fun w (g:W.grownBy w none)=>hp.mono g)
  have HGt:Hid (∀ i,i<n→∃ t,ps[i]?=some t):=fun i hi=>⟨ps[i]'(by omega),List.getElem?_eq_getElem (by omega)⟩
  have HF:=Lib.hid (fun (i:Nat) (t:Pt) (hi:ps[i]?=some t) w=>(PtForce_any t.x t.y t.z t.m t.r t.b r' (hok t (List.mem_of_getElem? hi)).r hr' w))
  have hfin:Hid (∀ (w:World) xs,W.grownBy w none→Wrt ps r' n xs→w.ownsRow W.heap.size 87 6 (.slice (some ⟨W.heap.size,0,none⟩) n n) n xs→PR w (some ⟨W.heap.size,0,none⟩) (ps.map fun t=>t.force r')):=fun w xs g h ho=>h.row hpn ho
  have HN:Hid (∀ k xs t q,Wrt ps r' k xs→ps[k]?=some t→t.force r'=q→k*6+6≤xs.length→Wrt ps r' (k+1) (set6 xs (k*6) (.float .f64 q.x) (.float .f64 q.y) (.float .f64 q.z) (.float .f64 q.m) (.int .u8 q.r) (.bool q.b))):=fun k xs t q h h1 h2 h3=>h.next q h1 h2 h3
  have hgs:∀ (w:World) (b jj:Nat) (y:Value),W.heap.size≤b→W.grownBy w none→W.grownBy (w.setCell ⟨b,jj,none⟩ y) none:=fun w b jj y hb g=>gt_set_r g _ _ hb
  have HGs:=Lib.hid hgs
  have hsf:=run_store_flt Tryz.prog
  clear hp hzz hgs hok
  go_enter Tryz.func169,Tryz.ntmps169
  go_wp2_with (first
    | (at_make;refine wpList_make_full _ rfl _ _ _ rfl W.heap.size 87 i0 (.agg #[.float .f64 0,.float .f64 0,.float .f64 0,.float .f64 0,.int .u8 0,.bool false]) 6 Tryz.underlying99 hi HI.out.1 HI.out.2.1 .i64 .i64 _ _ n rfl rfl rfl rfl (by rw [HI.out.2.2];omega) (by unfold maxLen;omega) (by simp) ?_;intro w1 hown hg1))
  obtain ⟨xs0,hxs0⟩ : ∃ xs0,xs0=(madeCells (Value.cells (.agg #[.float .f64 0,.float .f64 0,.float .f64 0,.float .f64 0,.int .u8 0,.bool false])) (n*6)).toList:=⟨_,rfl⟩
  rw [←hxs0] at hown
  clear hxs0
  go_loopw [13] (fun i wr=>∃ (k:Nat) (xs:List Value),k≤n∧i=.int .i64 k∧W.grownBy wr none∧wr.ownsRow W.heap.size 87 6 (.slice (some ⟨W.heap.size,0,none⟩) n n) n xs∧Wrt ps r' k xs) (fun i _=>n - (intOf i).toNat)
  case atStart=>exact ⟨0,xs0,by omega,rfl,hg1,hown,fun l t h=>absurd h (by omega)⟩
  case round =>
    clear hown
    obtain ⟨k,xs,hk,rfl,Gr,ho,hw⟩:=hrel
    rename World=>wr
    by_cases hkL:k<n
    · obtain ⟨t,hti⟩:=HGt.out k hkL
      obtain ⟨a,rfl⟩:=(HPR.out _ Gr).some_ (by omega)
      obtain ⟨q0,q1,q2,q3,q4,q5⟩:=(HPR.out _ Gr).at_ a rfl k t hti
      have HF1:=HF.out k t hti
      have hxl:xs.length=n*6:=ho.1
      have HW1:=HN.out k xs t (t.force r') hw hti rfl (by omega)
      have HO:=Lib.hid (fun w (g:wr.grownBy w none)=>ho.kept g (.inr (by simp [Value.ownBlock])))
      have hlt:=ho.lt W.heap.size rfl
      obtain ⟨tx,ty,tz,tm,tr,tb⟩:=t
      revert HF1 HW1
      generalize Pt.force ⟨tx,ty,tz,tm,tr,tb⟩ r'=q
      obtain ⟨qx,qy,qz,qm,qr,qb⟩:=q
      intro HF1 HW1
      have HF2:Hid (∀ w,Calls Tryz.prog 213 #[.agg #[.float .f64 tx,.float .f64 ty,.float .f64 tz,.float .f64 tm,.int .u8 tr,.bool tb],.int .u8 r'] w fun e w'=>e=.returned (.agg #[.float .f64 qx,.float .f64 qy,.float .f64 qz,.float .f64 qm,.int .u8 qr,.bool qb])∧w.grownBy w' none):=HF1
      have HW2:=Lib.hid HW1
      clear HF1 HW1 hti hw ho
      have HC:Hid (∀ w:World,w.ownsRow W.heap.size 87 6 (.slice (some ⟨W.heap.size,0,none⟩) n n) n xs→(∃ v,w.cell? ⟨W.heap.size,k*6,none⟩=some v)∧(∃ v,w.cell? ⟨W.heap.size,k*6+1,none⟩=some v)∧(∃ v,w.cell? ⟨W.heap.size,k*6+2,none⟩=some v)∧(∃ v,w.cell? ⟨W.heap.size,k*6+3,none⟩=some v)∧(∃ v,w.cell? ⟨W.heap.size,k*6+4,none⟩=some v)∧(∃ v,w.cell? ⟨W.heap.size,k*6+5,none⟩=some v)∧∀ j,w.frozen? ⟨W.heap.size,j,none⟩=false):=fun w ho=>by
        have key:∀ o,o<6→∃ v,w.cell? ⟨W.heap.size,k*6+o,none⟩=some v:=fun o h6=>by
          rw [ho.cellAt _ (by omega)]
          exact ⟨_,List.getElem?_eq_getElem (by omega)⟩
        exact ⟨key 0 (by omega),key 1 (by omega),key 2 (by omega),key 3 (by omega),key 4 (by omega),key 5 (by omega),fun j=>ho.frozenAt j⟩
      clear hxl
      have HG5:=Lib.hid (World.grownBy_alloc wr (.cells #[.float .f64 tx,.float .f64 ty,.float .f64 tz,.float .f64 tm,.int .u8 tr,.bool tb] 87) none)
      go_wp2_with (first
        | (go_at_call 213;refine (HF2.out _).mono ?_;rintro e w2 ⟨rfl,hg2⟩;have ho2:=HO.out w2 (gt_trans HG5.out hg2 (.inl rfl));have HO2:=Lib.hid ho2;obtain ⟨⟨v0,x0⟩,⟨v1,x1⟩,⟨v2,x2⟩,⟨v3,x3⟩,⟨v4,x4⟩,⟨v5,x5⟩,xf⟩:=HC.out _ ho2;clear ho2;have f0:=xf (k*6);have f1:=xf (k*6+1);have f2:=xf (k*6+2);have f3:=xf (k*6+3);have f4:=xf (k*6+4);have f5:=xf (k*6+5)))
      refine ⟨⟨k+1,_,by omega,by go_num,?_,((((((HO2.out.stored (k*6) (.float .f64 qx)).1.stored (k*6+1) (.float .f64 qy)).1.stored (k*6+2) (.float .f64 qz)).1.stored (k*6+3) (.float .f64 qm)).1.stored (k*6+4) (.int .u8 qr)).1.stored (k*6+5) (.bool qb)).1,HW2.out⟩,by simp [intOf];omega⟩
      have GW:=gt_trans (gt_trans Gr HG5.out (.inl rfl)) hg2 (.inl rfl)
      exact HGs.out _ _ _ _ (Nat.le_refl _) (HGs.out _ _ _ _ (Nat.le_refl _) (HGs.out _ _ _ _ (Nat.le_refl _) (HGs.out _ _ _ _ (Nat.le_refl _) (HGs.out _ _ _ _ (Nat.le_refl _) (HGs.out _ _ _ _ (Nat.le_refl _) GW)))))
    · obtain rfl:k=n:=by omega
      go_wp2_with fail
      go_wp2_with fail
      go_ret
      exact ⟨_,rfl,hfin.out _ _ Gr hw ho,Nat.le_refl _,Gr⟩
def dimsP:List Pt→Nat
  | []=>3
  | t::ts=>t.r &&& dimsP ts
theorem dimsP_lt:∀ ks:List Pt,dimsP ks<4
  | []=>by decide
  | t::ts=>by
    unfold dimsP
    exact Nat.lt_of_le_of_lt Nat.and_le_right (dimsP_lt ts)
theorem dimsP_snoc:∀ (ts:List Pt) (t:Pt),dimsP (ts++[t])=dimsP ts &&& t.r
  | [],t=>by simp [dimsP,Nat.and_comm]
  | s::ts,t=>by simp only [List.cons_append,dimsP,dimsP_snoc ts t,Nat.and_assoc]
theorem dimsP_take (ps:List Pt) (k:Nat) (t:Pt) (h:ps[k]?=some t):dimsP (ps.take (k+1))=dimsP (ps.take k) &&& t.r:=by
  obtain ⟨hlt,rfl⟩:=List.getElem?_eq_some_iff.1 h
  rw [List.take_succ_eq_append_getElem hlt,dimsP_snoc]
theorem and_u8 (a b:Nat) (ha:a<4) (hb:b<4):bits .and .u8 (a:Int) (b:Int)=((a &&& b:Nat):Int):=by
  rcases (by omega:a=0∨a=1∨a=2∨a=3) with rfl | rfl | rfl | rfl <;> rcases (by omega:b=0∨b=1∨b=2∨b=3) with rfl | rfl | rfl | rfl <;> kernel_rfl
def MPIs (W:World) (v:Value) (r:Nat) (ps:List Pt):Prop:=r<4∧(∀ t ∈ ps,t.Ok)∧∃ p c,v=.agg #[.slice p ps.length c,.int .u8 r]∧PR W p ps
theorem MPIs.mono {W W':World} {v:Value} {r:Nat} {ps:List Pt} (h:MPIs W v r ps) (g:W.grownBy W' none):MPIs W' v r ps:=by
  obtain ⟨h1,h2,p,c,h3,h4⟩:=h
  exact ⟨h1,h2,p,c,h3,h4.mono g⟩
theorem PR.set {W:World} {p:Option Addr} {ps:List Pt} (h:PR W p ps) {q:Addr} (hq:∀ a,p=some a→a.block≠q.block) (y:Value):PR (W.setCell q y) p ps:=by
  refine ⟨h.some_,fun a ha i t hi=>?_⟩
  have key:∀ (x:Addr) (v:Value),x.block=a.block→W.cell? x=some v→(W.setCell q y).cell? x=some v:=fun x v hx hv=>by
    rw [World.cell?_setCell_other (h:=fun e=>by subst e;exact hq a ha hx.symm)]
    exact hv
  obtain ⟨h0,h1,h2,h3,h4,h5⟩:=h.at_ a ha i t hi
  have hb:(a.add (i*6)).block=a.block:=add_block _ _
  exact ⟨key _ _ hb h0,key _ _ hb h1,key _ _ hb h2,key _ _ hb h3,key _ _ hb h4,key _ _ hb h5⟩
theorem mem_force {ps:List Pt} (hok:∀ t ∈ ps,t.Ok) (r':Nat) (hr':r'<4):∀ t ∈ ps.map (fun t=>t.force r'),t.Ok:=by
  intro t ht
  obtain ⟨s,hs,rfl⟩:=List.mem_map.1 ht
  exact (hok s hs).force r' hr'
theorem NewMultiPoint_any (p:Option Addr) (ps:List Pt) (n c:Nat) (hpn:ps.length=n) (hn0:0<n) (hn:n≤2513169434843) (hok:∀ t ∈ ps,t.Ok) (W:World) (hp:PR W p ps) (hpb:∀ a,p=some a→a.block<W.heap.size) :
    Calls Tryz.prog 111 #[.slice p n c] W fun e w'=>∃ v,e=.returned v∧MPIs w' v (dimsP ps) (ps.map fun t=>t.force (dimsP ps))∧(∀ pp k cc x,v=.agg #[.slice pp k cc,x]→∀ a,pp=some a→W.heap.size≤a.block)∧W.grownBy w' none:=by
  have HOK:=Lib.hid hok
  have HPR:=Lib.hid (fun w (g:W.grownBy w none)=>hp.mono g)
  have HGt:Hid (∀ i,i<n→∃ t,ps[i]?=some t):=fun i hi=>⟨ps[i]'(by omega),List.getElem?_eq_getElem (by omega)⟩
  have HDT:=Lib.hid (fun k t (h:ps[k]?=some t)=>dimsP_take ps k t h)
  have HDL:=Lib.hid (fun k=>dimsP_lt (ps.take k))
  have HDE:Hid (dimsP (ps.take n)=dimsP ps):=by rw [←hpn,List.take_length];rfl
  have HRL:Hid (∀ k (t:Pt),ps[k]?=some t→t.r<4):=fun k t h=>(hok t (List.mem_of_getElem? h)).r
  have HFS:=Lib.hid (fun w (g:W.grownBy w none)=>forceSlice_any (dimsP ps) (dimsP_lt ps) p ps n c hpn hn hok w (hp.mono g))
  have hb:((n:Int)==0)=false:=by rw [beq_eq_false_iff_ne];omega
  have HG:=Lib.hid (World.grownBy_alloc W (.cells #[.slice none 0 0,.int .u8 0] 101) none)
  have HC:Hid (∀ w,(W.alloc (.cells #[.slice none 0 0,.int .u8 0] 101)).grownBy w none→w.cell? ⟨W.heap.size,0,none⟩=some (.slice none 0 0)∧w.cell? ⟨W.heap.size,1,none⟩=some (.int .u8 0)∧w.frozen? ⟨W.heap.size,0,none⟩=false∧w.frozen? ⟨W.heap.size,1,none⟩=false):=fun w g=>by
    have hb:=g.block W.heap.size (by simp) (by simp)
    refine ⟨g.cell (by simp) (by simp),g.cell (by simp) (by simp),?_,?_⟩ <;> (rw [World.frozen?_of_block hb];simp)
  have hfin:Hid (∀ (w1 w2:World) (a:Addr),W.grownBy w1 none→w1.heap.size≤a.block→W.heap.size<w1.heap.size→PR w2 (some a) (ps.map fun t=>t.force (dimsP ps))→W.grownBy w2 none→MPIs ((w2.setCell ⟨W.heap.size,0,none⟩ (.slice (some a) n n)).setCell ⟨W.heap.size,1,none⟩ (.int .u8 (dimsP ps))) (.agg #[.slice (some a) n n,.int .u8 (dimsP ps)]) (dimsP ps) (ps.map fun t=>t.force (dimsP ps))∧W.grownBy ((w2.setCell ⟨W.heap.size,0,none⟩ (.slice (some a) n n)).setCell ⟨W.heap.size,1,none⟩ (.int .u8 (dimsP ps))) none):=fun w1 w2 a g1 h1 h2 h3 g2=>by
    have hab:∀ a',some a=some a'→a'.block≠W.heap.size:=fun a' e=>by injection e with e;subst e;omega
    exact ⟨⟨dimsP_lt ps,mem_force hok _ (dimsP_lt ps),some a,n,by rw [List.length_map,hpn],(h3.set hab _).set hab _⟩,gt_set_r (gt_set_r g2 _ _ (Nat.le_refl _)) _ _ (Nat.le_refl _)⟩
  have hD0:dimsP (ps.take 0)=3:=rfl
  obtain ⟨D,hD⟩ : ∃ D:Nat→Nat,D=fun k=>dimsP (ps.take k):=⟨_,rfl⟩
  have hD':∀ k,dimsP (ps.take k)=D k:=fun k=>by rw [hD]
  simp only [hD'] at HDT HDL HDE hD0
  clear hp hok hD hD'
  go_enter Tryz.func111,Tryz.ntmps111
  go_wp2_with fail
  go_loopw [3,13] (fun x i wr=>∃ k:Nat,k≤n∧i=.int .i64 k∧x=.int .u8 ((D k:Nat):Int)∧(W.alloc (.cells #[.slice none 0 0,.int .u8 0] 101)).grownBy wr none) (fun _ i _=>n - (intOf i).toNat)
  case atStart=>exact ⟨0,by omega,rfl,by rw [hD0];rfl,gt_refl _ _⟩
  case round =>
    obtain ⟨k,hk,rfl,rfl,Gr⟩:=hrel
    rename World=>wr
    have Gw:=gt_trans HG.out Gr (.inl rfl)
    by_cases hkL:k<n
    · obtain ⟨t,hti⟩:=HGt.out k hkL
      obtain ⟨a,rfl⟩:=(HPR.out _ Gw).some_ (by omega)
      obtain ⟨q0,q1,q2,q3,q4,q5⟩:=(HPR.out _ Gw).at_ a rfl k t hti
      have HD1:=Lib.hid (HDT.out k t hti)
      have hand:=and_u8 (D k) t.r (HDL.out k) (HRL.out k t hti)
      clear hti
      obtain ⟨tx,ty,tz,tm,tr,tb⟩:=t
      have hsf:=run_store_flt Tryz.prog
      go_wp2_with (first
        | (go_at_call 140;refine (PtCT_any _ _ _ _ _ _ _).mono ?_;rintro e w2 ⟨rfl,hg2⟩))
      exact ⟨⟨k+1,by omega,by go_num,by rw [HD1.out],gt_trans (gt_alloc_r Gr _) hg2 (.inl rfl)⟩,by simp [intOf];omega⟩
    · obtain rfl:k=n:=by omega
      have hDe:=HDE.out
      rw [hDe]
      go_wp2_with fail
      go_wp2_with (first
        | (go_at_call 169;refine (HFS.out _ Gw).mono ?_;rintro e w2 ⟨a,rfl,hpr,hab,hg2⟩;obtain ⟨x0,x1,f0,f1⟩:=HC.out _ (gt_trans Gr hg2 (.inl rfl))))
      refine bodyPost_ret (by simp [results,Tryz.results111,go_sem,x0,x1];try rfl) rfl ?_
      have hs:=Gr.size
      simp at hs
      have hF:=hfin.out _ _ _ Gw hab (by omega) hpr (gt_trans Gw hg2 (.inl rfl))
      exact ⟨_,rfl,hF.1,fun pp k cc x e a' ha=>by simp at e;obtain ⟨⟨rfl,_⟩,_⟩:=e;injection ha with ha;subst ha;exact Nat.le_trans Gw.size hab,hF.2⟩
end
section
open Go.RowKit
theorem MPForce_nil (r:Nat) (hr:r<4) (W:World) :
    Calls Tryz.prog 110 #[.agg #[.slice none 0 0,.int .u8 0],.int .u8 r] W fun e w'=>∃ v,e=.returned v∧MPIs w' v r []∧W.grownBy w' none:=by
  have HG:=Lib.hid (gt_alloc_r (World.grownBy_alloc W (.cells #[.slice none 0 0,.int .u8 0] 101) none) (.cells #[.slice none 0 0,.int .u8 0] 101))
  have HF:=Lib.hid (fun w=>forceSlice_any r hr none [] 0 0 rfl (by omega) (fun t h=>by simp at h) w ⟨fun h=>absurd h (by simp),(fun a h=>by cases h)⟩)
  have HC:Hid (∀ w,((W.alloc (.cells #[.slice none 0 0,.int .u8 0] 101)).alloc (.cells #[.slice none 0 0,.int .u8 0] 101)).grownBy w none→w.cell? ⟨W.heap.size+1,0,none⟩=some (.slice none 0 0)∧w.cell? ⟨W.heap.size+1,1,none⟩=some (.int .u8 0)∧w.frozen? ⟨W.heap.size+1,0,none⟩=false∧w.frozen? ⟨W.heap.size+1,1,none⟩=false):=fun w g=>by
    have hb:=g.block (W.heap.size+1) (by simp) (by simp)
    refine ⟨g.cell (by simp) (by simp),g.cell (by simp) (by simp),?_,?_⟩ <;> (rw [World.frozen?_of_block hb];simp)
  go_enter Tryz.func110,Tryz.ntmps110
  go_wp2_with (first
    | (go_at_call 169;refine (HF.out _).mono ?_;rintro e w2 ⟨a,rfl,hpr,hab,hg2⟩;obtain ⟨x0,x1,f0,f1⟩:=HC.out _ hg2))
  refine bodyPost_ret (by simp [results,Tryz.results110,go_sem,x0,x1];try rfl) rfl ?_
  refine ⟨_,rfl,⟨hr,(fun t h=>by simp at h),some a,0,rfl,⟨fun h=>absurd h (by simp),fun a' _ i t h=>by simp at h⟩⟩,gt_set_r (gt_set_r (gt_trans HG.out hg2 (.inl rfl)) _ _ (Nat.le_succ _)) _ _ (Nat.le_succ _)⟩
def flatP (ps:List Pt):List Value:=ps.flatMap Pt.cs
theorem flatP_snoc (ps:List Pt) (t:Pt):flatP (ps++[t])=flatP ps++t.cs:=by simp [flatP]
theorem flatP_at:∀ (ps:List Pt) (i:Nat) (t:Pt),ps[i]?=some t→∀ o u,t.cs[o]?=some u→(flatP ps)[i*6+o]?=some u
  | [],i,t,h,_,_,_=>by simp at h
  | s::ps,0,t,h,o,u,hu=>by
    simp at h
    subst h
    have ho:o<6:=(List.getElem?_eq_some_iff.1 hu).1
    show (s.cs++flatP ps)[0*6+o]?=some u
    rw [List.getElem?_append_left (by show 0*6+o<6;omega),Nat.zero_mul,Nat.zero_add]
    exact hu
  | s::ps,i+1,t,h,o,u,hu=>by
    show (s.cs++flatP ps)[(i+1)*6+o]?=some u
    rw [List.getElem?_append_right (by show 6≤_;omega)]
    have e:(i+1)*6+o - s.cs.length=i*6+o:=by show (i+1)*6+o - 6=_;omega
    rw [e]
    exact flatP_at ps i t (by simpa using h) o u hu
theorem PR.of_own {w:World} {base n c:Nat} {e:TypeId} {p:Option Addr} {ps:List Pt} (hn:ps.length=n) (h:w.ownsRow base e 6 (.slice p n c) n (flatP ps)):PR w p ps:=by
  refine ⟨fun hpos=>?_,fun a ha i t hi=>?_⟩
  · rcases h.2 with ⟨_,h0⟩ | ⟨g,cap,cur,hv,_⟩
    · omega
    · injection hv with hv
      exact ⟨_,hv⟩
  · subst ha
    have hin:i<n:=by have:=(List.getElem?_eq_some_iff.1 hi).1;omega
    rcases h.2 with ⟨hv,h0⟩ | ⟨g,cap,cur,hv,_⟩
    · omega
    · injection hv with hv
      injection hv with hv
      subst hv
      have key:∀ o u,t.cs[o]?=some u→w.cell? ⟨g,i*6+o,none⟩=some u:=fun o u hu=>by
        have ho6:o<6:=(List.getElem?_eq_some_iff.1 hu).1
        rw [h.cellAt _ (by omega)]
        exact flatP_at ps i t hi o u hu
      rw [addr0]
      exact ⟨key 0 _ rfl,key 1 _ rfl,key 2 _ rfl,key 3 _ rfl,key 4 _ rfl,key 5 _ rfl⟩
def ptR:Raw→Pt
  | .mk _ d n f _=>ptOf (d % 4).toNat n f
def ptsOf (kids:List Raw):List Pt:=(kids.filter fun t=>decide (kindOf t=1)).map ptR
theorem ptsOf_take (kids:List Raw) (j:Nat) (t:Raw) (h:kids[j]?=some t):ptsOf (kids.take (j+1))=ptsOf (kids.take j)++(if kindOf t=1 then [ptR t] else []):=by
  obtain ⟨hlt,rfl⟩:=List.getElem?_eq_some_iff.1 h
  unfold ptsOf
  rw [List.take_succ_eq_append_getElem hlt,List.filter_append,List.map_append]
  congr 1
  by_cases hp:kindOf kids[j]=1
  · rw [if_pos hp,List.filter_cons_of_pos (by simpa using hp)];rfl
  · rw [if_neg hp,List.filter_cons_of_neg (by simpa using hp)];rfl
theorem ptsOf_len (kids:List Raw):(ptsOf kids).length≤kids.length:=by
  unfold ptsOf
  rw [List.length_map]
  exact List.length_filter_le _ _
def mpR (r:Nat) (ps:List Pt):Nat:=if ps=[] then r else dimsP ps
theorem ptOf_ok (r n:Nat) (f:Nat→Nat) (hr:r<4) (hf:∀ i,f i<18446744073709551616):(ptOf r n f).Ok:=by
  unfold ptOf
  split
  · exact ⟨Nat.zero_lt_succ _,Nat.zero_lt_succ _,Nat.zero_lt_succ _,Nat.zero_lt_succ _,hr⟩
  · refine ⟨hf _,hf _,?_,?_,hr⟩
    · show plZ r f 0<_
      unfold plZ
      split
      · exact hf _
      · exact Nat.zero_lt_succ _
    · show plM r f 0<_
      unfold plM
      split
      · exact hf _
      · exact Nat.zero_lt_succ _
end
section
open Go.RowKit
theorem kindOf_new (t:Raw):kindOf (newT t)=kindN (kindOf t):=by
  obtain ⟨k,d,n,f,kids⟩:=t
  unfold newT
  split
  · next h=>exact h.symm
  · split
    · next h=>exact h.symm
    · unfold nodeT
      split
      · rfl
      · rfl
theorem keep4 (t:Raw):keepT 4 (newT t)=decide (kindOf t=1):=by
  unfold keepT
  rw [kindOf_new]
  have e:kidOf 4=1:=by unfold kidOf;rw [if_pos rfl]
  rw [e]
  have e2:decide ((1:Int)<0)=false:=by decide
  rw [e2,Bool.false_or]
  apply decide_eq_decide.2
  unfold kindN
  split
  · omega
  · omega
theorem kept4:∀ kids:List Raw,(newTs kids).filter (keepT 4)=(kids.filter fun t=>decide (kindOf t=1)).map newT
  | []=>rfl
  | t::ts=>by
    have h:=kept4 ts
    have hk:=keep4 t
    unfold newTs
    by_cases hp:kindOf t=1
    · rw [List.filter_cons_of_pos (by rw [hk];simpa using hp),List.filter_cons_of_pos (by simpa using hp),h];rfl
    · rw [List.filter_cons_of_neg (by rw [hk];simpa using hp),List.filter_cons_of_neg (by simpa using hp),h]
theorem ptOf_r (r n:Nat) (f:Nat→Nat):(ptOf r n f).r=r:=by unfold ptOf;split <;> rfl
theorem new1 (d:Int) (n:Nat) (f:Nat→Nat) (kids:List Raw):newT (.mk 1 d n f kids)=.mk 1 (d % 4) (min (n / widN (d % 4).toNat) 1*widN (d % 4).toNat) f []:=by
  unfold newT
  rw [if_pos (by decide)]
theorem dims4:∀ ts:List Raw,(∀ t ∈ ts,kindOf t=1)→dimsOf (ts.map newT)=dimsP (ts.map ptR)
  | [],_=>rfl
  | t::ts,h=>by
    have h1:=dims4 ts (fun s hs=>h s (List.mem_cons_of_mem _ hs))
    have hk:=h t List.mem_cons_self
    obtain ⟨k,d,n,f,kids⟩:=t
    have hk:k=1:=hk
    subst hk
    show dimR (newT _) &&& dimsOf (ts.map newT)=(ptR _).r &&& dimsP (ts.map ptR)
    rw [h1,new1]
    show (d % 4).toNat &&& _=(ptOf _ _ _).r &&& _
    rw [ptOf_r]
theorem fF_place (r D:Nat) (hr:r<4) (hD:D<4) (f:Nat→Nat):plX D (fF r D f) 0=plX r f 0∧plY D (fF r D f) 0=plY r f 0∧plZ D (fF r D f) 0=(if r % 2=D % 2 then plZ r f 0 else 0)∧plM D (fF r D f) 0=(if r / 2=D / 2 then plM r f 0 else 0):=by
  rcases (by omega:r=0∨r=1∨r=2∨r=3) with rfl | rfl | rfl | rfl <;> rcases (by omega:D=0∨D=1∨D=2∨D=3) with rfl | rfl | rfl | rfl <;> simp [plX,plY,plZ,plM,fF,widN]
end
end Go.Proofs.YtlpaecafpbbbkaaGreatDoor
