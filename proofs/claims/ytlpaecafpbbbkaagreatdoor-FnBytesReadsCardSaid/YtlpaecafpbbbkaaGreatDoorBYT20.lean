/- The package's reader of well known binary: plain laws on parts that are read one by one. The package's reader of well known binary: a reader within the reader. The package's reader of well known binary: a geometry, whatever the bytes. -/
import Derived.Test.YtlpaecafpbbbkaaGreatDoorBYT11
import Derived.Test.YtlpaecafpbbbkaaGreatDoorBYT12
import Derived.Test.YtlpaecafpbbbkaaGreatDoorBYT19
set_option linter.unusedVariables false
set_option linter.unusedSimpArgs false
set_option maxRecDepth 100000
set_option maxHeartbeats 24000000
namespace Go.Proofs.YtlpaecafpbbbkaaGreatDoor
section
open Go.RowKit
section
variable {D:(Nat→Prop)→World→Value→Raw→Prop} {e:TypeId} {base:Nat}
theorem RowS.keptR (K:DK D) {W W':World} {x:Value} {n pb:Nat} {s:Nat→Option Raw} {cs:List Value} (k:RowS D e base (fun _=>False) W x n s cs) (g:W.grownBy W' (some pb)) (hp:pb<base):RowS D e base (fun _=>False) W' x n s cs:=by
  have hlt:=k.1.lt
  refine ⟨k.1.kept g ?_,fun i t hi=>?_⟩
  · cases hx:x.ownBlock with
    | none=>exact .inl rfl
    | some b=>exact .inr fun e=>by injection e with e;have:=(hlt b hx).1;omega
  · obtain ⟨c0,c1,h0,h1,hk⟩:=k.2 i t hi
    refine ⟨c0,c1,h0,h1,K.weak (fun b hb=>⟨.inr ⟨(hb.1.resolve_left id).1,Nat.lt_of_lt_of_le (hb.1.resolve_left id).2 g.size⟩,hb.2⟩) (K.keep (fun a y hB hc=>g.cell hc (fun e=>?_)) hk)⟩
    injection e with e
    have:=(hB.1.resolve_left id).1
    omega
end
theorem newTs_append:∀ (a b:List Raw),newTs (a++b)=newTs a++newTs b
  | [],b=>by simp [newTs]
  | t::a,b=>by simp only [List.cons_append,newTs,newTs_append a b]
theorem rdL_split (F:List UInt8→Rd Raw) (m:Nat) (l:List UInt8):rdL F (m+1) l=(F l).bind fun t l1=>(rdL F m l1).bind fun ts l2=>.ok (t::ts) l2:=rfl
theorem rdLine_le {d:Nat} {big:Bool} {l l1:List UInt8} {t:Raw} (h:rdLine d big l=.ok t l1):l1.length≤l.length:=by
  have:=rdLine_wt h;omega
theorem rdG_le {any:Bool} {h:Nat} {k:Int} {l l1:List UInt8} {t:Raw} (e:rdG any h k l=.ok t l1):l1.length≤l.length:=by
  have:=rdG_wt any h k l t l1 e;omega
structure Rest (F:List UInt8→Rd Raw) (n:Nat) (l0:List UInt8) (k:Nat) (lk:List UInt8) (ts:List Raw):Prop where
  len:ts.length=k
  eq:rdL F n l0=(rdL F (n - k) lk).bind fun us l'=>.ok (ts++us) l'
  le:lk.length≤l0.length
  rd:rdL F k l0=.ok ts lk
theorem rdL_snoc {F:List UInt8→Rd Raw} {t:Raw} {l1:List UInt8} : ∀ {k:Nat} {l0 lk:List UInt8} {ts:List Raw},rdL F k l0=.ok ts lk→F lk=.ok t l1→rdL F (k+1) l0=.ok (ts++[t]) l1
  | 0,l0,lk,ts,h,hF=>by
    injection h with h1 h2
    subst h1 h2
    rw [rdL_split,hF];rfl
  | k+1,l0,lk,ts,h,hF=>by
    obtain ⟨s,l2,h1,h2⟩:=Rd.bind_ok h
    obtain ⟨us,l3,h3,h4⟩:=Rd.bind_ok h2
    injection h4 with h5 h6
    subst h5 h6
    rw [rdL_split,h1,Rd.ok_bind,rdL_snoc h3 hF];rfl
theorem Rest.start (F:List UInt8→Rd Raw) (n:Nat) (l0:List UInt8):Rest F n l0 0 l0 []:=by
  refine ⟨rfl,?_,Nat.le_refl _,rfl⟩
  show _=Rd.bind (rdL F n l0) _
  cases rdL F n l0 <;> rfl
theorem Rest.nextE {F:List UInt8→Rd Raw} {n k:Nat} {l0 lk l1:List UInt8} {ts:List Raw} {t:Raw} (h:Rest F n l0 k lk ts) (hk:k<n) (hF:F lk=.ok t l1):rdL F n l0=(rdL F (n - (k+1)) l1).bind fun us l'=>.ok (ts++[t]++us) l':=by
  rw [h.eq,show n - k=(n - (k+1))+1 by omega,rdL_split,hF,Rd.ok_bind]
  cases rdL F (n - (k+1)) l1 with
  | bad g=>rfl
  | ok us l' =>
    show Rd.ok (ts++(t::us)) l'=Rd.ok (ts++[t]++us) l'
    rw [List.append_assoc];rfl
theorem Rest.next {F:List UInt8→Rd Raw} {n k:Nat} {l0 lk l1:List UInt8} {ts:List Raw} {t:Raw} (h:Rest F n l0 k lk ts) (hk:k<n) (hF:F lk=.ok t l1) (hle:l1.length≤lk.length:=by first | exact rdLine_le ‹_› | exact rdG_le ‹_›):Rest F n l0 (k+1) l1 (ts++[t]) :=
  ⟨by rw [List.length_append,h.len];rfl,h.nextE hk hF,Nat.le_trans hle h.le,rdL_snoc h.rd hF⟩
theorem Rest.bad {F:List UInt8→Rd Raw} {n k:Nat} {l0 lk:List UInt8} {ts:List Raw} {g:Bool} (h:Rest F n l0 k lk ts) (hk:k<n) (hF:F lk=.bad g):rdL F n l0=.bad g:=by
  rw [h.eq,show n - k=(n - (k+1))+1 by omega,rdL_split,hF];rfl
theorem Rest.end_ {F:List UInt8→Rd Raw} {n:Nat} {l0 lk:List UInt8} {ts:List Raw} (h:Rest F n l0 n lk ts):rdL F n l0=.ok ts lk:=by
  rw [h.eq,Nat.sub_self]
  show Rd.ok (ts++[]) lk=_
  rw [List.append_nil]
theorem okKs_snoc:∀ {ts:List Raw} {t:Raw},okKs 3 ts=true→kindOf t=2∧okK t=true→okKs 3 (ts++[t])=true
  | [],t,_,h=>by
    show ((decide (kidOf 3<0)||decide (kindOf t=kidOf 3))&&okK t&&true)=true
    rw [h.1,h.2];decide
  | s::ts,t,hs,h=>by
    have h':((decide (kidOf 3<0)||decide (kindOf s=kidOf 3))&&okK s&&okKs 3 ts)=true:=hs
    show ((decide (kidOf 3<0)||decide (kindOf s=kidOf 3))&&okK s&&okKs 3 (ts++[t]))=true
    rw [Bool.and_eq_true] at h' ⊢
    exact ⟨h'.1,okKs_snoc h'.2 h⟩
theorem keep3 (ts:List Raw) (h:okKs 3 ts=true):(newTs ts).filter (keepT 3)=newTs ts:=by
  induction ts with
  | nil=>rfl
  | cons t ts ih =>
    have h':((decide (kidOf 3<0)||decide (kindOf t=kidOf 3))&&okK t&&okKs 3 ts)=true:=h
    simp only [Bool.and_eq_true,Bool.or_eq_true,decide_eq_true_eq] at h'
    have hk:kindOf t=2:=by
      rcases h'.1.1 with h1 | h1
      · exact absurd h1 (by decide)
      · exact h1
    unfold newTs
    rw [List.filter_cons_of_pos (by rw [keepPg];simpa using hk),ih h'.2]
theorem PrPost.get {D:(Nat→Prop)→World→Value→Raw→Prop} {z:Value} {V W w':World} {pb:Nat} {big:Bool} {t:Raw} {l:List UInt8} {e:Ending} (h:PrPost D z V W pb big (.ok t l) e w') (hk:okK t=true):∃ v,e=.returned (.tuple #[v,.nilIface])∧D (Fr W w') w' v (newT t)∧WP V w' pb l (if big=true then 0 else 1) (!big)∧W.grownBy w' (some pb):=by
  obtain ⟨hg,h2⟩:=h
  have h3:if okK t=true then _ else _:=h2
  rw [if_pos hk] at h3
  obtain ⟨v,h4,h5,h6⟩:=h3
  exact ⟨v,h4,h5,h6,hg⟩
theorem node_any {k:Int} {D:(Nat→Prop)→World→Value→Raw→Prop} {B:Nat→Prop} {W:World} {v:Value} {r r':Nat} {f f':Nat→Nat} {ks:List Raw} (hne:ks≠[]) (h:DNode k D B W v (nodeT k r f ks)):DNode k D B W v (nodeT k r' f' ks):=by
  obtain ⟨f1,e1⟩:=node_one k r f ks
  obtain ⟨f2,e2⟩:=node_one k r' f' ks
  rw [if_neg hne,if_neg hne] at e1 e2
  rw [e1] at h
  rw [e2]
  exact h.anyf
theorem row_done {D:(Nat→Prop)→World→Value→Raw→Prop} (K:DK D) {e:TypeId} {base n:Nat} {w:World} {ts:List Raw} {cs:List Value} (hn:ts.length=n) (h:RowS D e base (fun _=>False) w (.slice (some ⟨base,0,none⟩) n n) n (fun i=>if i<n then ts[i]? else none) cs):RowD D (fun b=>base≤b∧b<w.heap.size) w (some ⟨base,0,none⟩) ts:=by
  have h1:RowS D e base (fun _=>False) w (.slice (some ⟨base,0,none⟩) n n) ts.length (fun i=>ts[i]?) cs:=by
    rw [hn]
    exact h.sel fun i t hi=>by
      have:=(List.getElem?_eq_some_iff.1 hi).1
      rw [hn] at this
      show (if i<n then _ else none)=_
      rw [if_pos this];exact hi
  exact h1.row K (by rw [hn]) (fun b hb=>hb.elim) (fun b h1 h2=>⟨h1,h2⟩)
theorem newT_pg (r:Nat) (hr:r<4) (ts:List Raw) (h:okKs 3 ts=true):newT (.mk 3 (r:Nat) 0 (fun _=>0) ts)=nodeT 3 r (fun _=>0) (newTs ts):=by
  have e1:kindN 3=3:=by decide
  rw [newT_node _ _ _ _ _ (by rw [e1];decide) (by rw [e1];decide),e1,show ((r:Int) % 4).toNat=r by omega]
  unfold Acc
  rw [List.take_length,keep3 ts h]
end
section
open Go.RowKit
def zGeo:Value:=.agg #[.int .i64 0,.nilIface]
def Sm:Nat→List UInt8→Prop
  | 0,_=>False
  | h+1,l=>(∀ t l',rdG true (h+1) (-1) l=.ok t l'→wt t≤2000)∧∀ hd l1 n l2,rdHead l=.ok hd l1→hd.k≠1→hd.k≠2→hd.k≠3→rdC hd.big l1=.ok n l2→∀ k lk ts,k<n→Rest (rdG true h (-1)) n l2 k lk ts→Sm h lk
def RnPost (h:Nat) (V W:World) (pb:Nat) (R:Rd Raw) (e:Ending) (w':World):Prop :=
  W.grownBy w' (some pb)∧((∀ t l,R=.ok t l→okK t=false)∧(∃ z ty x,(z=zGeo∨∃ (k:Int) (zty b:Nat),z=.agg #[.int .i64 k,.iface zty (.pointer (some ⟨b,0,none⟩))])∧e=.returned (.tuple #[z,.iface ty x]))∨∃ t l v big,R=.ok t l∧okK t=true∧e=.returned (.tuple #[v,.nilIface])∧DGeo h (Fr W w') w' v (newT t)∧WP V w' pb l (if big=true then 0 else 1) (!big))
def RunC (h:Nat):Prop:=∀ (V W:World) (pb:Nat) (l:List UInt8) (o:Nat) (no:Bool),WP V W pb l o no→rdG true h (-1) l≠.bad true→Sm h l →
  Calls Tryz.prog 87 #[.pointer (some ⟨pb,0,none⟩)] W (RnPost h V W pb (rdG true h (-1) l))
def InPost (D:(Nat→Prop)→World→Value→Raw→Prop) (z:Value) (V W:World) (pb o:Nat) (no:Bool) (R:Rd Raw) (e:Ending) (w':World):Prop :=
  W.grownBy w' (some pb)∧((∀ t l,R=.ok t l→okK t=false)∧(∃ ty x,e=.returned (.tuple #[z,.iface ty x]))∨∃ t l v,R=.ok t l∧okK t=true∧e=.returned (.tuple #[v,.nilIface])∧D (Fr W w') w' v (newT t)∧WP V w' pb l o no)
def InC (h:Nat):Prop:=∀ (V W:World) (pb:Nat) (l:List UInt8) (o:Nat) (no:Bool),WP V W pb l o no→rdG true h (-1) l≠.bad true→Sm h l →
  Calls Tryz.prog 246 #[.pointer (some ⟨pb,0,none⟩)] W (InPost (DGeo h) zGeo V W pb o no (rdG true h (-1) l))
theorem PrPost.or {D:(Nat→Prop)→World→Value→Raw→Prop} {z:Value} {V W w':World} {pb:Nat} {big:Bool} {R:Rd Raw} {e:Ending} (h:PrPost D z V W pb big R e w'):W.grownBy w' (some pb)∧((∀ t l,R=.ok t l→okK t=false)∧(∃ ty x,e=.returned (.tuple #[z,.iface ty x]))∨∃ t l v,R=.ok t l∧okK t=true∧e=.returned (.tuple #[v,.nilIface])∧D (Fr W w') w' v (newT t)∧WP V w' pb l (if big=true then 0 else 1) (!big)):=by
  obtain ⟨hg,h2⟩:=h
  refine ⟨hg,?_⟩
  cases R with
  | bad g=>exact .inl ⟨fun t l e=>(by cases e),h2⟩
  | ok t l =>
    have h3:if okK t=true then _ else _:=h2
    by_cases hk:okK t=true
    · rw [if_pos hk] at h3
      obtain ⟨v,h4,h5,h6⟩:=h3
      exact .inr ⟨t,l,v,rfl,hk,h4,h5,h6⟩
    · rw [if_neg hk] at h3
      exact .inl ⟨fun t' l' e=>by injection e with e1 e2;subst e1;simpa using hk,h3⟩
def bounded (W:World) (nb m:Nat):World:={ W with heap:=W.heap.setIfInBounds nb (.cells (Array.replicate m .nilIface) 0 (0,0)) }
theorem gt_part2 {a b c:World} {k:Nat} (g:a.grownBy b none) (h:b.grownBy c (some k)) (hk:a.heap.size≤k:=by omega):a.grownBy c none :=
  ⟨h.os.trans g.os,h.tape.trans g.tape,h.output.trans g.output,Nat.le_trans g.size h.size,fun i hi hne=>(h.block i (Nat.lt_of_lt_of_le hi g.size) (fun e=>by injection e with e;omega)).trans (g.block i hi hne)⟩
theorem bounded_heap (W:World) (nb m i:Nat) (h:i≠nb):(bounded W nb m).heap[i]?=W.heap[i]?:=by
  unfold bounded
  rw [Array.getElem?_setIfInBounds_ne (by omega)]
theorem bounded_size (W:World) (nb m:Nat):(bounded W nb m).heap.size=W.heap.size:=by simp [bounded]
theorem bnd_bounded (W:World) (nb m:Nat) (h:nb<W.heap.size):bnd (bounded W nb m) nb=m:=by
  unfold bnd bounded
  simp [h]
theorem bounded_grown (W:World) (nb m:Nat):(bounded W nb m).grownBy W (some nb) :=
  ⟨rfl,rfl,rfl,by rw [bounded_size];exact Nat.le_refl _,fun i _ hne=>(bounded_heap W nb m i (fun e=>hne (by rw [e]))).symm⟩
theorem WP.inner {V W W2:World} {pb nb:Nat} {l:List UInt8} {o:Nat} {no:Bool} {x:Value} (h:WP V W pb l o no) (hx:W.cell? ⟨pb,0,none⟩=some x) (g:W.grownBy W2 none) (hnb:W.heap.size≤nb) (hnb2:nb<W2.heap.size) (c0:W2.cell? ⟨nb,0,none⟩=some x) (c1:W2.cell? ⟨nb,1,none⟩=some (.int .u8 0)) (c2:W2.cell? ⟨nb,2,none⟩=some (.bool false)) (fz:∀ j,W2.frozen? ⟨nb,j,none⟩=false) :
    ∃ V',WP V' W2 nb l 0 false∧∀ x' l',BZ V' nb x' l'→BZ V pb x' l':=by
  have hpb:=h.lt
  obtain ⟨x0,hx0,hz⟩:=h.x
  obtain rfl:x0=x:=by rw [hx0] at hx;injection hx
  have gV:V.grownBy W2 (some pb):=gt_trans h.g g (.inr (.inl rfl))
  have hblt:=h.blt
  have hVW:=h.g.size
  have hcell:∀ b j,b<pb→(bounded W2 nb (min (bnd V pb) pb)).cell? ⟨b,j,none⟩=V.cell? ⟨b,j,none⟩:=fun b j hb =>
    World.cell?_of_block ((bounded_heap W2 nb _ b (by omega)).trans (gV.block b (by omega) (fun e=>by injection e with e;omega)))
  refine ⟨bounded W2 nb (min (bnd V pb) pb),⟨bounded_grown _ _ _,by rw [bounded_size];exact hnb2,⟨x0,c0,?_,?_⟩,c1,c2,fz⟩,fun x' l' hz'=>⟨?_,?_⟩⟩
  · obtain ⟨p,c,e,h1,h2,h3,h4⟩:=hz.ex
    refine ⟨p,c,e,h1,h2,h3,fun h0=>?_⟩
    obtain ⟨b,o',ep,hb,hc⟩:=h4 h0
    have hlo:=hz.low b o' l.length c (by rw [e,ep]) h0
    exact ⟨b,o',ep,by omega,fun i u hi=>(hcell b _ hlo.2).trans (hc i u hi)⟩
  · intro b o' n c e h0
    rw [bnd_bounded _ _ _ hnb2]
    have hlo:=hz.low b o' n c e h0
    omega
  · obtain ⟨p,c,e,h1,h2,h3,h4⟩:=hz'.ex
    refine ⟨p,c,e,h1,h2,h3,fun h0=>?_⟩
    obtain ⟨b,o',ep,hb,hc⟩:=h4 h0
    have hlo:=hz'.low b o' l'.length c (by rw [e,ep]) h0
    rw [bnd_bounded _ _ _ hnb2] at hlo
    exact ⟨b,o',ep,by omega,fun i u hi=>(hcell b _ (by omega)).symm.trans (hc i u hi)⟩
  · intro b o' n c e h0
    have hlo:=hz'.low b o' n c e h0
    rw [bnd_bounded _ _ _ hnb2] at hlo
    omega
theorem inner_of (h:Nat) (ih:RunC h):InC h:=by
  intro V W pb l o no hw hR hS
  have hpb:=hw.lt
  obtain ⟨x,hx,hz⟩:=hw.x
  obtain ⟨p,c,ex,hzz⟩:=hz.ex
  clear hzz
  subst ex
  have gA:W.grownBy ((W.alloc (.cells #[.int .i64 0,.nilIface] 57)).alloc (.cells #[.slice p l.length c,.int .u8 0,.bool false] 146)) none:=gt_alloc_r (World.grownBy_alloc W _ none) _
  obtain ⟨V',hwi,hback⟩:=hw.inner (nb:=W.heap.size+1) hx gA (by omega) (by simp) (by simp) (by simp) (by simp) (fun j=>by rw [World.frozen?_of_block (w:=(W.alloc (.cells #[.int .i64 0,.nilIface] 57)).alloc (.cells #[.slice p l.length c,.int .u8 0,.bool false] 146)) rfl];simp)
  have HRun:=Lib.hid (ih V' _ (W.heap.size+1) l 0 false hwi hR hS)
  obtain ⟨W2,hW2⟩ : ∃ W2,W2=(W.alloc (.cells #[.int .i64 0,.nilIface] 57)).alloc (.cells #[.slice p l.length c,.int .u8 0,.bool false] 146):=⟨_,rfl⟩
  rw [←hW2] at gA hwi HRun
  have hs2:W2.heap.size=W.heap.size+2:=by rw [hW2];simp
  have HC:Hid (∀ w,W2.grownBy w (some (W.heap.size+1))→w.cell? ⟨W.heap.size,0,none⟩=some (.int .i64 0)∧w.cell? ⟨W.heap.size,1,none⟩=some .nilIface∧(∀ j,w.frozen? ⟨W.heap.size,j,none⟩=false)∧w.cell? ⟨pb,0,none⟩=some (.slice p l.length c)∧(∀ j,w.frozen? ⟨pb,j,none⟩=false)∧W.grownBy w none):=fun w g=>by
    have hn:some W.heap.size≠some (W.heap.size+1):=fun e=>by injection e with e;omega
    have hb:=g.block W.heap.size (by omega) hn
    have gw:W.grownBy w none:=gt_part2 gA g
    refine ⟨g.cell (by rw [hW2];simp) hn,g.cell (by rw [hW2];simp) hn,fun j=>?_,gw.cell hx (by simp),fun j=>?_,gw⟩
    · rw [World.frozen?_of_block hb,hW2];simp
    · rw [World.frozen?_of_block (gw.block pb hpb (by simp))];exact hw.fz j
  have HVW:Hid (V.heap.size≤W.heap.size):=hw.g.size
  have HFin:Hid (∀ (w1:World) (big:Bool) (t:Raw) (l':List UInt8) (k:Int) (ty b:Nat),W2.grownBy w1 (some (W.heap.size+1))→DGeo h (Fr W2 w1) w1 (.agg #[.int .i64 k,.iface ty (.pointer (some ⟨b,0,none⟩))]) (newT t)→WP V' w1 (W.heap.size+1) l' (if big=true then 0 else 1) (!big)→rdG true h (-1) l=.ok t l'→okK t=true →
      ∃ pd nd cd,w1.cell? ⟨W.heap.size+1,0,none⟩=some (.slice pd nd cd)∧InPost (DGeo h) zGeo V W pb o no (rdG true h (-1) l) (.returned (.tuple #[.agg #[.int .i64 k,.iface ty (.pointer (some ⟨b,0,none⟩))],.nilIface])) (((w1.setCell ⟨pb,0,none⟩ (.slice pd nd cd)).setCell ⟨W.heap.size,0,none⟩ (.int .i64 k)).setCell ⟨W.heap.size,1,none⟩ (.iface ty (.pointer (some ⟨b,0,none⟩))))):=fun w1 big t l' k ty b g hd hw1 hRt hok=>by
    obtain ⟨x',hx',hz'⟩:=hw1.x
    obtain ⟨pd,cd,ex',_⟩:=hz'.ex
    subst ex'
    obtain ⟨_,_,_,_,_,gw⟩:=HC.out w1 g
    obtain ⟨hs,gs⟩:=(hw.kept gw).set (hback _ _ hz')
    have s1:=g.size
    have K:=(DGeo.dk h).toDK0
    have h1:=K.keep (.set (q:=⟨W.heap.size,1,none⟩) (fun hb=>by have:=hb.1;simp at this;omega) (.iface ty (.pointer (some ⟨b,0,none⟩)))) (K.keep (.set (q:=⟨W.heap.size,0,none⟩) (fun hb=>by have:=hb.1;simp at this;omega) (.int .i64 k)) (K.keep (.set (q:=⟨pb,0,none⟩) (fun hb=>by have:=hb.1;simp at this;omega) (.slice pd l'.length cd)) hd))
    exact ⟨pd,_,cd,hx',gt_set_r (gt_set_r (gt_trans (gt_some gw pb) gs (.inl rfl)) _ _ (Nat.le_refl _)) _ _ (Nat.le_refl _),.inr ⟨t,l',_,hRt,hok,rfl,K.weak (fun b hb=>⟨by have:=hb.1;omega,by have:=hb.2;simpa [World.setCell] using this⟩) h1,(hs.put _ _ HVW.out).put _ _ HVW.out⟩⟩
  generalize l.length=n at hx hW2 HC
  have HW2:=Lib.hid hW2
  clear hw hz gA hwi hback hW2 
  unfold zGeo at *
  go_enter Tryz.func246,Tryz.ntmps246
  go_wp2_with (first
    | (go_at_call 87;go_loud (rw [←HW2.out];refine HRun.out.mono ?_;unfold RnPost zGeo;rintro e w1 hor;obtain ⟨hg1,⟨hbad,z,ty,xx,(rfl | ⟨zk,zty,zb,rfl⟩),rfl⟩ | ⟨t,l',v,big,hRt,hok,rfl,hd,hw1⟩⟩:=hor <;> (first
       | (have zk9:=zk;clear zk9;obtain ⟨r0,r1,rf,q0,qf,gw⟩:=HC.out _ (gt_alloc_r hg1 (.cells #[.int .i64 zk,.iface zty (.pointer (some ⟨zb,0,none⟩))] 57));have HBad:=Lib.hid hbad;clear hbad;have rf0:=rf 0;have rf1:=rf 1)
       | (have HBad:=Lib.hid hbad;clear hbad;obtain ⟨r0,r1,rf,q0,qf,gw⟩:=HC.out _ (gt_alloc_r hg1 (.cells #[.int .i64 0,.nilIface] 57));have rf0:=rf 0;have rf1:=rf 1)
       | (have hpw:pb<w1.heap.size:=(by have:=hg1.size;omega);have hWw:W.heap.size<w1.heap.size:=(by have:=hg1.size;omega);have hne1:pb≠w1.heap.size:=(by omega);have hne2:W.heap.size≠w1.heap.size:=(by omega);have hne3:W.heap.size≠pb:=(by omega);obtain ⟨ek,ety,eb,rfl⟩:=DGeo.form hd;have ga:=World.grownBy_alloc w1 (.cells #[.int .i64 ek,.iface ety (.pointer (some ⟨eb,0,none⟩))] 57) none;have hsa:=ga.size;obtain ⟨pd,nd,cd,hx1,hfin⟩:=HFin.out _ _ _ _ _ _ _ (gt_alloc_r hg1 _) ((DGeo.dk h).weak (fun b hb=>⟨hb.1,Nat.lt_of_lt_of_le hb.2 hsa⟩) ((DGeo.dk h).toDK0.mono ga hd)) (hw1.kept ga) hRt hok;have HF:=Lib.hid hfin;clear hfin hd hw1;obtain ⟨r0,r1,rf,q0,qf,gw⟩:=HC.out _ (gt_alloc_r hg1 (.cells #[.int .i64 ek,.iface ety (.pointer (some ⟨eb,0,none⟩))] 57)); have rf0:=rf 0;have rf1:=rf 1;have qf0:=qf 0;obtain ⟨s0,s1,sf,p0,pf,_⟩:=HC.out _ hg1;have sf0:=sf 0;have sf1:=sf 1;have pf0:=pf 0)))))
  · refine bodyPost_ret (by simp [results,Tryz.results246,go_sem,r0,r1];try rfl) rfl ?_
    exact ⟨gt_set_r (gt_set_r (gt_some gw pb) _ _ (Nat.le_refl _)) _ _ (Nat.le_refl _),.inl ⟨HBad.out,_,_,rfl⟩⟩
  · refine bodyPost_ret (by simp [results,Tryz.results246,go_sem,r0,r1];try rfl) rfl ?_
    exact ⟨gt_set_r (gt_set_r (gt_some gw pb) _ _ (Nat.le_refl _)) _ _ (Nat.le_refl _),.inl ⟨HBad.out,_,_,rfl⟩⟩
  · have z0:(w1.setCell ⟨pb,0,none⟩ (.slice pd nd cd)).cell? ⟨W.heap.size,0,none⟩=some (.int .i64 0):=(World.cell?_setCell_other (w:=w1) (a:=⟨pb,0,none⟩) (b:=⟨W.heap.size,0,none⟩) (v:=.slice pd nd cd) (h:=by simp [hne3])).trans s0
    have z1:(w1.setCell ⟨pb,0,none⟩ (.slice pd nd cd)).cell? ⟨W.heap.size,1,none⟩=some .nilIface:=(World.cell?_setCell_other (w:=w1) (a:=⟨pb,0,none⟩) (b:=⟨W.heap.size,1,none⟩) (v:=.slice pd nd cd) (h:=by simp [hne3])).trans s1
    refine bodyPost_ret (by simp [results,Tryz.results246,go_sem,z0,z1,hWw];try rfl) rfl ?_
    have hf:=HF.out
    have e:((((w1.alloc (.cells #[.int .i64 ek,.iface ety (.pointer (some ⟨eb,0,none⟩))] 57)).setCell ⟨pb,0,none⟩ (.slice pd nd cd)).setCell ⟨W.heap.size,0,none⟩ (.int .i64 ek)).setCell ⟨W.heap.size,1,none⟩ (.iface ety (.pointer (some ⟨eb,0,none⟩))))=((((w1.setCell ⟨pb,0,none⟩ (.slice pd nd cd)).setCell ⟨W.heap.size,0,none⟩ (.int .i64 ek)).setCell ⟨W.heap.size,1,none⟩ (.iface ety (.pointer (some ⟨eb,0,none⟩)))).alloc (.cells #[.int .i64 ek,.iface ety (.pointer (some ⟨eb,0,none⟩))] 57)):=by
      rw [World.setCell_alloc_past _ _ _ _ hpw,World.setCell_alloc_past _ _ _ _ (by simpa [World.setCell] using hWw),World.setCell_alloc_past _ _ _ _ (by simpa [World.setCell] using hWw)]
    rw [e] at hf
    exact hf
end
section
open Go.RowKit
theorem RunC.zero:RunC 0:=fun V W pb l o no hw hR hS=>hS.elim
theorem parseGC_short (V W:World) (pb o:Nat) (no:Bool) (l:List UInt8) (hl:l.length<4) (h:WP V W pb l o no):Calls Tryz.prog 155 #[.pointer (some ⟨pb,0,none⟩)] W fun e w'=>(∃ ty x,e=.returned (.tuple #[.int .i64 0,.int .u8 0,.iface ty x]))∧W.grownBy w' (some pb):=by
  have H:=Lib.hid (parseU32_bad V W pb o no l hl h)
  clear h
  go_enter Tryz.func155,Tryz.ntmps155
  go_wp2_with (first
    | (go_at_call 198;refine H.out.mono ?_;rintro e w1 ⟨⟨ty,x,rfl⟩,hg1⟩))
  refine bodyPost_ret (by simp [results,Tryz.results155,go_sem];try rfl) rfl ?_
  exact ⟨⟨_,_,rfl⟩,hg1⟩
def RunBad (W:World) (pb:Nat) (e:Ending) (w':World):Prop:=(∃ ty x,e=.returned (.tuple #[zGeo,.iface ty x]))∧W.grownBy w' (some pb)
theorem run_bo (W:World) (pb:Nat) (hpb:pb<W.heap.size) (HB:Calls Tryz.prog 154 #[.pointer (some ⟨pb,0,none⟩)] (W.alloc (.cells #[.int .i64 0,.nilIface] 57)) fun e w'=>(∃ ty x,e=.returned (.iface ty x))∧(W.alloc (.cells #[.int .i64 0,.nilIface] 57)).grownBy w' (some pb)):Calls Tryz.prog 87 #[.pointer (some ⟨pb,0,none⟩)] W (RunBad W pb):=by
  have HG:=Lib.hid (gt_some (World.grownBy_alloc W (.cells #[.int .i64 0,.nilIface] 57) none) pb)
  have HC:Hid (∀ w,(W.alloc (.cells #[.int .i64 0,.nilIface] 57)).grownBy w (some pb)→w.cell? ⟨W.heap.size,0,none⟩=some (.int .i64 0)∧w.cell? ⟨W.heap.size,1,none⟩=some .nilIface∧∀ j,w.frozen? ⟨W.heap.size,j,none⟩=false):=fun w g=>by
    have hn:some W.heap.size≠some pb:=fun e=>by injection e with e;omega
    have hb:=g.block W.heap.size (by simp) hn
    exact ⟨g.cell (by simp) hn,g.cell (by simp) hn,fun j=>by rw [World.frozen?_of_block hb];simp⟩
  have HB1:=Lib.hid HB
  clear HB
  unfold RunBad zGeo
  go_enter Tryz.func87,Tryz.ntmps87
  go_wp2_with (first
    | (go_at_call 154;refine HB1.out.mono ?_;rintro e w1 ⟨⟨ty,x,rfl⟩,hg1⟩;obtain ⟨r0,r1,rf⟩:=HC.out _ hg1;have rf0:=rf 0;have rf1:=rf 1))
  refine bodyPost_ret (by simp [results,Tryz.results87,go_sem,r0,r1];try rfl) rfl ?_
  exact ⟨⟨_,_,rfl⟩,gt_set_r (gt_set_r (gt_trans HG.out hg1 (.inl rfl)) _ _ (Nat.le_refl _)) _ _ (Nat.le_refl _)⟩
theorem run_gc (V W:World) (pb:Nat) (big:Bool) (l:List UInt8) (hpb:pb<W.heap.size) (HB:Calls Tryz.prog 154 #[.pointer (some ⟨pb,0,none⟩)] (W.alloc (.cells #[.int .i64 0,.nilIface] 57)) fun e w'=>e=.returned .nilIface∧WP V w' pb l (if big=true then 0 else 1) (!big)∧(W.alloc (.cells #[.int .i64 0,.nilIface] 57)).grownBy w' (some pb))
    (HB2:∀ w,WP V w pb l (if big=true then 0 else 1) (!big)→Calls Tryz.prog 155 #[.pointer (some ⟨pb,0,none⟩)] w fun e w'=>(∃ ty x,e=.returned (.tuple #[.int .i64 0,.int .u8 0,.iface ty x]))∧w.grownBy w' (some pb)):Calls Tryz.prog 87 #[.pointer (some ⟨pb,0,none⟩)] W (RunBad W pb):=by
  have HG:=Lib.hid (gt_some (World.grownBy_alloc W (.cells #[.int .i64 0,.nilIface] 57) none) pb)
  have HC:Hid (∀ w,(W.alloc (.cells #[.int .i64 0,.nilIface] 57)).grownBy w (some pb)→w.cell? ⟨W.heap.size,0,none⟩=some (.int .i64 0)∧w.cell? ⟨W.heap.size,1,none⟩=some .nilIface∧∀ j,w.frozen? ⟨W.heap.size,j,none⟩=false):=fun w g=>by
    have hn:some W.heap.size≠some pb:=fun e=>by injection e with e;omega
    have hb:=g.block W.heap.size (by simp) hn
    exact ⟨g.cell (by simp) hn,g.cell (by simp) hn,fun j=>by rw [World.frozen?_of_block hb];simp⟩
  have HB1:=Lib.hid HB
  have HB2:=Lib.hid HB2
  clear HB
  unfold RunBad zGeo
  go_enter Tryz.func87,Tryz.ntmps87
  go_wp2_with (first
    | (go_at_call 154;refine HB1.out.mono ?_;rintro e w1 ⟨rfl,hw1,hg1⟩;have HW1:=Lib.hid hw1;clear hw1)
    | (go_at_call 155;refine (HB2.out _ HW1.out).mono ?_;rintro e w2 ⟨⟨ty,x,rfl⟩,hg2⟩;have GG:=gt_trans hg1 hg2 (.inl rfl);obtain ⟨r0,r1,rf⟩:=HC.out _ GG;have rf0:=rf 0;have rf1:=rf 1))
  refine bodyPost_ret (by simp [results,Tryz.results87,go_sem,r0,r1];try rfl) rfl ?_
  exact ⟨⟨_,_,rfl⟩,gt_set_r (gt_set_r (gt_trans HG.out GG (.inl rfl)) _ _ (Nat.le_refl _)) _ _ (Nat.le_refl _)⟩
theorem RnPost.up {h:Nat} {V W w2 w3:World} {pb:Nat} {R:Rd Raw} {e:Ending} (hVW:V.heap.size≤W.heap.size) (g0:W.grownBy w2 (some pb)) (hpb:pb<W.heap.size) (hs:W.heap.size<w2.heap.size) (hp:RnPost h V w2 pb R e w3):W.grownBy w3 (some pb)∧∃ a b b',(b=.nilIface∨∃ (zty:Nat) (zb:Nat),b=.iface zty (.pointer (some ⟨zb,0,none⟩)))∧(b'=.nilIface∨∃ (ty:Nat) (x:Value),b'=.iface ty x)∧e=.returned (.tuple #[.agg #[.int .i64 a,b],b'])∧RnPost h V W pb R (.returned (.tuple #[.agg #[.int .i64 a,b],b'])) ((w3.setCell ⟨W.heap.size,0,none⟩ (.int .i64 a)).setCell ⟨W.heap.size,1,none⟩ b):=by
  obtain ⟨hg,hor⟩:=hp
  have g3:=gt_trans g0 hg (.inl rfl)
  refine ⟨g3,?_⟩
  have GG:∀ a b,W.grownBy ((w3.setCell ⟨W.heap.size,0,none⟩ a).setCell ⟨W.heap.size,1,none⟩ b) (some pb):=fun a b=>gt_set_r (gt_set_r g3 _ _ (Nat.le_refl _)) _ _ (Nat.le_refl _)
  rcases hor with ⟨hbad,z,ty,x,hz,rfl⟩ | ⟨t,l,v,big,hR,hok,rfl,hd,hw⟩
  · rcases hz with rfl | ⟨k,zty,zb,rfl⟩
    · exact ⟨0,.nilIface,_,.inl rfl,.inr ⟨ty,x,rfl⟩,rfl,GG _ _,.inl ⟨hbad,_,_,_,.inl rfl,rfl⟩⟩
    · exact ⟨k,_,_,.inr ⟨zty,zb,rfl⟩,.inr ⟨ty,x,rfl⟩,rfl,GG _ _,.inl ⟨hbad,_,_,_,.inr ⟨_,_,_,rfl⟩,rfl⟩⟩
  · obtain ⟨k,zty,zb,rfl⟩:=DGeo.form hd
    have K:=(DGeo.dk h).toDK0
    have h1:=K.keep (.set (q:=⟨W.heap.size,1,none⟩) (fun hb=>by have:=hb.1;simp at this;omega) (.iface zty (.pointer (some ⟨zb,0,none⟩)))) (K.keep (.set (q:=⟨W.heap.size,0,none⟩) (fun hb=>by have:=hb.1;simp at this;omega) (.int .i64 k)) hd)
    exact ⟨k,_,_,.inr ⟨zty,zb,rfl⟩,.inl rfl,rfl,GG _ _,.inr ⟨t,l,_,big,hR,hok,rfl,K.weak (fun b hb=>⟨by have:=hb.1;omega,by have:=hb.2;simpa [World.setCell] using this⟩) h1,(hw.put _ _ hVW).put _ _ hVW⟩⟩
theorem run_root (h:Nat) (V W:World) (pb:Nat) (big:Bool) (l1 l2:List UInt8) (k:Int) (d:Nat) (R:Rd Raw) (hpb:pb<W.heap.size) (hVW:V.heap.size≤W.heap.size) (HB:Calls Tryz.prog 154 #[.pointer (some ⟨pb,0,none⟩)] (W.alloc (.cells #[.int .i64 0,.nilIface] 57)) fun e w'=>e=.returned .nilIface∧WP V w' pb l1 (if big=true then 0 else 1) (!big)∧(W.alloc (.cells #[.int .i64 0,.nilIface] 57)).grownBy w' (some pb))
    (HB2:∀ w,WP V w pb l1 (if big=true then 0 else 1) (!big)→Calls Tryz.prog 155 #[.pointer (some ⟨pb,0,none⟩)] w fun e w'=>e=.returned (.tuple #[.int .i64 k,.int .u8 d,.nilIface])∧WP V w' pb l2 (if big=true then 0 else 1) (!big)∧w.grownBy w' (some pb))
    (HB3:∀ w,WP V w pb l2 (if big=true then 0 else 1) (!big)→Calls Tryz.prog 156 #[.pointer (some ⟨pb,0,none⟩),.int .i64 k,.int .u8 d] w (RnPost h V w pb R)):Calls Tryz.prog 87 #[.pointer (some ⟨pb,0,none⟩)] W (RnPost h V W pb R):=by
  have HG:=Lib.hid (gt_some (World.grownBy_alloc W (.cells #[.int .i64 0,.nilIface] 57) none) pb)
  have HC:Hid (∀ w,(W.alloc (.cells #[.int .i64 0,.nilIface] 57)).grownBy w (some pb)→w.cell? ⟨W.heap.size,0,none⟩=some (.int .i64 0)∧w.cell? ⟨W.heap.size,1,none⟩=some .nilIface∧∀ j,w.frozen? ⟨W.heap.size,j,none⟩=false):=fun w g=>by
    have hn:some W.heap.size≠some pb:=fun e=>by injection e with e;omega
    have hb:=g.block W.heap.size (by simp) hn
    exact ⟨g.cell (by simp) hn,g.cell (by simp) hn,fun j=>by rw [World.frozen?_of_block hb];simp⟩
  have HB1:=Lib.hid HB
  have HB2:=Lib.hid HB2
  have HB3:=Lib.hid HB3
  have HUp:Hid (∀ w2 w3 e,(W.alloc (.cells #[.int .i64 0,.nilIface] 57)).grownBy w2 (some pb)→RnPost h V w2 pb R e w3→(W.alloc (.cells #[.int .i64 0,.nilIface] 57)).grownBy w3 (some pb)∧∃ a b b',(b=.nilIface∨∃ (zty:Nat) (zb:Nat),b=.iface zty (.pointer (some ⟨zb,0,none⟩)))∧(b'=.nilIface∨∃ (ty:Nat) (x:Value),b'=.iface ty x)∧e=.returned (.tuple #[.agg #[.int .i64 a,b],b'])∧RnPost h V W pb R (.returned (.tuple #[.agg #[.int .i64 a,b],b'])) ((w3.setCell ⟨W.heap.size,0,none⟩ (.int .i64 a)).setCell ⟨W.heap.size,1,none⟩ b)):=fun w2 w3 e g hp=>by
    have gw:=gt_trans HG.out g (.inl rfl)
    have hs:W.heap.size<w2.heap.size:=by have:=g.size;simp at this;omega
    exact ⟨gt_trans g hp.1 (.inl rfl),(RnPost.up hVW gw hpb hs hp).2⟩
  clear HB
  go_enter Tryz.func87,Tryz.ntmps87
  go_wp2_with (first
    | (go_at_call 154;refine HB1.out.mono ?_;rintro e w1 ⟨rfl,hw1,hg1⟩;have HW1:=Lib.hid hw1;clear hw1)
    | (go_at_call 155;refine (HB2.out _ HW1.out).mono ?_;rintro e w2 ⟨rfl,hw2,hg2⟩;have HW2:=Lib.hid hw2;clear hw2;have GG:=gt_trans hg1 hg2 (.inl rfl))
    | (go_at_call 156;go_loud (refine (HB3.out _ HW2.out).mono ?_;rintro e w3 hrn;obtain ⟨g3,a,b,b',hb,hb',rfl,hpost⟩:=HUp.out _ _ _ GG hrn;have HPo:=Lib.hid hpost;clear hrn hpost;obtain ⟨r0,r1,rf⟩:=HC.out _ g3;have rf0:=rf 0;have rf1:=rf 1;rcases hb with rfl | ⟨zty,zb,rfl⟩ <;> rcases hb' with rfl | ⟨ty,x,rfl⟩)))
  all_goals
    refine bodyPost_ret (by simp [results,Tryz.results87,go_sem,r0,r1];try rfl) rfl ?_
    exact HPo.out
end
end Go.Proofs.YtlpaecafpbbbkaaGreatDoor
