/- A block apart: worlds that are the same but for one block, which a reader or a writer changes on the way. The reference's reader of well known binary: a geometry whose parts are read one by one. -/
import Derived.Test.YtlpaecafpbbbkaaGreatDoorBYT4
import Derived.Test.YtlpaecafpbbbkaaGreatDoorBYT13
import Derived.Test.YtlpaecafpbbbkaaGreatDoorBYT20
import Derived.Test.YtlpaecafpbbbkaaGreatDoorBYT30
set_option linter.unusedVariables false
set_option linter.unusedSimpArgs false
set_option maxRecDepth 100000
set_option maxHeartbeats 24000000
namespace Go.Proofs.YtlpaecafpbbbkaaGreatDoor
section
open Go.RowKit
def withB (W w:World) (rb:Nat):World:={ W with heap:=match w.heap[rb]? with
  | some o=>W.heap.setIfInBounds rb o
  | none=>W.heap }
theorem withB_size (W w:World) (rb:Nat):(withB W w rb).heap.size=W.heap.size:=by
  unfold withB
  cases w.heap[rb]? <;> simp
theorem withB_ne (W w:World) (rb i:Nat) (h:i≠rb):(withB W w rb).heap[i]?=W.heap[i]?:=by
  unfold withB
  cases w.heap[rb]? with
  | none=>rfl
  | some o=>exact Array.getElem?_setIfInBounds_ne (by omega)
theorem withB_eq (W w:World) (rb:Nat) (h:rb<W.heap.size) (h2:rb<w.heap.size):(withB W w rb).heap[rb]?=w.heap[rb]?:=by
  unfold withB
  rw [Array.getElem?_eq_getElem h2]
  simp [h]
theorem withB_cell (W w:World) (rb:Nat) (a:Addr) (h:a.block≠rb):(withB W w rb).cell? a=W.cell? a:=World.cell?_of_block (withB_ne W w rb a.block h)
theorem withB_cellE (W W' w:World) (rb:Nat) (h:rb<W.heap.size) (h':rb<W'.heap.size) (h2:rb<w.heap.size) (a:Addr) (ha:a.block=rb):(withB W w rb).cell? a=(withB W' w rb).cell? a :=
  World.cell?_of_block (by rw [ha,withB_eq W w rb h h2,withB_eq W' w rb h' h2])
theorem withB_frozen (W w:World) (rb b j:Nat) (h:b≠rb):(withB W w rb).frozen? ⟨b,j,none⟩=W.frozen? ⟨b,j,none⟩:=World.frozen?_of_block (withB_ne W w rb b h)
theorem gt_withB (W w:World) (rb:Nat):W.grownBy (withB W w rb) (some rb) :=
  ⟨rfl,rfl,rfl,by rw [withB_size];exact Nat.le_refl _,fun i _ hne=>withB_ne W w rb i (fun e=>hne (by rw [e]))⟩
theorem gt_toB {a b:World} {rb:Nat} (g:a.grownBy b (some rb)) (h:rb<a.heap.size):(withB a b rb).grownBy b none :=
  ⟨g.os,g.tape,g.output,by rw [withB_size];exact g.size,fun i hi _=>by
    rw [withB_size] at hi
    by_cases hr:i=rb
    · subst hr;exact (withB_eq a b i hi (Nat.lt_of_lt_of_le hi g.size)).symm
    · rw [withB_ne a b rb i hr];exact g.block i hi (fun e=>hr (by injection e))⟩
theorem gt_bothB {a b w:World} {rb:Nat} {r:Option Nat} (g:a.grownBy b r) (h:rb<a.heap.size) (hw:rb<w.heap.size):(withB a w rb).grownBy (withB b w rb) r :=
  ⟨g.os,g.tape,g.output,by rw [withB_size,withB_size];exact g.size,fun i hi hne=>by
    rw [withB_size] at hi
    by_cases hr:i=rb
    · subst hr;rw [withB_eq a w i hi hw,withB_eq b w i (Nat.lt_of_lt_of_le hi g.size) hw]
    · rw [withB_ne a w rb i hr,withB_ne b w rb i hr];exact g.block i hi hne⟩
theorem keptB {B:Nat→Prop} (W w:World) (rb:Nat) (h:¬ B rb):Kept B W (withB W w rb):=fun a x ha hc=>by
  rw [withB_cell W w rb a (fun e=>h (e ▸ ha))];exact hc
section
variable {W W1 wr w:World} {base ob rb:Nat}
theorem Und.re (i:Und W W1 base ob wr) (h0:rb<W.heap.size) (h1:rb<W1.heap.size) (hw:rb<w.heap.size):Und (withB W w rb) (withB W1 w rb) base ob (withB wr w rb):=by
  have hlo:=i.lo
  have hs:=i.g.size
  refine ⟨gt_bothB i.g h0 hw,by rw [withB_size];exact i.lo,i.lt,by rw [withB_size];exact i.big,fun a x h2 h3 h4=>?_,fun b j h2 h3=>?_,fun j=>?_⟩
  · by_cases hr:a.block=rb
    · rw [withB_cellE wr W1 w rb (by omega) h1 hw a hr];exact h4
    · rw [withB_cell _ _ _ _ hr] at h4 ⊢;exact i.keep a x h2 h3 h4
  · by_cases hr:b=rb
    · subst hr
      exact World.frozen?_of_block (by rw [withB_eq wr w b (by omega) hw,withB_eq W1 w b h1 hw])
    · rw [withB_frozen _ _ _ _ _ hr,withB_frozen _ _ _ _ _ hr];exact i.kf b j h2 h3
  · rw [withB_frozen _ _ _ _ _ (by omega)];exact i.of_ j
variable {h:Nat} {k d:Int} {p:Option Addr} {n c:Nat} {f:Nat→Nat} {y:Value} {ts:List Raw} {cs:List Value}
theorem KRow.re (i:KRow base h wr y ts cs) (hb:rb<base):KRow base h (withB wr w rb) y ts cs:=by
  refine ⟨i.1.kept (gt_withB wr w rb) ?_,fun j t hj=>?_⟩
  · cases hx:y.ownBlock with
    | none=>exact .inl rfl
    | some b=>exact .inr fun e=>by injection e with e;have:=(i.1.lt b hx).1;omega
  · obtain ⟨c0,c1,c2,c3,e0,e1,e2,e3,hk⟩:=i.2 j t hj
    refine ⟨c0,c1,c2,c3,e0,e1,e2,e3,?_⟩
    rw [withB_size]
    exact hk.keep (keptB wr w rb (fun hB=>by have:=hB.1;omega))
theorem KidB.re (i:KidB W W1 base ob wr h k d p n c f y ts cs) (h0:rb<W.heap.size) (h1:rb<W1.heap.size) (hw:rb<w.heap.size):KidB (withB W w rb) (withB W1 w rb) base ob (withB wr w rb) h k d p n c f y ts cs:=by
  have hlo:=i.u.lo
  have hlt:=i.u.lt
  have e:∀ j,(withB wr w rb).cell? ⟨ob,j,none⟩=wr.cell? ⟨ob,j,none⟩:=fun j=>withB_cell _ _ _ _ (by show ob≠rb;omega)
  refine ⟨i.u.re h0 h1 hw,by rw [e];exact i.o0,by rw [e];exact i.o1,by rw [e];exact i.o2,by rw [e];exact i.o3,?_,i.n1,i.n2,i.n3,fun a ha=>?_,i.kr.re (by omega)⟩
  · exact i.nums.keep (B:=fun b=>base≤b) (keptB wr w rb (fun hB=>by omega)) (fun a ha=>(i.nb a ha).1)
  · rw [withB_size];exact i.nb a ha
structure KidR (W G1:World) (rb base ob:Nat) (wr:World) (h:Nat) (k d:Int) (p:Option Addr) (n c:Nat) (f:Nat→Nat) (y:Value) (ts:List Raw) (cs:List Value):Prop where
  g:W.grownBy wr (some rb)
  r0:rb<W.heap.size
  r1:rb<G1.heap.size
  ex:∃ W' W1':World,W'.heap.size=W.heap.size∧W1'.heap.size=G1.heap.size∧(∀ i,i≠rb→W1'.heap[i]?=G1.heap[i]?)∧KidB W' W1' base ob wr h k d p n c f y ts cs
variable {G1:World}
theorem KidR.start (i:KidB W G1 base ob wr h k d p n c f y ts cs) (h0:rb<W.heap.size) (h1:rb<G1.heap.size):KidR W G1 rb base ob wr h k d p n c f y ts cs :=
  ⟨gt_trans (gt_refl W (some rb)) i.u.g (.inr (.inl rfl)),h0,h1,W,G1,rfl,rfl,fun _ _=>rfl,i⟩
theorem KidR.call (i:KidR W G1 rb base ob wr h k d p n c f y ts cs) (g:wr.grownBy w (some rb)):KidR W G1 rb base ob w h k d p n c f y ts cs:=by
  obtain ⟨W',W1',e0,e1,e2,hk⟩:=i.ex
  have h0:=i.r0
  have h1:=i.r1
  have hs:=i.g.size
  have hw:=g.size
  have hk2:=(hk.re (rb:=rb) (w:=w) (by omega) (by omega) (by omega)).kept (gt_toB g (by omega))
  exact ⟨gt_trans i.g g (.inl rfl),h0,h1,_,_,by rw [withB_size];exact e0,by rw [withB_size];exact e1,fun j hj=>(withB_ne _ _ _ _ hj).trans (e2 j hj),hk2⟩
theorem KidR.kept (i:KidR W G1 rb base ob wr h k d p n c f y ts cs) (g:wr.grownBy w none):KidR W G1 rb base ob w h k d p n c f y ts cs :=
  i.call (gt_trans (gt_refl wr (some rb)) g (.inr (.inl rfl)))
theorem KidR.box (i:KidR W G1 rb base ob wr h k d p n c f y ts cs) {b j:Nat} {x:Value} (hb:b<base) (h1:b≠ob) (h2:b≠rb) (hx:G1.cell? ⟨b,j,none⟩=some x):wr.cell? ⟨b,j,none⟩=some x:=by
  obtain ⟨W',W1',e0,e1,e2,hk⟩:=i.ex
  exact hk.u.keep _ _ hb h1 ((World.cell?_of_block (e2 b h2)).trans hx)
theorem KidR.boxF (i:KidR W G1 rb base ob wr h k d p n c f y ts cs) {b j:Nat} {x:Bool} (hb:b<base) (h1:b≠ob) (h2:b≠rb) (hx:G1.frozen? ⟨b,j,none⟩=x):wr.frozen? ⟨b,j,none⟩=x:=by
  obtain ⟨W',W1',e0,e1,e2,hk⟩:=i.ex
  rw [hk.u.kf _ _ hb h1]
  exact (World.frozen?_of_block (e2 b h2)).trans hx
theorem KidR.o (i:KidR W G1 rb base ob wr h k d p n c f y ts cs):wr.cell? ⟨ob,0,none⟩=some (.int .i64 k)∧wr.cell? ⟨ob,1,none⟩=some (.int .i64 d)∧wr.cell? ⟨ob,2,none⟩=some (.slice p n c)∧wr.cell? ⟨ob,3,none⟩=some y∧∀ j,wr.frozen? ⟨ob,j,none⟩=false:=by
  obtain ⟨W',W1',e0,e1,e2,hk⟩:=i.ex
  exact ⟨hk.o0,hk.o1,hk.o2,hk.o3,hk.u.of_⟩
theorem KidR.size (i:KidR W G1 rb base ob wr h k d p n c f y ts cs):W.heap.size≤ob∧ob<base∧base≤wr.heap.size:=by
  obtain ⟨W',W1',e0,e1,e2,hk⟩:=i.ex
  exact ⟨by rw [←e0];exact hk.u.lo,hk.u.lt,hk.u.big⟩
theorem KidR.own (i:KidR W G1 rb base ob wr h k d p n c f y ts cs):wr.ownsRow base 33 4 y ts.length cs:=by
  obtain ⟨W',W1',e0,e1,e2,hk⟩:=i.ex
  exact hk.kr.1
theorem KidR.snoc {w1 w2 w3 w4:World} (i:KidR W G1 rb base ob wr h k d p n c f y ts cs) (g1:wr.grownBy w1 none) (g2:w1.grownBy w2 (some rb)) (g3:w2.grownBy w3 none) {c0 c1 c2 c3:Value} {t:Raw} (hk:KD (Fr w1 w2) h w2 (.agg #[c0,c1,c2,c3]) t) {gg cap:Nat}
    (hown:w4.ownsRow base 33 4 (.slice (some ⟨gg,0,none⟩) (ts.length+1) cap) (ts.length+1) (cs++[c0,c1,c2,c3])) (g4:w3.grownBy w4 y.ownBlock) (hg:y.ownBlock=some gg∨gg=w3.heap.size) :
    KidR W G1 rb base ob (w4.setCell ⟨ob,3,none⟩ (.slice (some ⟨gg,0,none⟩) (ts.length+1) cap)) h k d p n c f (.slice (some ⟨gg,0,none⟩) (ts.length+1) cap) (ts++[t]) (cs++[c0,c1,c2,c3]):=by
  obtain ⟨W',W1',e0,e1,e2,hkb⟩:=i.ex
  have h0:=i.r0
  have h1:=i.r1
  have hs:=i.g.size
  have s1:=g1.size
  have s2:=g2.size
  have hsz:=i.size
  have hk1:=hkb.re (rb:=rb) (w:=w2) (by omega) (by omega) (by omega)
  have gA:=gt_bothB (rb:=rb) (w:=w2) g1 (by omega) (by omega)
  have gB:=gt_toB g2 (by omega)
  have hk2:KD (Fr (withB w1 w2 rb) w2) h w2 (.agg #[c0,c1,c2,c3]) t:=hk.weak (fun b hb=>⟨by rw [withB_size];exact hb.1,hb.2⟩)
  have hn:=hk1.snoc gA gB g3 hk2 hown g4 hg
  have hlt:=hkb.kr.1.lt
  refine ⟨?_,h0,h1,_,_,by rw [withB_size];exact e0,by rw [withB_size];exact e1,fun j hj=>(withB_ne _ _ _ _ hj).trans (e2 j hj),hn⟩
  have gy:W.grownBy w4 (some rb):=by
    refine gt_trans (gt_trans (gt_trans (gt_trans i.g g1 (.inr (.inl rfl))) g2 (.inl rfl)) g3 (.inr (.inl rfl))) g4 ?_
    cases hx:y.ownBlock with
    | none=>exact .inr (.inl rfl)
    | some b=>exact .inr (.inr ⟨b,rfl,by have:=(hlt b hx).1;omega⟩)
  exact gt_set_r gy _ _ hsz.1
theorem KidR.end_ (i:KidR W G1 rb base ob wr h k d p n c f y ts cs) (qb:Nat) (hr:W.heap.size≤qb) (hr2:qb<base) :
    KD (Fr W ((((wr.setCell ⟨qb,0,none⟩ (.int .i64 k)).setCell ⟨qb,1,none⟩ (.int .i64 d)).setCell ⟨qb,2,none⟩ (.slice p n c)).setCell ⟨qb,3,none⟩ y)) (h+1) ((((wr.setCell ⟨qb,0,none⟩ (.int .i64 k)).setCell ⟨qb,1,none⟩ (.int .i64 d)).setCell ⟨qb,2,none⟩ (.slice p n c)).setCell ⟨qb,3,none⟩ y) (.agg #[.int .i64 k,.int .i64 d,.slice p n c,y]) (.mk k d n f ts) ∧
    W.grownBy ((((wr.setCell ⟨qb,0,none⟩ (.int .i64 k)).setCell ⟨qb,1,none⟩ (.int .i64 d)).setCell ⟨qb,2,none⟩ (.slice p n c)).setCell ⟨qb,3,none⟩ y) (some rb):=by
  obtain ⟨W',W1',e0,e1,e2,hkb⟩:=i.ex
  refine ⟨(hkb.end_ qb (by omega) hr2).1.weak (fun b hb=>⟨by have:=hb.1;omega,hb.2⟩),?_⟩
  exact gt_set_r (gt_set_r (gt_set_r (gt_set_r i.g _ _ hr) _ _ hr) _ _ hr) _ _ hr
end
end
section
open Go.RowKit
section
variable {V W w wr w2 w3 w4 G1:World} {rb base ob h:Nat} {k d:Int} {p:Option Addr} {n c:Nat} {f:Nat→Nat} {y:Value} {ts:List Raw} {cs:List Value} {l:List UInt8} {any bad great:Bool}
theorem KidR.new (g:W.grownBy w2 (some rb)) (hr:rb<W.heap.size) (h:Nat) (k d:Int):KidR W (w2.alloc (.cells #[.int .i64 k,.int .i64 d,.slice none 0 0,.slice none 0 0] 33)) rb (w2.heap.size+1) w2.heap.size (w2.alloc (.cells #[.int .i64 k,.int .i64 d,.slice none 0 0,.slice none 0 0] 33)) h k d none 0 0 (fun _=>0) (.slice none 0 0) [] []:=by
  have g':=gt_toB g hr
  have hs:=g.size
  obtain ⟨pn,cn,hx,I0⟩:=KidB.of_num (f:=fun _=>0) (n:=0) (NumB.new g' k d) h (fun _=>Nat.zero_lt_succ _)
  injection hx with hx1 hx2 hx3
  subst hx1 hx3
  exact ⟨gt_alloc_r g _,hr,by simp;omega,_,_,withB_size _ _ _,rfl,fun _ _=>rfl,I0⟩
theorem RS.app (hr:RS V w3 rb l any bad great) (O:Obj) {r:Option Nat} (g:(w3.alloc O).grownBy w4 r) (hv:∀ b,r=some b→V.heap.size≤b) (q:Addr) (hq:V.heap.size≤q.block) (x:Value):RS V (w4.setCell q x) rb l any bad great :=
  ((hr.kept (World.grownBy_alloc w3 O none)).keptR g hv).put q x hq
theorem KidR.ok (i:KidR W G1 rb base ob wr h k d p n c f y ts cs) (r:RS V wr rb l any false false) (hV:V.heap.size≤W.heap.size) (qb:Nat) (hq:qb=W.heap.size) (hb:qb<base) (t0:Raw) (ht:t0=.mk k d n f ts) (len:Nat) :
    GPost (h+1) V W rb any (.ok t0 l) len (.returned (.agg #[.int .i64 k,.int .i64 d,.slice p n c,y])) ((((wr.setCell ⟨qb,0,none⟩ (.int .i64 k)).setCell ⟨qb,1,none⟩ (.int .i64 d)).setCell ⟨qb,2,none⟩ (.slice p n c)).setCell ⟨qb,3,none⟩ y):=by
  subst hq
  obtain ⟨e1,e2⟩:=i.end_ W.heap.size (Nat.le_refl _) hb
  exact ⟨e2,_,t0,rfl,by rw [ht];exact e1,rfl,(((r.put _ _ hV).put _ _ hV).put _ _ hV).put _ _ hV⟩
theorem KidR.no (i:KidR W G1 rb base ob wr h k d p n c f y ts cs) (r:RS V wr rb l any true great) (hV:V.heap.size≤W.heap.size) (qb:Nat) (hq:qb=W.heap.size) (hb:qb<base) (len:Nat) (hl:4*(1+n+wts ts)≤len+4) :
    GPost (h+1) V W rb any (.bad great) len (.returned (.agg #[.int .i64 k,.int .i64 d,.slice p n c,y])) ((((wr.setCell ⟨qb,0,none⟩ (.int .i64 k)).setCell ⟨qb,1,none⟩ (.int .i64 d)).setCell ⟨qb,2,none⟩ (.slice p n c)).setCell ⟨qb,3,none⟩ y):=by
  subst hq
  obtain ⟨e1,e2⟩:=i.end_ W.heap.size (Nat.le_refl _) hb
  exact ⟨e2,_,_,rfl,e1,by unfold wt;exact hl,l,(((r.put _ _ hV).put _ _ hV).put _ _ hV).put _ _ hV⟩
end
theorem KD.line {W w:World} {p:Option Addr} {n c h:Nat} {f:Nat→Nat} (d:Int) (hf:FVal w p n f) (h1:n≤c) (h2:c≤maxLen) (h3:p=none→c=0) (hb:∀ a,p=some a→W.heap.size≤a.block∧a.block<w.heap.size):KD (Fr W w) (h+1) w (.agg #[.int .i64 2,.int .i64 d,.slice p n c,.slice none 0 0]) (.mk 2 d n f []) :=
  ⟨p,c,none,0,rfl,hf,h1,h2,h3,Nat.le_refl _,by decide,fun _=>rfl,(fun a ha=>by cases ha),hb,fun a ha=>by cases ha⟩
theorem FVal.none (w:World):FVal w none 0 (fun _=>0):=⟨fun h=>absurd h (by omega),(fun a ha=>by cases ha),fun _=>Nat.zero_lt_succ _⟩
theorem nums_badz (V W:World) (rb:Nat) (any big g:Bool) (l:List UInt8) (h:RS V W rb l any true g):Calls Tryz.prog 85 #[.pointer (some ⟨rb,0,none⟩),.int .i64 0,.bool big] W fun e w'=>e=.returned (.slice none 0 0)∧w'=W:=nums_bad V W rb 0 any big g l h
def CRel (big:Bool) (lk:List UInt8) (c4:Nat) (l4:List UInt8) (bd g:Bool):Prop:=(bd=false∧g=false∧rdC big lk=.ok c4 l4)∨(bd=true∧c4=0∧rdC big lk=.bad g)
theorem cnt_rel (V W:World) (rb:Nat) (any big:Bool) (l:List UInt8) (h:RS V W rb l any false false):Calls Tryz.prog 86 #[.pointer (some ⟨rb,0,none⟩),.bool big] W fun e w'=>∃ (c4:Nat) (l4:List UInt8) (bd g:Bool),e=.returned (.int .i64 c4)∧c4≤4096∧RS V w' rb l4 any bd g∧CRel big l c4 l4 bd g∧W.grownBy w' (some rb):=by
  refine (count_any V W rb any big l h).mono fun e w' ⟨hg,hm⟩=>?_
  cases hc:rdC big l with
  | ok n l4 =>
    rw [hc] at hm
    exact ⟨n,l4,false,false,hm.1,(rdC_len hc).2,hm.2,.inl ⟨rfl,rfl,hc⟩,hg⟩
  | bad g =>
    rw [hc] at hm
    obtain ⟨he,l4,hr⟩:=hm
    exact ⟨0,l4,true,g,he,by omega,hr,.inr ⟨rfl,rfl,hc⟩,hg⟩
def NRel (big:Bool) (N:Nat) (l4:List UInt8) (bd g:Bool) (m:Nat) (f:Nat→Nat) (l6:List UInt8) (bd6 g6:Bool):Prop :=
  (bd=false∧8*N≤l4.length∧m=N∧f=fOf (numsOf big N l4)∧l6=l4.drop (8*N)∧bd6=false∧g6=false)∨(bd=false∧l4.length<8*N∧8*m≤l4.length+8∧bd6=true∧g6=false)∨(bd=true∧m=0∧bd6=true∧g6=g)
theorem num_rel (V W:World) (rb N:Nat) (any big bd g:Bool) (l:List UInt8) (hN:N≤20000) (hg0:bd=false→g=false) (h:RS V W rb l any bd g):Calls Tryz.prog 85 #[.pointer (some ⟨rb,0,none⟩),.int .i64 N,.bool big] W fun e w'=>∃ (p:Option Addr) (m c:Nat) (f:Nat→Nat) (l6:List UInt8) (bd6 g6:Bool),e=.returned (.slice p m c)∧m≤c∧c≤maxLen∧(p=none→c=0)∧FVal w' p m f∧(∀ a,p=some a→W.heap.size≤a.block∧a.block<w'.heap.size)∧RS V w' rb l6 any bd6 g6∧NRel big N l bd g m f l6 bd6 g6∧W.grownBy w' (some rb):=by
  cases bd
  · obtain rfl:=hg0 rfl
    refine (nums_any V W rb N any big l hN h).mono fun e w' hp=>?_
    obtain ⟨hg,p,m,c,he,h1,h2,h3,hf,hb,hor⟩:=hp
    rcases hor with ⟨h8,hm,hr⟩ | ⟨h8,hm,l6,hr⟩
    · subst hm
      exact ⟨p,m,c,fOf (numsOf big m l),_,false,false,he,h1,h2,h3,hf.anyf (fun i hi=>fIn_eq big m l h8 i hi) (fOf_lt big m l),hb,hr,.inl ⟨rfl,h8,rfl,rfl,rfl,rfl,rfl⟩,hg⟩
    · exact ⟨p,m,c,fIn big l,l6,true,false,he,h1,h2,h3,hf,hb,hr,.inr (.inl ⟨rfl,h8,hm,rfl,rfl⟩),hg⟩
  · refine (nums_bad V W rb N any big g l h).mono fun e w' ⟨he,hw⟩=>?_
    subst hw
    exact ⟨none,0,0,fun _=>0,l,true,g,he,Nat.le_refl _,by decide,fun _=>rfl,FVal.none _,(fun a ha=>by cases ha),h,.inr (.inr ⟨rfl,rfl,rfl,rfl⟩),gt_refl _ _⟩
theorem ring_rel {big bd g bd6 g6:Bool} {lk l4 l6:List UInt8} {c4 m dm:Nat} {f:Nat→Nat} (hc:CRel big lk c4 l4 bd g) (hn:NRel big (c4*widN dm) l4 bd g m f l6 bd6 g6) :
    (bd6=false∧g6=false∧rdLine dm big lk=.ok (.mk 2 dm m f []) l6)∨(bd6=true∧rdLine dm big lk=.bad g6∧4*(1+m)≤lk.length+8):=by
  unfold CRel at hc
  unfold NRel at hn
  rcases hc with ⟨rfl,rfl,hc⟩ | ⟨rfl,rfl,hc⟩
  · have e1:=(rdC_len hc).1
    have e2:rdLine dm big lk=(rdF (c4*widN dm) big l4).bind fun ns l5=>.ok (.mk 2 dm (c4*widN dm) (fOf ns) []) l5:=by unfold rdLine;rw [hc];rfl
    rcases hn with ⟨_,h8,rfl,rfl,rfl,rfl,rfl⟩ | ⟨_,h8,hm,rfl,rfl⟩ | ⟨h,_⟩
    · refine .inl ⟨rfl,rfl,?_⟩
      rw [e2]
      unfold rdF
      rw [if_neg (by omega)]
      rfl
    · refine .inr ⟨rfl,?_,by omega⟩
      rw [e2]
      unfold rdF
      rw [if_pos h8]
      rfl
    · cases h
  · rcases hn with ⟨h,_⟩ | ⟨h,_⟩ | ⟨_,rfl,rfl,rfl⟩
    · cases h
    · cases h
    · refine .inr ⟨rfl,?_,by omega⟩
      unfold rdLine
      rw [hc]
      rfl
theorem crel_g {big bd g:Bool} {lk l4:List UInt8} {c4:Nat} (h:CRel big lk c4 l4 bd g):bd=false→g=false:=fun e=>by
  rcases h with ⟨_,h,_⟩ | ⟨h,_⟩
  · exact h
  · rw [e] at h;cases h
theorem ring_le {c4 wd:Nat} (hc:c4≤4096) (hw:wd≤4):c4*wd≤20000:=by
  have:=Nat.mul_le_mul hc hw
  omega
theorem ring_mul1 {N c4 wd:Nat} (hN:N=c4*wd) (h:N≤20000):IntKind.i64.wrap ((c4:Int)*(wd:Int))=(N:Int):=by rw [IntKind.wrap_i64,←Int.natCast_mul,←hN];omega
theorem ring_mul3 {N c4 wd:Nat} (hN:N=c4*wd):(c4:Int)*(wd:Int)=(N:Int):=by rw [←Int.natCast_mul,←hN]
theorem ring_mul4 {N:Nat} (h:N≤20000):IntKind.i64.wrap (N:Int)=(N:Int):=by rw [IntKind.wrap_i64];omega
theorem part_rel {h:Nat} {V W w':World} {rb:Nat} {any:Bool} {R:Rd Raw} {len:Nat} {e:Ending} (hp:GPost h V W rb any R len e w') :
    ∃ (k6 d6:Int) (p6:Option Addr) (n6 cap6:Nat) (q6:Option Addr) (m6 cq6:Nat) (t6:Raw) (l6:List UInt8) (bd6 g6:Bool),e=.returned (.agg #[.int .i64 k6,.int .i64 d6,.slice p6 n6 cap6,.slice q6 m6 cq6])∧KD (Fr W w') h w' (.agg #[.int .i64 k6,.int .i64 d6,.slice p6 n6 cap6,.slice q6 m6 cq6]) t6∧W.grownBy w' (some rb)∧RS V w' rb l6 any bd6 g6∧((bd6=false∧g6=false∧R=.ok t6 l6)∨(bd6=true∧R=.bad g6∧4*wt t6≤len+4)):=by
  obtain ⟨hg,v,t,he,hk,hm⟩:=hp
  obtain ⟨k6,d6,n6,f6,kids6,p6,cap6,q6,cq6,_,hv⟩:=hk.form
  cases R with
  | ok t0 l=>exact ⟨k6,d6,p6,n6,cap6,q6,_,cq6,t,l,false,false,by rw [he,hv],by rw [←hv];exact hk,hg,hm.2,.inl ⟨rfl,rfl,by rw [hm.1]⟩⟩
  | bad g =>
    obtain ⟨hw,l',hr⟩:=hm
    exact ⟨k6,d6,p6,n6,cap6,q6,_,cq6,t,l',true,g,by rw [he,hv],by rw [←hv];exact hk,hg,hr,.inr ⟨rfl,rfl,hw⟩⟩
theorem KidOf_4 (w:World):Calls Tryz.prog 43 #[.int .i64 4] w fun e w'=>e=.returned (.int .i64 1)∧w'=w:=KidOf_any 4 w
theorem KidOf_5 (w:World):Calls Tryz.prog 43 #[.int .i64 5] w fun e w'=>e=.returned (.int .i64 2)∧w'=w:=KidOf_any 5 w
theorem KidOf_6 (w:World):Calls Tryz.prog 43 #[.int .i64 6] w fun e w'=>e=.returned (.int .i64 3)∧w'=w:=KidOf_any 6 w
theorem KidOf_0 (w:World):Calls Tryz.prog 43 #[.int .i64 0] w fun e w'=>e=.returned (.int .i64 (-1))∧w'=w:=KidOf_any 0 w
end
end Go.Proofs.YtlpaecafpbbbkaaGreatDoor
