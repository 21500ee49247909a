/- Geometries of plain data under construction: their block, their numbers and their parts, which grow. -/
import Derived.Test.YtlpaecafpbbbkaaGreatDoorRCT3
set_option linter.unusedVariables false
set_option linter.unusedSimpArgs false
set_option maxRecDepth 100000
set_option maxHeartbeats 24000000
namespace Go.Proofs.YtlpaecafpbbbkaaGreatDoor
section
open Go.RowKit
structure Und (W W1:World) (base ob:Nat) (wr:World):Prop where
  g:W.grownBy wr none
  lo:W.heap.size≤ob
  lt:ob<base
  big:base≤wr.heap.size
  keep:∀ a x,a.block<base→a.block≠ob→W1.cell? a=some x→wr.cell? a=some x
  kf:∀ b j,b<base→b≠ob→wr.frozen? ⟨b,j,none⟩=W1.frozen? ⟨b,j,none⟩
  of_:∀ j,wr.frozen? ⟨ob,j,none⟩=false
section
variable {W W1 wr w w1 w2:World} {base ob:Nat}
theorem Und.start (g:W.grownBy W1 none) (lo:W.heap.size≤ob) (lt:ob<W1.heap.size) (hf:∀ j,W1.frozen? ⟨ob,j,none⟩=false):Und W W1 W1.heap.size ob W1 :=
  ⟨g,lo,lt,Nat.le_refl _,fun _ _ _ _ h=>h,fun _ _ _ _=>rfl,hf⟩
theorem Und.grow (i:Und W W1 base ob wr) {r:Option Nat} (g:wr.grownBy w r) (hr:∀ b,r=some b→base≤b):Und W W1 base ob w:=by
  have hb:=i.big
  have hlo:=i.lo
  have hlt:=i.lt
  have hne:∀ b,b<base→some b≠r:=fun b h e=>by have:=hr b e.symm;omega
  refine ⟨gt_trans i.g g ?_,i.lo,i.lt,Nat.le_trans i.big g.size,fun a x h1 h2 h3=>g.cell (i.keep a x h1 h2 h3) (hne _ h1),fun b j h1 h2=>?_,fun j=>?_⟩
  · cases hx:r with
    | none=>exact .inl rfl
    | some b=>exact .inr (.inr ⟨b,rfl,by have:=hr b hx;omega⟩)
  · rw [World.frozen?_of_block (g.block b (by omega) (hne b h1))];exact i.kf b j h1 h2
  · rw [World.frozen?_of_block (g.block ob (by omega) (hne ob hlt))];exact i.of_ j
theorem Und.kept (i:Und W W1 base ob wr) (g:wr.grownBy w none):Und W W1 base ob w:=i.grow g (fun b e=>by cases e)
theorem Und.set (i:Und W W1 base ob wr) (j:Nat) (y:Value):Und W W1 base ob (wr.setCell ⟨ob,j,none⟩ y):=by
  have hsz:(wr.setCell ⟨ob,j,none⟩ y).heap.size=wr.heap.size:=by simp [World.setCell]
  refine ⟨gt_set_r i.g _ _ i.lo,i.lo,i.lt,by rw [hsz];exact i.big,fun a x h1 h2 h3=>?_,fun b l h1 h2=>?_,fun l=>?_⟩
  · rw [World.cell?_setCell_other (h:=fun e=>by subst e;exact h2 rfl)];exact i.keep a x h1 h2 h3
  · rw [World.frozen?_setCell];exact i.kf b l h1 h2
  · rw [World.frozen?_setCell];exact i.of_ l
structure NumB (W W1:World) (base ob:Nat) (wr:World) (k d:Int) (x:Value) (n:Nat) (xs:List Value):Prop where
  u:Und W W1 base ob wr
  o0:wr.cell? ⟨ob,0,none⟩=some (.int .i64 k)
  o1:wr.cell? ⟨ob,1,none⟩=some (.int .i64 d)
  o2:wr.cell? ⟨ob,2,none⟩=some x
  o3:wr.cell? ⟨ob,3,none⟩=some (.slice none 0 0)
  own:wr.ownsRow base 26 1 x n xs
variable {k d:Int} {x:Value} {n:Nat} {xs:List Value}
theorem NumB.kept (i:NumB W W1 base ob wr k d x n xs) (g:wr.grownBy w none):NumB W W1 base ob w k d x n xs :=
  ⟨i.u.kept g,g.cell i.o0 (by simp),g.cell i.o1 (by simp),g.cell i.o2 (by simp),g.cell i.o3 (by simp),i.own.kept g (by cases x.ownBlock <;> simp)⟩
theorem NumB.app (i:NumB W W1 base ob wr k d x n xs) (g1:wr.grownBy w1 none) (g2:w1.grownBy w2 x.ownBlock) {x':Value} {n':Nat} {ys:List Value} (hown:w2.ownsRow base 26 1 x' n' ys):NumB W W1 base ob (w2.setCell ⟨ob,2,none⟩ x') k d x' n' ys:=by
  have j:=i.kept g1
  have hlt:=j.own.lt
  have hb:=j.u.lt
  have hr:∀ b,x.ownBlock=some b→base≤b:=fun b e=>(hlt b e).1
  have hne:some ob≠x.ownBlock:=fun e=>by have:=hr ob e.symm;omega
  have u2:=j.u.grow g2 hr
  have z2:=World.cell?_setCell_same (v:=x') (h:=g2.cell j.o2 hne)
  refine ⟨u2.set 2 x',?_,?_,z2,?_,hown.kept (grown_set w2 ⟨ob,2,none⟩ x') ?_⟩
  · rw [World.cell?_setCell_other (h:=by simp)];exact g2.cell j.o0 hne
  · rw [World.cell?_setCell_other (h:=by simp)];exact g2.cell j.o1 hne
  · rw [World.cell?_setCell_other (h:=by simp)];exact g2.cell j.o3 hne
  · cases hx:x'.ownBlock with
    | none=>exact .inl rfl
    | some b=>exact .inr fun e=>by injection e with e;have:=(hown.lt b hx).1;have e2:b=ob:=e;omega
def flC (f:Nat→Nat) (n:Nat):List Value:=(List.range n).map fun i=>.float .f64 (f i)
theorem flC_at (f:Nat→Nat) (n i:Nat) (h:i<n):(flC f n)[i]?=some (.float .f64 (f i)):=by simp [flC,h]
structure KidB (W W1:World) (base ob:Nat) (wr:World) (h:Nat) (k d:Int) (p:Option Addr) (n c:Nat) (f:Nat→Nat) (y:Value) (ts:List Raw) (cs:List Value):Prop where
  u:Und W W1 base ob wr
  o0:wr.cell? ⟨ob,0,none⟩=some (.int .i64 k)
  o1:wr.cell? ⟨ob,1,none⟩=some (.int .i64 d)
  o2:wr.cell? ⟨ob,2,none⟩=some (.slice p n c)
  o3:wr.cell? ⟨ob,3,none⟩=some y
  nums:FVal wr p n f
  n1:n≤c
  n2:c≤maxLen
  n3:p=none→c=0
  nb:∀ a,p=some a→base≤a.block∧a.block<wr.heap.size∧y.ownBlock≠some a.block
  kr:KRow base h wr y ts cs
theorem KidB.of_num {f:Nat→Nat} (i:NumB W W1 base ob wr k d x n (flC f n)) (h:Nat) (hf:∀ i,f i<18446744073709551616):∃ p c,x=.slice p n c∧KidB W W1 base ob wr h k d p n c f (.slice none 0 0) [] []:=by
  obtain ⟨q,c,hx,hl1,hl2,hl3,hob⟩:=own_form i.own
  subst hx
  obtain ⟨s1,s2⟩:=own_at i.own
  refine ⟨q,c,rfl,i.u,i.o0,i.o1,i.o2,i.o3,⟨s1,fun a ha j hj=>s2 a ha j _ (flC_at f n j hj),hf⟩,hl1,hl2,hl3,fun a ha=>?_,KRow.nil _ _ _⟩
  have:=i.own.lt a.block (hob a ha)
  exact ⟨this.1,this.2,by simp [Value.ownBlock]⟩
variable {p:Option Addr} {c h:Nat} {f:Nat→Nat} {y:Value} {ts:List Raw} {cs:List Value}
theorem KidB.kept (i:KidB W W1 base ob wr h k d p n c f y ts cs) (g:wr.grownBy w none):KidB W W1 base ob w h k d p n c f y ts cs :=
  ⟨i.u.kept g,g.cell i.o0 (by simp),g.cell i.o1 (by simp),g.cell i.o2 (by simp),g.cell i.o3 (by simp),i.nums.mono g,i.n1,i.n2,i.n3,fun a ha=>⟨(i.nb a ha).1,Nat.lt_of_lt_of_le (i.nb a ha).2.1 g.size,(i.nb a ha).2.2⟩,i.kr.kept g⟩
theorem KidB.snoc {w1 w2 w3 w4:World} (i:KidB W W1 base ob wr h k d p n c f y ts cs) (g1:wr.grownBy w1 none) (g2:w1.grownBy w2 none) (g3:w2.grownBy w3 none) {c0 c1 c2 c3:Value} {t:Raw} (hk:KD (Fr w1 w2) h w2 (.agg #[c0,c1,c2,c3]) t) {gg cap:Nat}
    (hown:w4.ownsRow base 33 4 (.slice (some ⟨gg,0,none⟩) (ts.length+1) cap) (ts.length+1) (cs++[c0,c1,c2,c3])) (g4:w3.grownBy w4 y.ownBlock) (hg:y.ownBlock=some gg∨gg=w3.heap.size) :
    KidB W W1 base ob (w4.setCell ⟨ob,3,none⟩ (.slice (some ⟨gg,0,none⟩) (ts.length+1) cap)) h k d p n c f (.slice (some ⟨gg,0,none⟩) (ts.length+1) cap) (ts++[t]) (cs++[c0,c1,c2,c3]):=by
  have hsn:=i.kr.snoc i.u.big g1 g2 g3 hk hown g4 hg
  have j:=((i.kept g1).kept g2).kept g3
  have hlt:=i.kr.1.lt
  have hb:=i.u.big
  have hlo:=i.u.lt
  have s1:=g1.size
  have s2:=g2.size
  have s3:=g3.size
  have s4:=g4.size
  have hr:∀ b,y.ownBlock=some b→base≤b:=fun b e=>(hlt b e).1
  have hne:some ob≠y.ownBlock:=fun e=>by have:=hr ob e.symm;omega
  have hsz:(w4.setCell ⟨ob,3,none⟩ (.slice (some ⟨gg,0,none⟩) (ts.length+1) cap)).heap.size=w4.heap.size:=by simp [World.setCell]
  have z3:=World.cell?_setCell_same (v:=.slice (some ⟨gg,0,none⟩) (ts.length+1) cap) (h:=g4.cell j.o3 hne)
  refine ⟨(j.u.grow g4 hr).set 3 _,?_,?_,?_,z3,?_,i.n1,i.n2,i.n3,?_,hsn.set (by show ob<base;omega) _⟩
  · rw [World.cell?_setCell_other (h:=by simp)];exact g4.cell j.o0 hne
  · rw [World.cell?_setCell_other (h:=by simp)];exact g4.cell j.o1 hne
  · rw [World.cell?_setCell_other (h:=by simp)];exact g4.cell j.o2 hne
  · have h1:=j.nums.keep (B:=fun b=>base≤b∧b<w3.heap.size∧y.ownBlock≠some b) (.grownRow g4 (fun b hb' hB=>hB.2.2 hb')) j.nb
    exact h1.keep (B:=fun b=>base≤b∧b<w3.heap.size∧y.ownBlock≠some b) (.set (fun hB=>by have h2:base≤ob:=hB.1;omega) _) j.nb
  · intro a ha
    obtain ⟨b1,b2,b3⟩:=j.nb a ha
    refine ⟨b1,by rw [hsz];omega,fun e=>?_⟩
    have e':gg=a.block:=by injection e
    rcases hg with hg | hg
    · exact b3 (by rw [hg,e'])
    · omega
theorem KidB.kd (i:KidB W W1 base ob wr h k d p n c f y ts cs):KD (fun b=>base≤b∧b<wr.heap.size) (h+1) wr (.agg #[.int .i64 k,.int .i64 d,.slice p n c,y]) (.mk k d n f ts) :=
  i.kr.kd i.nums i.n1 i.n2 i.n3 (fun a ha=>⟨(i.nb a ha).1,(i.nb a ha).2.1⟩) (fun _ h1 h2=>⟨h1,h2⟩)
theorem KidB.end_ (i:KidB W W1 base ob wr h k d p n c f y ts cs) (rb:Nat) (hr:W.heap.size≤rb) (hr2:rb<base) :
    KD (Fr W ((((wr.setCell ⟨rb,0,none⟩ (.int .i64 k)).setCell ⟨rb,1,none⟩ (.int .i64 d)).setCell ⟨rb,2,none⟩ (.slice p n c)).setCell ⟨rb,3,none⟩ y)) (h+1) ((((wr.setCell ⟨rb,0,none⟩ (.int .i64 k)).setCell ⟨rb,1,none⟩ (.int .i64 d)).setCell ⟨rb,2,none⟩ (.slice p n c)).setCell ⟨rb,3,none⟩ y) (.agg #[.int .i64 k,.int .i64 d,.slice p n c,y]) (.mk k d n f ts) ∧
    W.grownBy ((((wr.setCell ⟨rb,0,none⟩ (.int .i64 k)).setCell ⟨rb,1,none⟩ (.int .i64 d)).setCell ⟨rb,2,none⟩ (.slice p n c)).setCell ⟨rb,3,none⟩ y) none:=by
  have hlo:=i.u.lo
  have hlt:=i.u.lt
  have ks:∀ (w:World) (j:Nat) (y:Value),Kept (fun b=>base≤b∧b<wr.heap.size) w (w.setCell ⟨rb,j,none⟩ y):=fun w j y=>.set (fun hB=>by have h2:base≤rb:=hB.1;omega) y
  have gs:∀ (w:World) (j:Nat) (y:Value),W.grownBy w none→W.grownBy (w.setCell ⟨rb,j,none⟩ y) none:=fun w j y g=>gt_set_r g _ _ hr
  refine ⟨((((i.kd.keep (ks _ _ _)).keep (ks _ _ _)).keep (ks _ _ _)).keep (ks _ _ _)).weak fun b hb=>⟨by have:=hb.1;omega,by simp [World.setCell];exact hb.2⟩,gs _ _ _ (gs _ _ _ (gs _ _ _ (gs _ _ _ i.u.g)))⟩
end
end
end Go.Proofs.YtlpaecafpbbbkaaGreatDoor
