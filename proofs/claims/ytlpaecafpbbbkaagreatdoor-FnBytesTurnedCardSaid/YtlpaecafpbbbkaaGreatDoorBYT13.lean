/- The package's reader of well known binary: bytes in memory, its state, its small steps. The reference's reader of well known binary: its state, and a number of n bytes. An append of new elements, as one step of a region that draws its order. Geometries of plain data under construction: their block, their numbers and their parts, which grow. Points as plain data: plainPoint. The reference's reader of well known binary: counts and rows of numbers. The package's values as plain data: what is to be shown of each function. -/
import Derived.Test.YtlpaecafpbbbkaaGreatDoorShelf
import Derived.Deep.RegionHeld3
import Derived.Lib.EndianBits
import Derived.Deep.RegionLaw
import Derived.RegionTactic
import Derived.ChangeAlike
import Derived.Test.YtlpaecafpbbbkaaGreatDoorBYT1
import Derived.Test.YtlpaecafpbbbkaaGreatDoorBYT2
import Derived.Test.YtlpaecafpbbbkaaGreatDoorBYT3
import Derived.Test.YtlpaecafpbbbkaaGreatDoorBYT12
set_option linter.unusedVariables false
set_option linter.unusedSimpArgs false
set_option maxRecDepth 100000
set_option maxHeartbeats 24000000
namespace Go.Proofs.YtlpaecafpbbbkaaGreatDoor
section
open Go.RowKit
theorem gt_some {a b:World} (h:a.grownBy b none) (x:Nat):a.grownBy b (some x):=gt_trans (gt_refl a (some x)) h (.inr (.inl rfl))
structure BV (W:World) (pb:Nat) (x:Value) (l:List UInt8):Prop where
  ex:∃ p c,x=.slice p l.length c∧l.length≤c∧c≤maxLen∧(p=none→c=0)∧(0<l.length→∃ b o,p=some ⟨b,o,none⟩∧b≠pb∧∀ i u,l[i]?=some u→W.cell? ⟨b,o+i,none⟩=some (.int .u8 u.toNat))
theorem BV.grow {W w:World} {pb:Nat} {x:Value} {l:List UInt8} (h:BV W pb x l) {r:Option Nat} (g:W.grownBy w r) (hr:r=none∨r=some pb):BV w pb x l:=by
  obtain ⟨p,c,e,h1,h2,h3,h4⟩:=h.ex
  refine ⟨p,c,e,h1,h2,h3,fun h0=>?_⟩
  obtain ⟨b,o,ep,hb,hc⟩:=h4 h0
  refine ⟨b,o,ep,hb,fun i u hi=>g.cell (hc i u hi) ?_⟩
  rcases hr with rfl | rfl
  · simp
  · intro e;injection e with e;exact hb e
theorem BV.drop {W:World} {pb:Nat} {p:Option Addr} {n c:Nat} {l:List UInt8} (h:BV W pb (.slice p n c) l) (k:Nat) (hk:k≤n):BV W pb (sliced p k n c 1) (l.drop k):=by
  obtain ⟨p',c',e,h1,h2,h3,h4⟩:=h.ex
  injection e with e1 e2 e3
  subst e1 e2 e3
  unfold sliced
  by_cases hc:c=k
  · refine ⟨_,c - k,by rw [if_pos hc,List.length_drop],by rw [List.length_drop];omega,by omega,fun _=>by omega,fun h0=>?_⟩
    rw [List.length_drop] at h0
    omega
  · refine ⟨_,c - k,by rw [if_neg hc,List.length_drop],by rw [List.length_drop];omega,by omega,fun hn=>?_,fun h0=>?_⟩
    · cases p with
      | none=>have:=h3 rfl;omega
      | some a=>cases hn
    · rw [List.length_drop] at h0
      obtain ⟨b,o,ep,hb,hcl⟩:=h4 (by omega)
      refine ⟨b,o+k,by rw [ep];simp [Addr.add],hb,fun i u hi=>?_⟩
      rw [List.getElem?_drop] at hi
      rw [Nat.add_assoc]
      exact hcl _ u hi
theorem BV.cells {W:World} {pb:Nat} {p:Option Addr} {n c:Nat} {l:List UInt8} (h:BV W pb (.slice p n c) l) (h0:0<l.length):n=l.length∧∃ b o,p=some ⟨b,o,none⟩∧∀ i u,l[i]?=some u→W.cell? ⟨b,o+i,none⟩=some (.int .u8 u.toNat):=by
  obtain ⟨p',c',e,_,_,_,h4⟩:=h.ex
  injection e with e1 e2 e3
  subst e1 e2 e3
  obtain ⟨b,o,ep,_,hc⟩:=h4 h0
  exact ⟨rfl,b,o,ep,hc⟩
def bnd (V:World) (nb:Nat):Nat:=match V.heap[nb]? with
  | some (.cells xs _ _)=>xs.size
  | _=>0
structure BZ (W:World) (pb:Nat) (x:Value) (l:List UInt8):Prop where
  toBV:BV W pb x l
  low:∀ b o n c,x=.slice (some ⟨b,o,none⟩) n c→0<l.length→b<bnd W pb∧b<pb
theorem BZ.ex {W:World} {pb:Nat} {x:Value} {l:List UInt8} (h:BZ W pb x l):∃ p c,x=.slice p l.length c∧l.length≤c∧c≤maxLen∧(p=none→c=0)∧(0<l.length→∃ b o,p=some ⟨b,o,none⟩∧b≠pb∧∀ i u,l[i]?=some u→W.cell? ⟨b,o+i,none⟩=some (.int .u8 u.toNat)):=h.toBV.ex
theorem BZ.grow {W w:World} {pb:Nat} {x:Value} {l:List UInt8} (h:BZ W pb x l) {r:Option Nat} (g:W.grownBy w r) (hr:r=none∨r=some pb):BV w pb x l:=h.toBV.grow g hr
theorem BZ.drop {W:World} {pb:Nat} {p:Option Addr} {n c:Nat} {l:List UInt8} (h:BZ W pb (.slice p n c) l) (k:Nat) (hk:k≤n):BZ W pb (sliced p k n c 1) (l.drop k):=by
  refine ⟨h.toBV.drop k hk,fun b o n' c' e h0=>?_⟩
  rw [List.length_drop] at h0
  obtain ⟨p',c'',e0,e2,_,_,h4⟩:=h.ex
  injection e0 with e0 e1 e3
  subst e0 e3
  have hl0:0<l.length:=by omega
  obtain ⟨b0,o0,ep,_⟩:=h4 hl0
  have hl:=h.low b0 o0 n c (by rw [ep]) hl0
  unfold sliced at e
  injection e with e4 e5 e6
  have hck:c≠k:=by omega
  rw [if_neg hck,ep] at e4
  unfold Addr.add at e4
  have e7:=congrArg (fun a:Option Addr=>(a.map Addr.block).getD 0) e4
  have e8:∀ k:Nat,(if k=0 then (⟨b0,o0,none⟩ : Addr) else ⟨b0,o0+k,none⟩).block=b0:=fun k=>by split <;> rfl
  have e9:b0=b:=by simpa [e8] using e7
  rw [←e9]
  exact hl
theorem BZ.cells {W:World} {pb:Nat} {p:Option Addr} {n c:Nat} {l:List UInt8} (h:BZ W pb (.slice p n c) l) (h0:0<l.length):n=l.length∧∃ b o,p=some ⟨b,o,none⟩∧∀ i u,l[i]?=some u→W.cell? ⟨b,o+i,none⟩=some (.int .u8 u.toNat):=h.toBV.cells h0
structure WP (V W:World) (pb:Nat) (l:List UInt8) (o:Nat) (no:Bool):Prop where
  g:V.grownBy W (some pb)
  blt:pb<V.heap.size
  x:∃ x,W.cell? ⟨pb,0,none⟩=some x∧BZ V pb x l
  c1:W.cell? ⟨pb,1,none⟩=some (.int .u8 o)
  c2:W.cell? ⟨pb,2,none⟩=some (.bool no)
  fz:∀ j,W.frozen? ⟨pb,j,none⟩=false
theorem WP.lt {V W:World} {pb:Nat} {l:List UInt8} {o:Nat} {no:Bool} (h:WP V W pb l o no):pb<W.heap.size:=World.block_lt_of_cell? W _ h.c1
theorem WP.kept {V W w:World} {pb:Nat} {l:List UInt8} {o:Nat} {no:Bool} (h:WP V W pb l o no) (g:W.grownBy w none):WP V w pb l o no:=by
  have hb:=g.block pb h.lt (by simp)
  obtain ⟨x,hx,hv⟩:=h.x
  exact ⟨gt_trans h.g g (.inr (.inl rfl)),h.blt,⟨x,g.cell hx (by simp),hv⟩,g.cell h.c1 (by simp),g.cell h.c2 (by simp),fun j=>by rw [World.frozen?_of_block hb];exact h.fz j⟩
theorem WP.set {V W:World} {pb:Nat} {l l':List UInt8} {o:Nat} {no:Bool} {x:Value} (h:WP V W pb l o no) (hx:BZ V pb x l'):WP V (W.setCell ⟨pb,0,none⟩ x) pb l' o no∧W.grownBy (W.setCell ⟨pb,0,none⟩ x) (some pb):=by
  obtain ⟨x0,h0,_⟩:=h.x
  have g:=grown_set W ⟨pb,0,none⟩ x
  refine ⟨⟨gt_trans h.g g (.inl rfl),h.blt,⟨x,World.cell?_setCell_same (v:=x) (h:=h0),hx⟩,?_,?_,fun j=>?_⟩,g⟩
  · rw [World.cell?_setCell_other (h:=by simp)];exact h.c1
  · rw [World.cell?_setCell_other (h:=by simp)];exact h.c2
  · rw [World.frozen?_setCell];exact h.fz j
theorem WP.put {V W:World} {pb:Nat} {l:List UInt8} {o:Nat} {no:Bool} (h:WP V W pb l o no) (q:Addr) (y:Value) (hq:V.heap.size≤q.block):WP V (W.setCell q y) pb l o no:=by
  have hne:∀ j,q≠⟨pb,j,none⟩:=fun j e=>by have h1:=h.blt;rw [e] at hq;have h2:V.heap.size≤pb:=hq;omega
  have hne':∀ j,(⟨pb,j,none⟩ : Addr)≠q:=fun j e=>hne j e.symm
  obtain ⟨x0,h0,hv⟩:=h.x
  refine ⟨gt_set_r h.g _ _ hq,h.blt,⟨x0,?_,hv⟩,?_,?_,fun j=>?_⟩
  · rw [World.cell?_setCell_other (h:=by first | exact hne' _ | exact hne _)];exact h0
  · rw [World.cell?_setCell_other (h:=by first | exact hne' _ | exact hne _)];exact h.c1
  · rw [World.cell?_setCell_other (h:=by first | exact hne' _ | exact hne _)];exact h.c2
  · rw [World.frozen?_setCell];exact h.fz j
theorem readByte_nil (V W:World) (pb o:Nat) (no:Bool) (h:WP V W pb [] o no):Calls Tryz.prog 197 #[.pointer (some ⟨pb,0,none⟩)] W fun e w'=>(∃ ty x,e=.returned (.tuple #[.int .u8 0,.iface ty x]))∧W.grownBy w' (some pb):=by
  obtain ⟨x,hx,hv⟩:=h.x
  obtain ⟨p,c,rfl,_⟩:=hv.ex
  clear hv h
  go_enter Tryz.func197,Tryz.ntmps197
  go_wp2_with fail
  go_ret2
  exact ⟨⟨_,_,rfl⟩,gt_refl _ _⟩
theorem readByte_cons (V W:World) (pb o:Nat) (no:Bool) (b:UInt8) (l:List UInt8) (h:WP V W pb (b::l) o no):Calls Tryz.prog 197 #[.pointer (some ⟨pb,0,none⟩)] W fun e w'=>e=.returned (.tuple #[.int .u8 b.toNat,.nilIface])∧WP V w' pb l o no∧W.grownBy w' (some pb):=by
  obtain ⟨x,hx,hv⟩:=h.x
  obtain ⟨p,c,rfl,h1,h2,h3,h4⟩:=hv.ex
  have hd:=hv.drop 1 (by simp)
  obtain ⟨pd,nd,cd,hxd⟩ : ∃ pd nd cd,sliced p 1 (b::l).length c 1=.slice pd nd cd:=⟨_,_,_,rfl⟩
  rw [hxd] at hd
  have hset:=Lib.hid (h.set (x:=.slice pd nd cd) (l':=l) hd)
  obtain ⟨_,bb,oo,rfl,hc⟩:=(hv.grow h.g (.inr rfl)).cells (by simp)
  have hc0:=hc 0 b rfl
  rw [Nat.add_zero] at hc0
  have hsl:∀ w,(Instr.slice 39 (.slice (some ⟨bb,oo,none⟩) (b::l).length c) (some (.int .i64 1)) none none).run Tryz.prog w=.ok (.slice pd nd cd) w:=fun w=>by
    rw [run_slice_l _ _ _ _ _ Tryz.underlying39 .i64 1 (by decide) (by simp;omega),←hxd]
    rfl
  have hf:=h.fz 0
  have hlen:0<(b::l).length:=by simp
  obtain ⟨n,hn⟩ : ∃ n,n=(b::l).length:=⟨_,rfl⟩
  rw [←hn] at hx hlen h1
  simp only [←hn] at hsl
  clear hv h hxd hd hc h3 h4 hn
  go_enter Tryz.func197,Tryz.ntmps197
  go_wp2_with fail
  go_ret2
  exact ⟨rfl,hset.out.1,hset.out.2⟩
end
section
open Go.RowKit
structure RS (V W:World) (rb:Nat) (l:List UInt8) (any bad great:Bool):Prop where
  g:V.grownBy W (some rb)
  blt:rb<V.heap.size
  x:∃ x,W.cell? ⟨rb,0,none⟩=some x∧BV V rb x l
  c1:W.cell? ⟨rb,1,none⟩=some (.bool any)
  c2:W.cell? ⟨rb,2,none⟩=some (.bool bad)
  c3:W.cell? ⟨rb,3,none⟩=some (.bool great)
  fz:∀ j,W.frozen? ⟨rb,j,none⟩=false
section
variable {V W w:World} {rb:Nat} {l l':List UInt8} {any bad great:Bool}
theorem RS.lt (h:RS V W rb l any bad great):rb<W.heap.size:=World.block_lt_of_cell? W _ h.c1
theorem RS.keptR (h:RS V W rb l any bad great) {r:Option Nat} (g:W.grownBy w r) (hr:∀ b,r=some b→V.heap.size≤b):RS V w rb l any bad great:=by
  have hblt:=h.blt
  have hne:some rb≠r:=fun e=>by have:=hr rb e.symm;omega
  have hb:=g.block rb h.lt hne
  obtain ⟨x,hx,hv⟩:=h.x
  refine ⟨gt_trans h.g g ?_,h.blt,⟨x,g.cell hx hne,hv⟩,g.cell h.c1 hne,g.cell h.c2 hne,g.cell h.c3 hne,fun j=>by rw [World.frozen?_of_block hb];exact h.fz j⟩
  cases hr':r with
  | none=>exact .inr (.inl rfl)
  | some b=>exact .inr (.inr ⟨b,rfl,hr b hr'⟩)
theorem RS.kept (h:RS V W rb l any bad great) (g:W.grownBy w none):RS V w rb l any bad great:=h.keptR g (fun b e=>by cases e)
theorem RS.set (h:RS V W rb l any bad great) {x:Value} (hx:BV V rb x l'):RS V (W.setCell ⟨rb,0,none⟩ x) rb l' any bad great∧W.grownBy (W.setCell ⟨rb,0,none⟩ x) (some rb):=by
  obtain ⟨x0,h0,_⟩:=h.x
  have g:=grown_set W ⟨rb,0,none⟩ x
  refine ⟨⟨gt_trans h.g g (.inl rfl),h.blt,⟨x,World.cell?_setCell_same (v:=x) (h:=h0),hx⟩,?_,?_,?_,fun j=>?_⟩,g⟩
  · rw [World.cell?_setCell_other (h:=by simp)];exact h.c1
  · rw [World.cell?_setCell_other (h:=by simp)];exact h.c2
  · rw [World.cell?_setCell_other (h:=by simp)];exact h.c3
  · rw [World.frozen?_setCell];exact h.fz j
theorem RS.fail (h:RS V W rb l any bad great):RS V (W.setCell ⟨rb,2,none⟩ (.bool true)) rb l any true great∧W.grownBy (W.setCell ⟨rb,2,none⟩ (.bool true)) (some rb):=by
  have g:=grown_set W ⟨rb,2,none⟩ (.bool true)
  obtain ⟨x0,h0,hv⟩:=h.x
  refine ⟨⟨gt_trans h.g g (.inl rfl),h.blt,⟨x0,?_,hv⟩,?_,World.cell?_setCell_same (v:=.bool true) (h:=h.c2),?_,fun j=>?_⟩,g⟩
  · rw [World.cell?_setCell_other (h:=by simp)];exact h0
  · rw [World.cell?_setCell_other (h:=by simp)];exact h.c1
  · rw [World.cell?_setCell_other (h:=by simp)];exact h.c3
  · rw [World.frozen?_setCell];exact h.fz j
theorem RS.tooBig (h:RS V W rb l any bad great):RS V ((W.setCell ⟨rb,2,none⟩ (.bool true)).setCell ⟨rb,3,none⟩ (.bool true)) rb l any true true∧W.grownBy ((W.setCell ⟨rb,2,none⟩ (.bool true)).setCell ⟨rb,3,none⟩ (.bool true)) (some rb):=by
  obtain ⟨k,g⟩:=h.fail
  have g2:=grown_set (W.setCell ⟨rb,2,none⟩ (.bool true)) ⟨rb,3,none⟩ (.bool true)
  obtain ⟨x0,h0,hv⟩:=k.x
  refine ⟨⟨gt_trans k.g g2 (.inl rfl),h.blt,⟨x0,?_,hv⟩,?_,?_,World.cell?_setCell_same (v:=.bool true) (h:=k.c3),fun j=>?_⟩,gt_trans g g2 (.inl rfl)⟩
  · rw [World.cell?_setCell_other (h:=by simp)];exact h0
  · rw [World.cell?_setCell_other (h:=by simp)];exact k.c1
  · rw [World.cell?_setCell_other (h:=by simp)];exact k.c2
  · rw [World.frozen?_setCell];exact k.fz j
theorem RS.put (h:RS V W rb l any bad great) (q:Addr) (y:Value) (hq:V.heap.size≤q.block):RS V (W.setCell q y) rb l any bad great :=
  h.keptR (grown_set W q y) (fun b e=>by injection e with e;omega)
end
theorem leNat_snoc:∀ (l:List UInt8) (b:UInt8),Lib.leNat (l++[b])=Lib.leNat l+b.toNat*256 ^ l.length
  | [],b=>by simp [Lib.leNat]
  | a::l,b=>by
    show a.toNat+256*Lib.leNat (l++[b])=a.toNat+256*Lib.leNat l+_
    rw [leNat_snoc l b,List.length_cons,Nat.pow_succ,Nat.mul_add,Nat.add_assoc]
    congr 2
    rw [Nat.mul_comm 256 (b.toNat*_),Nat.mul_assoc]
theorem beNat_snoc (l:List UInt8) (b:UInt8):Lib.beNat (l++[b])=Lib.beNat l*256+b.toNat:=by
  have key:∀ (l:List UInt8) (a:Nat),Lib.beFrom a (l++[b])=Lib.beFrom a l*256+b.toNat:=by
    intro l
    induction l with
    | nil=>intro a;rfl
    | cons c l ih=>intro a;exact ih _
  exact key l 0
theorem take_snoc (l:List UInt8) (k:Nat) (b:UInt8) (h:l[k]?=some b):l.take (k+1)=l.take k++[b]:=by
  obtain ⟨hlt,rfl⟩:=List.getElem?_eq_some_iff.1 h
  rw [List.take_succ_eq_append_getElem hlt]
theorem numL_be (l:List UInt8) (k:Nat) (b:UInt8) (h:l[k]?=some b):numL true (l.take (k+1))=numL true (l.take k)*256+b.toNat:=by
  rw [take_snoc l k b h];exact beNat_snoc _ _
theorem numL_le (l:List UInt8) (k:Nat) (b:UInt8) (h:l[k]?=some b):numL false (l.take (k+1))=numL false (l.take k)+b.toNat*256 ^ k:=by
  have hlt:=(List.getElem?_eq_some_iff.1 h).1
  rw [take_snoc l k b h]
  have:=leNat_snoc (l.take k) b
  rw [List.length_take,Nat.min_eq_left (by omega)] at this
  exact this
theorem uint_bad (V W:World) (rb n:Nat) (any bad great big:Bool) (l:List UInt8) (hb:bad=true∨l.length<n) (h:RS V W rb l any bad great):Calls Tryz.prog 84 #[.pointer (some ⟨rb,0,none⟩),.int .i64 n,.bool big] W fun e w'=>e=.returned (.int .u64 0)∧RS V w' rb l any true great∧W.grownBy w' (some rb):=by
  have HF:=Lib.hid h.fail
  obtain ⟨x,hx,hv⟩:=h.x
  obtain ⟨p,c,rfl,_⟩:=hv.ex
  have c2:=h.c2
  have f2:=h.fz 2
  cases bad
  · have hl:l.length<n:=by simpa using hb
    generalize l.length=m at hx hl
    have hlt:(m:Int)<(n:Int):=by omega
    clear hv h hb hl
    go_enter Tryz.func84,Tryz.ntmps84
    go_wp2_with fail
    go_ret
    exact ⟨rfl,HF.out.1,HF.out.2⟩
  · clear hv h hb
    go_enter Tryz.func84,Tryz.ntmps84
    go_wp2_with fail
    go_ret
    exact ⟨rfl,HF.out.1,HF.out.2⟩
end
section
open Go.RowKit
section
variable {e size base:Nat} {w0 W:World} {v0 v:Value} {n:Nat} {xs:List Value}
variable {P:Program} {ops:Array Oper} {o:Oper} {a:Act} {K:Act→World→Prop} {Q:Exit→Act→World→Prop} {E:Prop}
theorem app_cells2_step (hgd:o.guard=none) (s x:Operand) (t:TypeId) (ho:o.op=.call { callee:=.builtin .append,args:=#[s,x],argTypes:=#[t,t] })
    (ht:P.underlying t=some (.slice e)) (z:Value) (bytes:Nat) (hinfo:(P.info? e).map (fun i=>(i.zero,i.size,i.bytes))=some (some z,size,bytes)) (hzs:z.cells.size=size) (hsz:0<size)
    (hs:a.eval s=v) {k m c:Nat} (hx:a.eval x=.slice (some ⟨k,0,none⟩) m c) (hk:k=W.heap.size) (cs:Array Value) (hown:(W.alloc (.cells cs e)).ownsRow base e size v n xs) (hcl:cs.size=m*size) (h1:∀ u ∈ cs.toList,u.oneCell'=true)
    (hm:0<m) (hbase:base≤(W.alloc (.cells cs e)).heap.size) (hl:(n+m)*bytes≤140737488355328) (hl2:n+m≤140737488355328)
    (h:∀ g cap w',w'.ownsRow base e size (.slice (some ⟨g,0,none⟩) (n+m) cap) (n+m) (xs++cs.toList)→(W.alloc (.cells cs e)).grownBy w' v.ownBlock→(v.ownBlock=some g∨g=(W.alloc (.cells cs e)).heap.size)→K (a.put o.dst (.slice (some ⟨g,0,none⟩) (n+m) cap)) w') :
    if Region.wanted o (yielded ops a.tmps)=true then Oper.wp P o a (W.alloc (.cells cs e)) K Q else E:=by
  have hw:Region.wanted o (yielded ops a.tmps)=true:=by simp [Region.wanted,hgd]
  rw [if_pos hw]
  subst hk
  obtain ⟨i0,hi,hzz⟩:=Option.map_eq_some_iff.1 hinfo
  simp only [Prod.mk.injEq] at hzz
  obtain ⟨hz0,hz1,hz2⟩:=hzz
  obtain ⟨v',w',hr,r1,r2,_,r4⟩:=run_append_own_at (P:=P) (W.alloc (.cells cs e)) base t o.type e i0 z size bytes ht hi hz0 hz1 hz2 hzs hsz v n xs hown ⟨W.heap.size,0,none⟩ m c cs.toList (by simpa using hcl)
    (fun j u hj=>by
      by_cases h0:j=0
      · subst h0;simp [Addr.add];simpa using hj
      · simp [Addr.add,h0];simpa using hj) h1 (by simp only [maxLen];omega) hl hbase
  unfold Oper.wp execOp
  simp only [ho,resolve,invoke,builtin,Sem.run_bind,Sem.run_pure,Result.andThen_ok,List.map_toArray,List.map_cons,List.map_nil,hs,hx,hr]
  rcases r1.2 with ⟨_,h0⟩ | ⟨g,cap,cur,rfl,hrest⟩
  · omega
  · have hob:(Value.slice (some ⟨g,0,none⟩) (n+m) cap).ownBlock=some g:=rfl
    rw [hob] at r4
    refine h g cap w' r1 r2 ?_
    rcases r4 with hat | hat
    · exact .inl hat.symm
    · injection hat with hat;exact .inr hat
theorem AppV.set (h:AppV e size base w0 v0 W v n xs) {q:Addr} (hq:w0.heap.size≤q.block) (hv:v.ownBlock≠some q.block) (y:Value):AppV e size base w0 v0 (W.setCell q y) v n xs:=by
  refine ⟨h.own.kept (grown_set W q y) ?_,gt_set_r h.grown _ _ hq,h.at_⟩
  cases hx:v.ownBlock with
  | none=>exact .inl rfl
  | some b=>exact .inr fun e=>hv (by rw [hx,e])
end
end
section
open Go.RowKit
structure Und (W W1:World) (base ob:Nat) (wr:World):Prop where
  g:W.grownBy wr none
  lo:W.heap.size≤ob
  lt:ob<base
  big:base≤wr.heap.size
  keep:∀ a x,a.block<base→a.block≠ob→W1.cell? a=some x→wr.cell? a=some x
  kf:∀ b j,b<base→b≠ob→wr.frozen? ⟨b,j,none⟩=W1.frozen? ⟨b,j,none⟩
  of_:∀ j,wr.frozen? ⟨ob,j,none⟩=false
section
variable {W W1 wr w w1 w2:World} {base ob:Nat}
theorem Und.start (g:W.grownBy W1 none) (lo:W.heap.size≤ob) (lt:ob<W1.heap.size) (hf:∀ j,W1.frozen? ⟨ob,j,none⟩=false):Und W W1 W1.heap.size ob W1 :=
  ⟨g,lo,lt,Nat.le_refl _,fun _ _ _ _ h=>h,fun _ _ _ _=>rfl,hf⟩
theorem Und.grow (i:Und W W1 base ob wr) {r:Option Nat} (g:wr.grownBy w r) (hr:∀ b,r=some b→base≤b):Und W W1 base ob w:=by
  have hb:=i.big
  have hlo:=i.lo
  have hlt:=i.lt
  have hne:∀ b,b<base→some b≠r:=fun b h e=>by have:=hr b e.symm;omega
  refine ⟨gt_trans i.g g ?_,i.lo,i.lt,Nat.le_trans i.big g.size,fun a x h1 h2 h3=>g.cell (i.keep a x h1 h2 h3) (hne _ h1),fun b j h1 h2=>?_,fun j=>?_⟩
  · cases hx:r with
    | none=>exact .inl rfl
    | some b=>exact .inr (.inr ⟨b,rfl,by have:=hr b hx;omega⟩)
  · rw [World.frozen?_of_block (g.block b (by omega) (hne b h1))];exact i.kf b j h1 h2
  · rw [World.frozen?_of_block (g.block ob (by omega) (hne ob hlt))];exact i.of_ j
theorem Und.kept (i:Und W W1 base ob wr) (g:wr.grownBy w none):Und W W1 base ob w:=i.grow g (fun b e=>by cases e)
theorem Und.set (i:Und W W1 base ob wr) (j:Nat) (y:Value):Und W W1 base ob (wr.setCell ⟨ob,j,none⟩ y):=by
  have hsz:(wr.setCell ⟨ob,j,none⟩ y).heap.size=wr.heap.size:=by simp [World.setCell]
  refine ⟨gt_set_r i.g _ _ i.lo,i.lo,i.lt,by rw [hsz];exact i.big,fun a x h1 h2 h3=>?_,fun b l h1 h2=>?_,fun l=>?_⟩
  · rw [World.cell?_setCell_other (h:=fun e=>by subst e;exact h2 rfl)];exact i.keep a x h1 h2 h3
  · rw [World.frozen?_setCell];exact i.kf b l h1 h2
  · rw [World.frozen?_setCell];exact i.of_ l
structure NumB (W W1:World) (base ob:Nat) (wr:World) (k d:Int) (x:Value) (n:Nat) (xs:List Value):Prop where
  u:Und W W1 base ob wr
  o0:wr.cell? ⟨ob,0,none⟩=some (.int .i64 k)
  o1:wr.cell? ⟨ob,1,none⟩=some (.int .i64 d)
  o2:wr.cell? ⟨ob,2,none⟩=some x
  o3:wr.cell? ⟨ob,3,none⟩=some (.slice none 0 0)
  own:wr.ownsRow base 26 1 x n xs
variable {k d:Int} {x:Value} {n:Nat} {xs:List Value}
theorem NumB.kept (i:NumB W W1 base ob wr k d x n xs) (g:wr.grownBy w none):NumB W W1 base ob w k d x n xs :=
  ⟨i.u.kept g,g.cell i.o0 (by simp),g.cell i.o1 (by simp),g.cell i.o2 (by simp),g.cell i.o3 (by simp),i.own.kept g (by cases x.ownBlock <;> simp)⟩
theorem NumB.app (i:NumB W W1 base ob wr k d x n xs) (g1:wr.grownBy w1 none) (g2:w1.grownBy w2 x.ownBlock) {x':Value} {n':Nat} {ys:List Value} (hown:w2.ownsRow base 26 1 x' n' ys):NumB W W1 base ob (w2.setCell ⟨ob,2,none⟩ x') k d x' n' ys:=by
  have j:=i.kept g1
  have hlt:=j.own.lt
  have hb:=j.u.lt
  have hr:∀ b,x.ownBlock=some b→base≤b:=fun b e=>(hlt b e).1
  have hne:some ob≠x.ownBlock:=fun e=>by have:=hr ob e.symm;omega
  have u2:=j.u.grow g2 hr
  have z2:=World.cell?_setCell_same (v:=x') (h:=g2.cell j.o2 hne)
  refine ⟨u2.set 2 x',?_,?_,z2,?_,hown.kept (grown_set w2 ⟨ob,2,none⟩ x') ?_⟩
  · rw [World.cell?_setCell_other (h:=by simp)];exact g2.cell j.o0 hne
  · rw [World.cell?_setCell_other (h:=by simp)];exact g2.cell j.o1 hne
  · rw [World.cell?_setCell_other (h:=by simp)];exact g2.cell j.o3 hne
  · cases hx:x'.ownBlock with
    | none=>exact .inl rfl
    | some b=>exact .inr fun e=>by injection e with e;have:=(hown.lt b hx).1;have e2:b=ob:=e;omega
def flC (f:Nat→Nat) (n:Nat):List Value:=(List.range n).map fun i=>.float .f64 (f i)
theorem flC_len (f:Nat→Nat) (n:Nat):(flC f n).length=n:=by simp [flC]
theorem flC_at (f:Nat→Nat) (n i:Nat) (h:i<n):(flC f n)[i]?=some (.float .f64 (f i)):=by simp [flC,h]
structure KidB (W W1:World) (base ob:Nat) (wr:World) (h:Nat) (k d:Int) (p:Option Addr) (n c:Nat) (f:Nat→Nat) (y:Value) (ts:List Raw) (cs:List Value):Prop where
  u:Und W W1 base ob wr
  o0:wr.cell? ⟨ob,0,none⟩=some (.int .i64 k)
  o1:wr.cell? ⟨ob,1,none⟩=some (.int .i64 d)
  o2:wr.cell? ⟨ob,2,none⟩=some (.slice p n c)
  o3:wr.cell? ⟨ob,3,none⟩=some y
  nums:FVal wr p n f
  n1:n≤c
  n2:c≤maxLen
  n3:p=none→c=0
  nb:∀ a,p=some a→base≤a.block∧a.block<wr.heap.size∧y.ownBlock≠some a.block
  kr:KRow base h wr y ts cs
theorem KidB.of_num {f:Nat→Nat} (i:NumB W W1 base ob wr k d x n (flC f n)) (h:Nat) (hf:∀ i,f i<18446744073709551616):∃ p c,x=.slice p n c∧KidB W W1 base ob wr h k d p n c f (.slice none 0 0) [] []:=by
  obtain ⟨q,c,hx,hl1,hl2,hl3,hob⟩:=own_form i.own
  subst hx
  obtain ⟨s1,s2⟩:=own_at i.own
  refine ⟨q,c,rfl,i.u,i.o0,i.o1,i.o2,i.o3,⟨s1,fun a ha j hj=>s2 a ha j _ (flC_at f n j hj),hf⟩,hl1,hl2,hl3,fun a ha=>?_,KRow.nil _ _ _⟩
  have:=i.own.lt a.block (hob a ha)
  exact ⟨this.1,this.2,by simp [Value.ownBlock]⟩
variable {p:Option Addr} {c h:Nat} {f:Nat→Nat} {y:Value} {ts:List Raw} {cs:List Value}
theorem KidB.kept (i:KidB W W1 base ob wr h k d p n c f y ts cs) (g:wr.grownBy w none):KidB W W1 base ob w h k d p n c f y ts cs :=
  ⟨i.u.kept g,g.cell i.o0 (by simp),g.cell i.o1 (by simp),g.cell i.o2 (by simp),g.cell i.o3 (by simp),i.nums.mono g,i.n1,i.n2,i.n3,fun a ha=>⟨(i.nb a ha).1,Nat.lt_of_lt_of_le (i.nb a ha).2.1 g.size,(i.nb a ha).2.2⟩,i.kr.kept g⟩
theorem KidB.snoc {w1 w2 w3 w4:World} (i:KidB W W1 base ob wr h k d p n c f y ts cs) (g1:wr.grownBy w1 none) (g2:w1.grownBy w2 none) (g3:w2.grownBy w3 none) {c0 c1 c2 c3:Value} {t:Raw} (hk:KD (Fr w1 w2) h w2 (.agg #[c0,c1,c2,c3]) t) {gg cap:Nat}
    (hown:w4.ownsRow base 33 4 (.slice (some ⟨gg,0,none⟩) (ts.length+1) cap) (ts.length+1) (cs++[c0,c1,c2,c3])) (g4:w3.grownBy w4 y.ownBlock) (hg:y.ownBlock=some gg∨gg=w3.heap.size) :
    KidB W W1 base ob (w4.setCell ⟨ob,3,none⟩ (.slice (some ⟨gg,0,none⟩) (ts.length+1) cap)) h k d p n c f (.slice (some ⟨gg,0,none⟩) (ts.length+1) cap) (ts++[t]) (cs++[c0,c1,c2,c3]):=by
  have hsn:=i.kr.snoc i.u.big g1 g2 g3 hk hown g4 hg
  have j:=((i.kept g1).kept g2).kept g3
  have hlt:=i.kr.1.lt
  have hb:=i.u.big
  have hlo:=i.u.lt
  have s1:=g1.size
  have s2:=g2.size
  have s3:=g3.size
  have s4:=g4.size
  have hr:∀ b,y.ownBlock=some b→base≤b:=fun b e=>(hlt b e).1
  have hne:some ob≠y.ownBlock:=fun e=>by have:=hr ob e.symm;omega
  have hsz:(w4.setCell ⟨ob,3,none⟩ (.slice (some ⟨gg,0,none⟩) (ts.length+1) cap)).heap.size=w4.heap.size:=by simp [World.setCell]
  have z3:=World.cell?_setCell_same (v:=.slice (some ⟨gg,0,none⟩) (ts.length+1) cap) (h:=g4.cell j.o3 hne)
  refine ⟨(j.u.grow g4 hr).set 3 _,?_,?_,?_,z3,?_,i.n1,i.n2,i.n3,?_,hsn.set (by show ob<base;omega) _⟩
  · rw [World.cell?_setCell_other (h:=by simp)];exact g4.cell j.o0 hne
  · rw [World.cell?_setCell_other (h:=by simp)];exact g4.cell j.o1 hne
  · rw [World.cell?_setCell_other (h:=by simp)];exact g4.cell j.o2 hne
  · have h1:=j.nums.keep (B:=fun b=>base≤b∧b<w3.heap.size∧y.ownBlock≠some b) (.grownRow g4 (fun b hb' hB=>hB.2.2 hb')) j.nb
    exact h1.keep (B:=fun b=>base≤b∧b<w3.heap.size∧y.ownBlock≠some b) (.set (fun hB=>by have h2:base≤ob:=hB.1;omega) _) j.nb
  · intro a ha
    obtain ⟨b1,b2,b3⟩:=j.nb a ha
    refine ⟨b1,by rw [hsz];omega,fun e=>?_⟩
    have e':gg=a.block:=by injection e
    rcases hg with hg | hg
    · exact b3 (by rw [hg,e'])
    · omega
theorem KidB.kd (i:KidB W W1 base ob wr h k d p n c f y ts cs):KD (fun b=>base≤b∧b<wr.heap.size) (h+1) wr (.agg #[.int .i64 k,.int .i64 d,.slice p n c,y]) (.mk k d n f ts) :=
  i.kr.kd i.nums i.n1 i.n2 i.n3 (fun a ha=>⟨(i.nb a ha).1,(i.nb a ha).2.1⟩) (fun _ h1 h2=>⟨h1,h2⟩)
theorem KidB.end_ (i:KidB W W1 base ob wr h k d p n c f y ts cs) (rb:Nat) (hr:W.heap.size≤rb) (hr2:rb<base) :
    KD (Fr W ((((wr.setCell ⟨rb,0,none⟩ (.int .i64 k)).setCell ⟨rb,1,none⟩ (.int .i64 d)).setCell ⟨rb,2,none⟩ (.slice p n c)).setCell ⟨rb,3,none⟩ y)) (h+1) ((((wr.setCell ⟨rb,0,none⟩ (.int .i64 k)).setCell ⟨rb,1,none⟩ (.int .i64 d)).setCell ⟨rb,2,none⟩ (.slice p n c)).setCell ⟨rb,3,none⟩ y) (.agg #[.int .i64 k,.int .i64 d,.slice p n c,y]) (.mk k d n f ts) ∧
    W.grownBy ((((wr.setCell ⟨rb,0,none⟩ (.int .i64 k)).setCell ⟨rb,1,none⟩ (.int .i64 d)).setCell ⟨rb,2,none⟩ (.slice p n c)).setCell ⟨rb,3,none⟩ y) none:=by
  have hlo:=i.u.lo
  have hlt:=i.u.lt
  have ks:∀ (w:World) (j:Nat) (y:Value),Kept (fun b=>base≤b∧b<wr.heap.size) w (w.setCell ⟨rb,j,none⟩ y):=fun w j y=>.set (fun hB=>by have h2:base≤rb:=hB.1;omega) y
  have gs:∀ (w:World) (j:Nat) (y:Value),W.grownBy w none→W.grownBy (w.setCell ⟨rb,j,none⟩ y) none:=fun w j y g=>gt_set_r g _ _ hr
  refine ⟨((((i.kd.keep (ks _ _ _)).keep (ks _ _ _)).keep (ks _ _ _)).keep (ks _ _ _)).weak fun b hb=>⟨by have:=hb.1;omega,by simp [World.setCell];exact hb.2⟩,gs _ _ _ (gs _ _ _ (gs _ _ _ (gs _ _ _ i.u.g)))⟩
end
end
section
open Go.RowKit
theorem PtCo_any (x y z m r:Nat) (b:Bool) (W:World):Calls Tryz.prog 141 #[.agg #[.float .f64 x,.float .f64 y,.float .f64 z,.float .f64 m,.int .u8 r,.bool b]] W fun e w'=>e=.returned (.tuple #[.agg #[.float .f64 x,.float .f64 y,.float .f64 z,.float .f64 m,.int .u8 r],.bool b])∧W.grownBy w' none:=by
  have hsf:=run_store_flt Tryz.prog
  go_enter Tryz.func141,Tryz.ntmps141
  go_wp2_with fail
  go_region
  all_goals
    go_wp2_with fail
    go_returns
    exact ⟨rfl,gt_below (by go_grown) none⟩
theorem infoFlt:(Tryz.prog.info? 26).map (fun i=>(i.zero,i.size,i.bytes))=some (some (.float .f64 0),1,8):=by kernel_rfl
theorem NumB.new {W w1:World} (g:W.grownBy w1 none) (k d:Int):NumB W (w1.alloc (.cells #[.int .i64 k,.int .i64 d,.slice none 0 0,.slice none 0 0] 33)) (w1.heap.size+1) w1.heap.size (w1.alloc (.cells #[.int .i64 k,.int .i64 d,.slice none 0 0,.slice none 0 0] 33)) k d (.slice none 0 0) 0 []:=by
  refine ⟨⟨gt_alloc_r g _,g.size,by omega,by simp,fun _ _ _ _ h=>h,fun _ _ _ _=>rfl,fun j=>by simp⟩,by simp,by simp,by simp,by simp,World.ownsRow_nil _ _ _ _⟩
theorem plPt0 (f:Nat→Nat) (hf:∀ i,f i<18446744073709551616) (W:World):Calls Tryz.prog 74 #[.agg #[.float .f64 (f 0),.float .f64 (f 1),.float .f64 0,.float .f64 0,.int .u8 0,.bool true]] W fun e w'=>∃ v',e=.returned v'∧KD (Fr W w') 1 w' v' (.mk 1 (0:Nat) 2 f [])∧W.grownBy w' none:=by
  have HG:=Lib.hid (gt_alloc_r (World.grownBy_alloc W (.cells #[.float .f64 (f 0),.float .f64 (f 1),.float .f64 0,.float .f64 0,.int .u8 0,.bool true] 87) none) (.cells #[.int .i64 0,.int .i64 0,.slice none 0 0,.slice none 0 0] 33))
  have HC:Hid (∀ w,((W.alloc (.cells #[.float .f64 (f 0),.float .f64 (f 1),.float .f64 0,.float .f64 0,.int .u8 0,.bool true] 87)).alloc (.cells #[.int .i64 0,.int .i64 0,.slice none 0 0,.slice none 0 0] 33)).grownBy w none→(w.cell? ⟨W.heap.size,0,none⟩=some (.float .f64 (f 0))∧w.cell? ⟨W.heap.size,1,none⟩=some (.float .f64 (f 1))∧w.cell? ⟨W.heap.size,2,none⟩=some (.float .f64 0)∧w.cell? ⟨W.heap.size,3,none⟩=some (.float .f64 0)∧w.cell? ⟨W.heap.size,4,none⟩=some (.int .u8 0)∧w.cell? ⟨W.heap.size,5,none⟩=some (.bool true))∧(w.cell? ⟨W.heap.size+1,0,none⟩=some (.int .i64 0)∧w.cell? ⟨W.heap.size+1,1,none⟩=some (.int .i64 0)∧w.cell? ⟨W.heap.size+1,2,none⟩=some (.slice none 0 0)∧w.cell? ⟨W.heap.size+1,3,none⟩=some (.slice none 0 0))∧∀ j,w.frozen? ⟨W.heap.size+1,j,none⟩=false):=fun w g=>by
    have hb:=g.block (W.heap.size+1) (by simp) (by simp)
    refine ⟨⟨g.cell (by simp) (by simp),g.cell (by simp) (by simp),g.cell (by simp) (by simp),g.cell (by simp) (by simp),g.cell (by simp) (by simp),g.cell (by simp) (by simp)⟩,⟨g.cell (by simp) (by simp),g.cell (by simp) (by simp),g.cell (by simp) (by simp),g.cell (by simp) (by simp)⟩,fun j=>?_⟩
    rw [World.frozen?_of_block hb];simp
  have hsf:=run_store_flt Tryz.prog
  go_enter Tryz.func74,Tryz.ntmps74
  go_wp2_with (first
    | (go_at_call 140;refine (PtCT_any _ _ _ _ _ _ _).mono ?_;rintro e w1 ⟨rfl,hg1⟩;obtain ⟨⟨k0,k1,k2,k3,k4,k5⟩,_,_⟩:=HC.out _ hg1;have hz1:W.heap.size<w1.heap.size:=by { have:=hg1.size;simp at this;omega };have hz2:W.heap.size+1<w1.heap.size:=by { have:=hg1.size;simp at this;omega })
    | (go_at_call 141;refine (PtCo_any _ _ _ _ _ _ _).mono ?_;rintro e w2 ⟨rfl,hg2⟩;have I:=(NumB.new (gt_trans HG.out hg1 (.inl rfl)) 1 0).kept hg2;have HI:=Lib.hid I;have o2:=I.o2;have hz3:w1.heap.size<w2.heap.size:=by { have:=hg2.size;simp at this;omega };have G2:=gt_trans (gt_trans hg1 (World.grownBy_alloc _ _ _) (.inl rfl)) hg2 (.inl rfl);clear I)
    | (at_builtin;refine app_cells2 (size:=1) (n:=0) (xs:=[]) (base:=w1.heap.size+1) rfl _ _ _ rfl Tryz.underlying30 (.float .f64 0) 8 infoFlt rfl (Nat.succ_pos 0) rfl rfl (by simp) _ (HI.out.kept (gt_alloc_r (World.grownBy_alloc _ _ _) _)).own rfl (by simp [Value.oneCell']) (Nat.succ_pos 1) (by simp;omega) (by omega) (by omega) ?_;intro gg cap7 w7 hown7 hg7 hat7;replace hg7:World.grownBy _ w7 none:=hg7;have G6:=gt_alloc_r (World.grownBy_alloc w2 (.cells #[.float .f64 (f 0),.float .f64 (f 1),.float .f64 0,.float .f64 0,.int .u8 0] 85) none) (.cells #[.float .f64 (f 0),.float .f64 (f 1)] 26);have G7:=gt_trans G2 (gt_trans G6 hg7 (.inl rfl)) (.inl rfl);have I7:=HI.out.kept (gt_trans G6 hg7 (.inl rfl));have p0:=I7.o0;have p1:=I7.o1;have p2:=I7.o2;have p3:=I7.o3;have pf:=I7.u.of_ 2;have c2:w7.cell? ⟨w2.heap.size,2,none⟩=some (.float .f64 0):=hg7.cell (by simp) (by simp);have c3:w7.cell? ⟨w2.heap.size,3,none⟩=some (.float .f64 0):=hg7.cell (by simp) (by simp);have c4:w7.cell? ⟨w2.heap.size,4,none⟩=some (.int .u8 0):=hg7.cell (by simp) (by simp);obtain ⟨_,⟨r0,r1,r2,r3⟩,rf⟩:=HC.out _ G7;have rf0:=rf 0;have rf1:=rf 1;have rf2:=rf 2;have rf3:=rf 3;have HFin:=Lib.hid (HI.out.app G6 hg7 hown7);clear hown7 hat7 I7)
    | (go_at_call 142;refine (Is3D_lit 0 false (by simp) _).mono ?_;rintro e wx ⟨rfl,rfl⟩)
    | (go_at_call 143;refine (IsMeasured_lit 0 false (by simp) _).mono ?_;rintro e wx ⟨rfl,rfl⟩))
  obtain ⟨pn,cn,hx,I2⟩:=KidB.of_num (f:=f) (n:=2) HFin.out 0 hf
  injection hx with hx1 hx2 hx3
  subst hx1 hx3
  have HE:=Lib.hid (I2.end_ (W.heap.size+1) (by omega) (by omega))
  clear I2
  refine bodyPost_ret (by simp [results,Tryz.results74,go_sem,r0,r1,r2,r3];try rfl) rfl ?_
  exact ⟨_,rfl,HE.out.1,HE.out.2⟩
theorem plPtE (r:Nat) (hr:r<4) (f:Nat→Nat) (hf:∀ i,f i<18446744073709551616) (W:World):Calls Tryz.prog 74 #[.agg #[.float .f64 0,.float .f64 0,.float .f64 0,.float .f64 0,.int .u8 r,.bool false]] W fun e w'=>∃ v',e=.returned v'∧KD (Fr W w') 1 w' v' (.mk 1 (r:Nat) 0 f [])∧W.grownBy w' none:=by
  have HG:=Lib.hid (gt_alloc_r (World.grownBy_alloc W (.cells #[.float .f64 0,.float .f64 0,.float .f64 0,.float .f64 0,.int .u8 r,.bool false] 87) none) (.cells #[.int .i64 0,.int .i64 0,.slice none 0 0,.slice none 0 0] 33))
  have HC:Hid (∀ w,((W.alloc (.cells #[.float .f64 0,.float .f64 0,.float .f64 0,.float .f64 0,.int .u8 r,.bool false] 87)).alloc (.cells #[.int .i64 0,.int .i64 0,.slice none 0 0,.slice none 0 0] 33)).grownBy w none→(w.cell? ⟨W.heap.size,0,none⟩=some (.float .f64 0)∧w.cell? ⟨W.heap.size,1,none⟩=some (.float .f64 0)∧w.cell? ⟨W.heap.size,2,none⟩=some (.float .f64 0)∧w.cell? ⟨W.heap.size,3,none⟩=some (.float .f64 0)∧w.cell? ⟨W.heap.size,4,none⟩=some (.int .u8 r)∧w.cell? ⟨W.heap.size,5,none⟩=some (.bool false))∧(w.cell? ⟨W.heap.size+1,0,none⟩=some (.int .i64 0)∧w.cell? ⟨W.heap.size+1,1,none⟩=some (.int .i64 0)∧w.cell? ⟨W.heap.size+1,2,none⟩=some (.slice none 0 0)∧w.cell? ⟨W.heap.size+1,3,none⟩=some (.slice none 0 0))∧∀ j,w.frozen? ⟨W.heap.size+1,j,none⟩=false):=fun w g=>by
    have hb:=g.block (W.heap.size+1) (by simp) (by simp)
    refine ⟨⟨g.cell (by simp) (by simp),g.cell (by simp) (by simp),g.cell (by simp) (by simp),g.cell (by simp) (by simp),g.cell (by simp) (by simp),g.cell (by simp) (by simp)⟩,⟨g.cell (by simp) (by simp),g.cell (by simp) (by simp),g.cell (by simp) (by simp),g.cell (by simp) (by simp)⟩,fun j=>?_⟩
    rw [World.frozen?_of_block hb];simp
  have hsf:=run_store_flt Tryz.prog
  go_enter Tryz.func74,Tryz.ntmps74
  go_wp2_with (first
    | (go_at_call 140;refine (PtCT_any _ _ _ _ _ _ _).mono ?_;rintro e w1 ⟨rfl,hg1⟩;obtain ⟨⟨k0,k1,k2,k3,k4,k5⟩,_,_⟩:=HC.out _ hg1;have hz1:W.heap.size<w1.heap.size:=by { have:=hg1.size;simp at this;omega };have hz2:W.heap.size+1<w1.heap.size:=by { have:=hg1.size;simp at this;omega })
    | (go_at_call 141;refine (PtCo_any _ _ _ _ _ _ _).mono ?_;rintro e w2 ⟨rfl,hg2⟩;have I:=((NumB.new (gt_trans HG.out hg1 (.inl rfl)) 1 r).kept hg2).kept (World.grownBy_alloc _ (.cells #[.float .f64 0,.float .f64 0,.float .f64 0,.float .f64 0,.int .u8 r] 85) none);have I0:=(NumB.new (gt_trans HG.out hg1 (.inl rfl)) 1 r).kept hg2;have HI:=Lib.hid I0;have p0:=I0.o0;have p1:=I0.o1;have p2:=I0.o2;have p3:=I0.o3;have hz3:w1.heap.size<w2.heap.size:=by { have:=hg2.size;simp at this;omega };have hz4:W.heap.size+1<w2.heap.size:=(by omega);have G2:=gt_trans (gt_trans hg1 (World.grownBy_alloc _ _ _) (.inl rfl)) hg2 (.inl rfl);obtain ⟨_,⟨r0,r1,r2,r3⟩,rf⟩:=HC.out _ G2;have rf0:=rf 0;have rf1:=rf 1;have rf2:=rf 2;have rf3:=rf 3;clear I I0))
  obtain ⟨pn,cn,hx,I2⟩:=KidB.of_num (f:=f) (n:=0) HI.out 0 hf
  injection hx with hx1 hx2 hx3
  subst hx1 hx3
  have HE:=Lib.hid (I2.end_ (W.heap.size+1) (by omega) (by omega))
  clear I2
  have hz6:W.heap.size+1<((((w2.setCell ⟨W.heap.size+1,0,none⟩ (.int .i64 1)).setCell ⟨W.heap.size+1,1,none⟩ (.int .i64 r)).setCell ⟨W.heap.size+1,2,none⟩ (.slice none 0 0)).setCell ⟨W.heap.size+1,3,none⟩ (.slice none 0 0)).heap.size:=by simp [World.setCell];omega
  refine bodyPost_ret (by simp [results,Tryz.results74,go_sem,r0,r1,r2,r3,hz6,hz4];try rfl) rfl ?_
  exact ⟨_,rfl,(HE.out.1.mono (World.grownBy_alloc _ _ _)).weak (fun b hb=>⟨hb.1,Nat.lt_of_lt_of_le hb.2 (World.grownBy_alloc _ _ none).size⟩),gt_alloc_r HE.out.2 _⟩
end
section
open Go.RowKit
theorem or_le (X u k:Nat) (hX:X<256 ^ k) (hu:u<256) (hk:k≤7):bits .or .u64 (X:Int) (IntKind.u64.wrap ((u:Int)*2 ^ (8*k)))=((X+u*256 ^ k:Nat):Int):=by
  have e:(256:Nat) ^ k=2 ^ (8*k):=by rw [Nat.pow_mul]
  have hp:(256:Nat) ^ k≤256 ^ 7:=Nat.pow_le_pow_right (by decide) hk
  have e7:(256:Nat) ^ 7=72057594037927936:=by decide
  have e64:(2:Int) ^ 64=18446744073709551616:=by decide
  have hP:((2:Int) ^ (8*k))=((256 ^ k:Nat):Int):=by rw [e,Int.natCast_pow];rfl
  have hmul:u*256 ^ k≤255*256 ^ k:=Nat.mul_le_mul_right _ (by omega)
  have hz:((u:Int)*2 ^ (8*k))=((u*256 ^ k:Nat):Int):=by rw [hP,Int.natCast_mul]
  rw [hz,wraps_u64 _ (by omega) (by omega)]
  rw [bits_join_low .u64 64 (by decide) wraps_u64 (8*k) (X:Int) ((u*256 ^ k:Nat):Int) (by omega) (by rw [hP];omega) (by omega) (by omega) (by rw [hP,Int.natCast_mul];exact Int.mul_emod_left _ _) (by omega)]
  exact (Int.natCast_add _ _).symm
theorem or_be (X u:Nat) (hX:X<72057594037927936) (hu:u<256):bits .or .u64 ((X:Int)*256) (u:Int)=((X*256+u:Nat):Int):=by
  have e64:(2:Int) ^ 64=18446744073709551616:=by decide
  have e8:(2:Int) ^ 8=256:=by decide
  rw [bits_join .u64 64 (by decide) wraps_u64 8 ((X:Int)*256) (u:Int) (by omega) (by rw [e8];omega) (by omega) (by omega) (by omega) (by omega)]
  omega
theorem uint_ok (V W:World) (rb n:Nat) (any great big:Bool) (l:List UInt8) (hn8:n≤8) (hl:n≤l.length) (h:RS V W rb l any false great):Calls Tryz.prog 84 #[.pointer (some ⟨rb,0,none⟩),.int .i64 n,.bool big] W fun e w'=>e=.returned (.int .u64 (numL big (l.take n)))∧RS V w' rb (l.drop n) any false great∧W.grownBy w' (some rb):=by
  obtain ⟨x,hx,hv⟩:=h.x
  obtain ⟨p,c,rfl,h1,h2,h3,h4⟩:=hv.ex
  have hd:=hv.drop n hl
  obtain ⟨pd,nd,cd,hxd⟩ : ∃ pd nd cd,sliced p n l.length c 1=.slice pd nd cd:=⟨_,_,_,rfl⟩
  rw [hxd] at hd
  have HSt:=Lib.hid (h.set (x:=.slice pd nd cd) hd)
  have hsl:∀ w,(Instr.slice 39 (.slice p l.length c) (some (.int .i64 n)) none none).run Tryz.prog w=.ok (.slice pd nd cd) w:=fun w=>by
    rw [run_slice_l _ _ _ _ _ Tryz.underlying39 .i64 n (by omega) (by omega),←hxd]
    rfl
  have c2:=h.c2
  have f0:=h.fz 0
  have HCl:Hid (∀ k,k<n→∃ b o u,p=some ⟨b,o,none⟩∧l[k]?=some u∧W.cell? ⟨b,o+k,none⟩=some (.int .u8 u.toNat)):=fun k hk=>by
    obtain ⟨_,b,o,e,hc⟩:=(hv.grow h.g (.inr rfl)).cells (by omega)
    exact ⟨b,o,l[k]'(by omega),e,List.getElem?_eq_getElem (by omega),hc k _ (List.getElem?_eq_getElem (by omega))⟩
  have HLn:=Lib.hid hl
  have hlt:¬ (l.length:Int)<(n:Int):=by omega
  have HNum:Hid (∀ k,k≤n→numL big (l.take k)<256 ^ k):=fun k hk=>numL_lt big (l.take k) k (by rw [List.length_take];omega)
  generalize hm:l.length=m at *
  clear hv h hd hxd h4 hl
  go_enter Tryz.func84,Tryz.ntmps84
  go_wp2_with fail
  go_loopw [7,26] (fun x i wr=>∃ k:Nat,k≤n∧i=.int .i64 k∧x=.int .u64 ((numL big (l.take k):Nat):Int)∧wr=W) (fun _ i _=>n - (intOf i).toNat)
  case atStart=>exact ⟨0,by omega,rfl,by simp [numL,Lib.beNat,Lib.beFrom,Lib.leNat],rfl⟩
  case round =>
    obtain ⟨k,hk,rfl,rfl,rfl⟩:=hrel
    by_cases hkn:k<n
    · obtain ⟨b,o,u,rfl,hu,hc⟩:=HCl.out k hkn
      have hki:(k:Int)<(m:Int):=by have:=HLn.out;omega
      have hub:=u.toNat_lt
      have hX:=HNum.out k hk
      have hp7:(256:Nat) ^ k≤256 ^ 7:=Nat.pow_le_pow_right (by decide) (by omega)
      have e7:(256:Nat) ^ 7=72057594037927936:=by decide
      cases big
      · have hN1:=numL_le l k u hu
        have HO:=Lib.hid (or_le (numL false (l.take k)) u.toNat k hX (by omega) (by omega))
        have HN:=Lib.hid hN1
        clear hN1
        generalize numL false (l.take k)=X at HN HO hX ⊢
        go_wp2_with fail
        exact ⟨⟨k+1,by omega,by go_num,by rw [HN.out,HO.out],trivial⟩,by simp [intOf];omega⟩
      · have hN1:=numL_be l k u hu
        have hk7:(256:Nat) ^ k≤256 ^ 7:=hp7
        have HO:=Lib.hid (or_be (numL true (l.take k)) u.toNat (by omega) (by omega))
        have HN:=Lib.hid hN1
        clear hN1
        generalize numL true (l.take k)=X at HN HO hX ⊢
        go_wp2_with fail
        exact ⟨⟨k+1,by omega,by go_num,by rw [HN.out,HO.out],trivial⟩,by simp [intOf];omega⟩
    · obtain rfl:k=n:=by omega
      go_wp2_with fail
      go_wp2_with fail
      go_ret
      exact ⟨rfl,HSt.out.1,HSt.out.2⟩
end
section
open Go.RowKit
mutual
def dataT:Raw→Raw
  | .mk k d n f kids=>.mk k d n (if n=0 then fun _=>0 else f) (dataTs kids)
def dataTs:List Raw→List Raw
  | []=>[]
  | t::ts=>dataT t::dataTs ts
end
theorem dataTs_len:∀ ts:List Raw,(dataTs ts).length=ts.length
  | []=>rfl
  | t::ts=>by simp [dataTs,dataTs_len ts]
theorem dataTs_get:∀ (ts:List Raw) (i:Nat),(dataTs ts)[i]?=ts[i]?.map dataT
  | [],_=>by simp [dataTs]
  | t::ts,0=>by simp [dataTs]
  | t::ts,i+1=>by simp [dataTs,dataTs_get ts i]
def PC (D:(Nat→Prop)→World→Value→Raw→Prop) (fE h:Nat):Prop:=∀ (B:Nat→Prop) (W:World) (v:Value) (t:Raw),D B W v t→okT t→(∀ b,B b→b<W.heap.size)→Calls Tryz.prog fE #[v] W fun e w'=>∃ v',e=.returned v'∧KD (Fr W w') h w' v' (dataT t)∧W.grownBy w' none
end
end Go.Proofs.YtlpaecafpbbbkaaGreatDoor
