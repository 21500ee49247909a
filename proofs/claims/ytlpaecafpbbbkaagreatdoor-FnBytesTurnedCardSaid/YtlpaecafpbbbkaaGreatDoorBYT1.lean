/- Slices of bytes that a call appends to: what an append leaves, and what stays as it was. Geometries in memory: their shape, to a depth; what the questions of size and of finite numbers do. The questions of size and of finite numbers: each answers, and leaves all as it was. A row of numbers as the package keeps it: how it is made, how long it is, what it gives at a place. A geometry that can be read as data lies in memory as KG says. Geometries as trees of plain data, and how they lie in memory. A line of the package: made of a geometry; the places of its row. A place of a row of numbers, of each type of coordinates (printed by genget.py). Plain facts on machine numbers, which the walks of the decimal writer lean on. The shortest decimal of a number: what it comes to does not depend on memory. The digits of a number, written into a row of 32 bytes. The layout of a decimal without an exponent: bytes that depend on the sign, the digits and the places alone. The decimal of a number, shortest, without an exponent: appended bytes that depend on the number alone. ftoa64 at 'f', shortest: the bytes that it appends. A place in GeoJSON: the package's function and the reference write the same bytes. The package's GeoJSON of a line. One string behind the other. Slices of any elements that a call makes by appending: what an append leaves, and what stays as it was. The reference's list in brackets. The package's text of a place and of a sequence. The package's text of a line string. -/
import Derived.WalkKit
import Derived.WalkSpells
import Derived.WalkLawsBesides
import Derived.Lib.AppendStr
import Derived.Maps.AppendAt
import Derived.Laws.BytesArg
import Derived.Lib.Hide
import Derived.Test.YtlpaecafpbbbkaaGreatDoorProg
import Derived.Deep.DeepCutAuto
import Derived.Deep.QuietTactic
import Derived.Handy
import Derived.Laws.CopyOwn
import Derived.Lib.SmallJoins
import Derived.OpenShut
import Derived.ProofKit
import Derived.ChangeShapes
import Derived.Deep.RegionWith
import Derived.Deep.RegionHeld3
import Derived.BigQuiet
import Derived.Lib.ItoaMem
import Derived.Lib.ItoaLen
set_option linter.unusedVariables false
set_option linter.unusedSimpArgs false
set_option maxRecDepth 100000
set_option maxHeartbeats 24000000
namespace Go.Proofs.YtlpaecafpbbbkaaGreatDoor
section
open Go.RowKit
theorem gt_trans {a b c:World} {r r':Option Nat} (h:a.grownBy b r) (k:b.grownBy c r') (hr:r'=r∨r'=none∨∃ x,r'=some x∧a.heap.size≤x):a.grownBy c r :=
  ⟨k.os.trans h.os,k.tape.trans h.tape,k.output.trans h.output,Nat.le_trans h.size k.size,fun i hi hne =>
    (k.block i (Nat.lt_of_lt_of_le hi h.size) (by
      rcases hr with rfl | rfl | ⟨x,rfl,hx⟩
      · exact hne
      · exact Option.some_ne_none _
      · intro he;injection he with he;omega)).trans (h.block i hi hne)⟩
theorem gt_refl (a:World) (r:Option Nat):a.grownBy a r:=⟨rfl,rfl,rfl,Nat.le_refl _,fun _ _ _=>rfl⟩
theorem gt_below {a b:World} (h:Below a.heap.size a b) (r:Option Nat):a.grownBy b r:=⟨h.os,h.tape,h.output,h.size,fun i hi _=>h.block i hi⟩
theorem below_gt {a b:World} (h:a.grownBy b none):Below a.heap.size a b:=⟨h.os,h.tape,h.output,h.size,fun i hi=>h.block i hi (Option.some_ne_none _)⟩
theorem gt_drewN_r {a b:World} {r:Option Nat} (h:a.grownBy b r) (n:Nat):a.grownBy (b.drewN n) r:=⟨h.os,h.tape,h.output,h.size,h.block⟩
theorem gt_drew_r {a b:World} {r:Option Nat} (h:a.grownBy b r):a.grownBy b.drew r:=⟨h.os,h.tape,h.output,h.size,h.block⟩
theorem gt_alloc_r {a b:World} {r:Option Nat} (h:a.grownBy b r) (o:Obj):a.grownBy (b.alloc o) r:=gt_trans h (World.grownBy_alloc b o none) (.inr (.inl rfl))
theorem gt_set_r {a b:World} {r:Option Nat} (h:a.grownBy b r) (p:Addr) (x:Value) (hp:a.heap.size≤p.block):a.grownBy (b.setCell p x) r :=
  ⟨h.os,h.tape,h.output,by simpa [World.setCell] using h.size,fun i hi hne=>(Below.heap_setCell b p x i (by omega)).trans (h.block i hi hne)⟩
theorem run_store_flt (P:Program) (w:World) (a:Addr) (m:Mode) (k:FloatKind) (b:Nat):(store a (.float k b) m).run P w=stored P w a (.float k b) m:=run_store P w a _ m rfl
def Bs (l:List UInt8):List Value:=l.map fun b=>.int .u8 (b.toNat:Int)
theorem Bs_length (l:List UInt8):(Bs l).length=l.length:=by simp [Bs]
theorem Bs_append (l m:List UInt8):Bs (l++m)=Bs l++Bs m:=by simp [Bs]
structure AppB (e base:Nat) (w0:World) (v0:Value) (w:World) (v:Value) (l:List UInt8):Prop where
  own:w.ownsRow base e 1 v l.length (Bs l)
  grown:w0.grownBy w v0.ownBlock
  at_:v.ownBlock=v0.ownBlock∨∃ b,v.ownBlock=some b∧w0.heap.size≤b
variable {e base:Nat} {w0 w w1 w2:World} {v0 v v1 v2:Value} {l l1 l2:List UInt8}
theorem AppB.start (h:w.ownsRow base e 1 v l.length (Bs l)):AppB e base w v w v l:=⟨h,gt_refl _ _,.inl rfl⟩
theorem AppB.nil (w:World) (e base:Nat):AppB e base w (.slice none 0 0) w (.slice none 0 0) []:=.start (World.ownsRow_nil w base e 1)
theorem AppB.trans (h:AppB e base w0 v0 w1 v1 l1) (k:AppB e base w1 v1 w2 v2 l2):AppB e base w0 v0 w2 v2 l2:=by
  refine ⟨k.own,gt_trans h.grown k.grown ?_,?_⟩
  · rcases h.at_ with h | ⟨b,h,hb⟩
    · exact .inl h
    · exact .inr (.inr ⟨b,h,hb⟩)
  · rcases k.at_ with k' | ⟨b,k',hb⟩
    · rcases h.at_ with h | ⟨b,h,hb⟩
      · exact .inl (k'.trans h)
      · exact .inr ⟨b,k'.trans h,hb⟩
    · exact .inr ⟨b,k',Nat.le_trans h.grown.size hb⟩
theorem AppB.beside (h:AppB e base w0 v0 w v l) (k:w.grownBy w1 none):AppB e base w0 v0 w1 v l :=
  ⟨h.own.kept k (by cases v.ownBlock <;> simp),gt_trans h.grown k (.inr (.inl rfl)),h.at_⟩
theorem AppB.size (h:AppB e base w0 v0 w v l):w0.heap.size≤w.heap.size:=h.grown.size
theorem AppB.based (h:AppB e base w0 v0 w v l) (hb:base≤w0.heap.size):base≤w.heap.size:=Nat.le_trans hb h.grown.size
theorem AppB.cell (h:AppB e base w0 v0 w v l) {a:Addr} (hlt:a.block<w0.heap.size) (hne:v0.ownBlock≠some a.block):w.cell? a=w0.cell? a :=
  World.cell?_of_block (h.grown.block _ hlt (fun he=>hne he.symm))
theorem AppB.other (h:AppB e base w0 v0 w v l) {k:Nat} (hlt:k<w0.heap.size) (hne:v0.ownBlock≠some k):w.heap[k]?=w0.heap[k]?∧v.ownBlock≠some k:=by
  refine ⟨h.grown.block _ hlt (fun he=>hne he.symm),?_⟩
  rcases h.at_ with h' | ⟨b,h',hb⟩
  · rw [h'];exact hne
  · rw [h'];intro he;injection he with he;omega
theorem AppB.below (h:AppB e base w0 (.slice none 0 0) w v l):Below w0.heap.size w0 w:=below_gt h.grown
theorem AppB.later (h:w.ownsRow base e 1 v l.length (Bs l)) (hg:w.grownBy w1 none) (k:AppB e base w1 v w2 v2 l2):AppB e base w v w2 v2 l2:=((AppB.start h).beside hg).trans k
section
variable {P:Program} {ops:Array Oper} {rest:List Oper} {o:Oper} {a:Act} {Q:Exit→Act→World→Prop} {W:World}
end
end
section
open Go.RowKit
structure FRow (W:World) (p:Option Addr) (n cap:Nat):Prop where
  le:n≤cap
  most:cap≤maxLen
  some_:0<n→∃ a,p=some a
  at_:∀ a,p=some a→∀ i,i<n→∃ b,W.cell? (a.add i)=some (.float .f64 b)∧b<18446744073709551616
theorem FRow.mono {W W':World} {p:Option Addr} {n cap:Nat} (h:FRow W p n cap) (hg:W.grownBy W' none):FRow W' p n cap :=
  ⟨h.le,h.most,h.some_,fun a ha i hi=>by obtain ⟨b,h1,h2⟩:=h.at_ a ha i hi;exact ⟨b,hg.cell h1 (by simp),h2⟩⟩
def KG:Nat→World→Value→Prop
  | 0,_,_=>False
  | h+1,W,v=>∃ k d p n cap q m c2,v=.agg #[.int .i64 k,.int .i64 d,.slice p n cap,.slice q m c2]∧FRow W p n cap∧m≤c2∧c2≤maxLen∧(0<m→∃ a,q=some a) ∧
      ∀ a,q=some a→∀ i,i<m→∃ c0 c1 c2 c3,KG h W (.agg #[c0,c1,c2,c3])∧W.cell? (a.add (i*4))=some c0∧W.cell? ⟨(a.add (i*4)).block,(a.add (i*4)).off+1,none⟩=some c1∧W.cell? ⟨(a.add (i*4)).block,(a.add (i*4)).off+2,none⟩=some c2∧W.cell? ⟨(a.add (i*4)).block,(a.add (i*4)).off+3,none⟩=some c3
theorem KG.mono {W W':World} (hg:W.grownBy W' none):∀ {h:Nat} {v:Value},KG h W v→KG h W' v
  | 0,_,h=>h
  | h+1,_,⟨k,d,p,n,cap,q,m,c2,e,f,h1,h2,h3,h4⟩=>⟨k,d,p,n,cap,q,m,c2,e,f.mono hg,h1,h2,h3,fun a ha i hi=>by
      obtain ⟨c0,c1,c2,c3,k0,k1,k2,k3,k4⟩:=h4 a ha i hi
      exact ⟨c0,c1,c2,c3,KG.mono hg k0,hg.cell k1 (by simp),hg.cell k2 (by simp),hg.cell k3 (by simp),hg.cell k4 (by simp)⟩⟩
theorem KG.form {W:World} : ∀ {h:Nat} {v:Value},KG h W v→∃ k d p n cap q m c2,v=.agg #[.int .i64 k,.int .i64 d,.slice p n cap,.slice q m c2]
  | 0,_,h=>by cases h
  | _+1,_,⟨k,d,p,n,cap,q,m,c2,e,_⟩=>⟨k,d,p,n,cap,q,m,c2,e⟩
theorem KG.form4 {W:World} {h:Nat} {c0 c1 c2 c3:Value} (hk:KG h W (.agg #[c0,c1,c2,c3])):∃ k d p n cap q m c,c0=.int .i64 k∧c1=.int .i64 d∧c2=.slice p n cap∧c3=.slice q m c:=by
  obtain ⟨k,d,p,n,cap,q,m,c,e⟩:=hk.form
  simp only [Value.agg.injEq,Array.mk.injEq,List.cons.injEq,and_true] at e
  exact ⟨k,d,p,n,cap,q,m,c,e⟩
end
section
open Go.RowKit
def YN (W:World) (R:Bool→Prop) (e:Ending) (w':World):Prop:=∃ b,e=.returned (.bool b)∧R b∧W.grownBy w' none
end
section
open Go.RowKit
structure FVal (W:World) (p:Option Addr) (n:Nat) (f:Nat→Nat):Prop where
  some_:0<n→∃ a,p=some a
  at_:∀ a,p=some a→∀ i,i<n→W.cell? (a.add i)=some (.float .f64 (f i))
  lt:∀ i,f i<18446744073709551616
theorem FVal.mono {W W':World} {p:Option Addr} {n:Nat} {f:Nat→Nat} (h:FVal W p n f) (hg:W.grownBy W' none):FVal W' p n f :=
  ⟨h.some_,fun a ha i hi=>hg.cell (h.at_ a ha i hi) (by simp),h.lt⟩
def bitsOf:Option Value→Nat
  | some (.float _ b)=>if b<18446744073709551616 then b else 0
  | _=>0
theorem bitsOf_lt (o:Option Value):bitsOf o<18446744073709551616:=by
  unfold bitsOf
  split
  · split <;> omega
  · omega
theorem FRow.vals {W:World} {p:Option Addr} {n cap:Nat} (h:FRow W p n cap):∃ f,FVal W p n f:=by
  refine ⟨fun i=>bitsOf (p.bind fun a=>W.cell? (a.add i)),h.some_,fun a ha i hi=>?_,fun i=>bitsOf_lt _⟩
  obtain ⟨b,h1,h2⟩:=h.at_ a ha i hi
  rw [h1,ha]
  simp [h1,bitsOf,h2]
def widN (r:Nat):Nat:=2+r % 2+r / 2
theorem Dimension_lit (x y:Int) (h:(x=0∧y=2)∨(x=1∧y=3)∨(x=2∧y=3)∨(x=3∧y=4)) (w:World) :
    Calls Tryz.prog 168 #[.int .u8 x] w fun e w'=>e=.returned (.int .i64 y)∧w'=w:=by
  have hi:∀ W:World,(Instr.index 278 (.agg #[.int .i64 2,.int .i64 3,.int .i64 3,.int .i64 4]) (.int .u8 x)).run Tryz.prog W=.ok (.int .i64 y) W:=fun W=>by
    rcases h with ⟨rfl,rfl⟩ | ⟨rfl,rfl⟩ | ⟨rfl,rfl⟩ | ⟨rfl,rfl⟩ <;> kernel_rfl
  clear h
  go_enter Tryz.func168,Tryz.ntmps168
  go_wp2_with fail
  go_ret
  exact ⟨rfl,rfl⟩
theorem Dimension_any (r:Nat) (hr:r<4) (w:World):Calls Tryz.prog 168 #[.int .u8 r] w fun e w'=>e=.returned (.int .i64 (widN r:Nat))∧w'=w :=
  Dimension_lit r (widN r:Nat) (by unfold widN;omega) w
theorem NewSequence_any (r n:Nat) (p:Option Addr) (cap:Nat) (hr:r<4) (hn:n % widN r=0) (w:World) :
    Calls Tryz.prog 125 #[.slice p n cap,.int .u8 r] w fun e w'=>e=.returned (.agg #[.int .u8 r,.slice p n cap])∧w.grownBy w' none:=by
  obtain ⟨k,hk,hk2,hk4⟩ : ∃ k:Nat,k=widN r∧2≤k∧k≤4:=⟨widN r,rfl,by unfold widN;omega,by unfold widN;omega⟩
  have HD:=Lib.hid (fun w=>Dimension_any r hr w)
  rw [←hk] at hn HD
  clear hk
  have hz:(n:Int) % (k:Int)=0:=by exact_mod_cast hn
  go_enter Tryz.func125,Tryz.ntmps125
  go_wp2_with (go_at_call 168;refine (HD.out _).mono ?_;rintro e w' ⟨rfl,rfl⟩)
  go_returns
  exact ⟨rfl,World.grownBy_alloc _ _ _⟩
theorem FVal.set {w:World} {a q:Addr} {n:Nat} {f:Nat→Nat} (h:FVal w (some a) n f) (hq:a.block≠q.block) (x:Value):FVal (w.setCell q x) (some a) n f:=by
  refine ⟨h.some_,fun b hb i hi=>?_,h.lt⟩
  have h0:=h.at_ b hb i hi
  injection hb with hb
  subst hb
  have e:(a.add i).block=a.block:=by unfold Addr.add;split <;> rfl
  rw [World.cell?_of_block (w:=w) (Below.heap_setCell w q x _ (by rw [e];exact hq))]
  exact h0
theorem own_heap {w:World} {base g n cap:Nat} {e:TypeId} {xs:List Value} (h:w.ownsRow base e 1 (.slice (some ⟨g,0,none⟩) n cap) n xs):∃ cur:List Value,w.heap[g]?=some (.cells cur.toArray e (0,0))∧cur.length=cap:=by
  obtain ⟨_,h | ⟨g',cap',cur,hv,hb,hc,_,_,hs,_⟩⟩:=h
  · cases h.1
  · cases hv
    exact ⟨cur.toList,by simpa using hc,by simpa using hs⟩
end
section
open Go.Joins Go.ChangeShapes Go.WideShapes Go.RowKit Go.Deep Go.ChangeAt
theorem KG.up:∀ {h:Nat} {W:World} {v:Value},KG h W v→KG (h+1) W v
  | 0,_,_,h=>h.elim
  | _+1,_,_,⟨k,d,p,n,cap,q,m,c2,e,f,h1,h2,h3,h4⟩=>⟨k,d,p,n,cap,q,m,c2,e,f,h1,h2,h3,fun a ha i hi=>by
      obtain ⟨c0,c1,c2,c3,k0,k1,k2,k3,k4⟩:=h4 a ha i hi
      exact ⟨c0,c1,c2,c3,KG.up k0,k1,k2,k3,k4⟩⟩
theorem add_add (a:Addr) (j:Nat) (hj:j≠0):a.add j=⟨a.block,a.off+j,none⟩:=by
  unfold Addr.add
  simp [hj]
theorem list4 {α:Type} {cs:List α} (h:cs.length=4):∃ c0 c1 c2 c3,cs=[c0,c1,c2,c3]:=by
  match cs,h with
  | [c0,c1,c2,c3],_=>exact ⟨c0,c1,c2,c3,rfl⟩
section
variable {H:Type} {enc:TypeId × Value→H} {W:World} {base:Nat} {spare:Nat→Bool} {held:Bool}
theorem trod_float1 {fuel:Nat} {t:TypeId} {cs:List Value} {x:DataW H × List MemPlace} {k:FloatKind} {P:Program} (ht:P.underlying t=some (.float k)) (h:DataW.trod enc P W base spare held fuel t cs=some x):∃ n,cs=[.float k n]∧(Lit.float k n).wf=true:=by
  cases fuel with
  | zero=>simp [DataW.trod] at h
  | succ n =>
    unfold DataW.trod at h
    rw [ht] at h
    split at h <;> simp_all
theorem FRow_of_trod {fuel:Nat} {c:Value} {x:DataW H × List MemPlace} (h:DataW.trod enc Tryz.prog W base spare held fuel 30 [c]=some x):∃ p n cap,c=.slice p n cap∧FRow W p n cap∧(p=none→cap=0):=by
  rcases DataW.trod_slice Tryz.underlying30 h with ⟨e,_⟩ | ⟨a,len,cap,elems,rest,n,_,e,_,hb,hlc,hcm,hel,hat,_⟩
  · simp only [List.cons.injEq,and_true] at e
    exact ⟨none,0,0,e,⟨Nat.le_refl _,by decide,fun h=>by omega,fun a ha=>by cases ha⟩,fun _=>rfl⟩
  · simp only [List.cons.injEq,and_true] at e
    refine ⟨some a,len,cap,e,⟨hlc,hcm,fun _=>⟨a,rfl⟩,fun a' ha i hi=>?_⟩,fun h=>by cases h⟩
    injection ha with ha
    subst ha
    have h1:=hat i hi
    rw [show Tryz.prog.cellsOf 26=1 by kernel_rfl,Nat.mul_one] at h1
    have hx:∃ y,elems[i]?=some y:=⟨_,List.getElem?_eq_getElem (by omega)⟩
    obtain ⟨y,hy⟩:=hx
    rw [hy] at h1
    obtain ⟨cs,hc,ht⟩:=Option.bind_eq_some_iff.1 h1
    obtain ⟨b,rfl,hb⟩:=trod_float1 Tryz.underlying26 ht
    exact ⟨b,cell_of_cells?_one hc,of_decide_eq_true hb⟩
end
end
section
open Go.Joins Go.ChangeShapes Go.WideShapes Go.RowKit Go.Deep Go.ChangeAt
inductive Raw where
  | mk (k d:Int) (n:Nat) (f:Nat→Nat) (kids:List Raw)
mutual
def wt:Raw→Nat
  | .mk _ _ n _ kids=>1+n+wts kids
def wts:List Raw→Nat
  | []=>0
  | t::ts=>wt t+wts ts
end
theorem wts_append:∀ (l m:List Raw),wts (l++m)=wts l+wts m
  | [],m=>by simp [wts]
  | t::l,m=>by simp only [List.cons_append,wts,wts_append l m];omega
theorem wts_take_succ (l:List Raw) (j:Nat) (t:Raw) (h:l[j]?=some t):wts (l.take (j+1))=wts (l.take j)+wt t:=by
  obtain ⟨hj,rfl⟩:=List.getElem?_eq_some_iff.1 h
  rw [List.take_succ_eq_append_getElem hj,wts_append]
  simp [wts]
theorem wt_pos (t:Raw):1≤wt t:=by cases t;unfold wt;omega
theorem wts_len:∀ (l:List Raw),l.length≤wts l
  | []=>by simp [wts]
  | t::l=>by
    have:=wts_len l
    have:=wt_pos t
    simp only [List.length_cons,wts];omega
theorem wts_mem:∀ (l:List Raw) (i:Nat) (t:Raw),l[i]?=some t→wt t≤wts l
  | [],_,_,h=>by simp at h
  | s::l,0,t,h=>by simp at h;subst h;simp only [wts];omega
  | s::l,i+1,t,h=>by
    have:=wts_mem l i t (by simpa using h)
    simp only [wts];omega
def KD (B:Nat→Prop):Nat→World→Value→Raw→Prop
  | 0,_,_,_=>False
  | h+1,W,v,.mk k d n f kids=>∃ p cap q c2,v=.agg #[.int .i64 k,.int .i64 d,.slice p n cap,.slice q kids.length c2]∧FVal W p n f∧n≤cap∧cap≤maxLen∧(p=none→cap=0)∧kids.length≤c2∧c2≤maxLen∧(q=none→c2=0) ∧
      (∀ a,q=some a→∀ i t,kids[i]?=some t→∃ c0 c1 c2 c3,KD B h W (.agg #[c0,c1,c2,c3]) t∧W.cell? (a.add (i*4))=some c0∧W.cell? ⟨(a.add (i*4)).block,(a.add (i*4)).off+1,none⟩=some c1∧W.cell? ⟨(a.add (i*4)).block,(a.add (i*4)).off+2,none⟩=some c2∧W.cell? ⟨(a.add (i*4)).block,(a.add (i*4)).off+3,none⟩=some c3) ∧
      (∀ a,p=some a→B a.block)∧∀ a,q=some a→B a.block
def Kept (B:Nat→Prop) (W W':World):Prop:=∀ a x,B a.block→W.cell? a=some x→W'.cell? a=some x
theorem Kept.grown {B:Nat→Prop} {W W':World} (g:W.grownBy W' none):Kept B W W':=fun _ _ _ h=>g.cell h (by simp)
theorem Kept.set {B:Nat→Prop} {W:World} {q:Addr} (hq:¬ B q.block) (x:Value):Kept B W (W.setCell q x):=fun a y ha h=>by
  rw [World.cell?_setCell_other (h:=fun e=>by subst e;exact hq ha)]
  exact h
theorem Kept.grownRow {B:Nat→Prop} {W W':World} {r:Option Nat} (g:W.grownBy W' r) (hr:∀ b,r=some b→¬ B b):Kept B W W':=fun a x ha h=>g.cell h (fun e=>hr _ e.symm ha)
theorem Kept.trans {B:Nat→Prop} {W W1 W2:World} (h:Kept B W W1) (h':Kept B W1 W2):Kept B W W2:=fun a x ha k=>h' a x ha (h a x ha k)
theorem add_block (a:Addr) (i:Nat):(a.add i).block=a.block:=by unfold Addr.add;split <;> rfl
theorem FVal.keep {B:Nat→Prop} {W W':World} (hg:Kept B W W') {p:Option Addr} {n:Nat} {f:Nat→Nat} (h:FVal W p n f) (hp:∀ a,p=some a→B a.block):FVal W' p n f :=
  ⟨h.some_,fun a ha i hi=>hg _ _ (by rw [add_block];exact hp a ha) (h.at_ a ha i hi),h.lt⟩
theorem KD.keep {B:Nat→Prop} {W W':World} (hg:Kept B W W'):∀ {h:Nat} {v:Value} {t:Raw},KD B h W v t→KD B h W' v t
  | 0,_,_,h=>h.elim
  | _+1,_,.mk _ _ _ _ _,⟨p,cap,q,c2,e,f,h1,h2,h3,h4,h5,h6,h7,h8,h9⟩=>⟨p,cap,q,c2,e,f.keep hg h8,h1,h2,h3,h4,h5,h6,fun a ha i t hi=>by
      obtain ⟨c0,c1,c2,c3,k0,k1,k2,k3,k4⟩:=h7 a ha i t hi
      have hb:B (a.add (i*4)).block:=by rw [add_block];exact h9 a ha
      exact ⟨c0,c1,c2,c3,KD.keep hg k0,hg _ _ hb k1,hg _ _ hb k2,hg _ _ hb k3,hg _ _ hb k4⟩,h8,h9⟩
theorem KD.mono {B:Nat→Prop} {W W':World} (hg:W.grownBy W' none) {h:Nat} {v:Value} {t:Raw} (k:KD B h W v t):KD B h W' v t:=k.keep (.grown hg)
theorem KD.weak {B B':Nat→Prop} (hl:∀ b,B b→B' b):∀ {h:Nat} {W:World} {v:Value} {t:Raw},KD B h W v t→KD B' h W v t
  | 0,_,_,_,h=>h.elim
  | _+1,_,_,.mk _ _ _ _ _,⟨p,cap,q,c2,e,f,h1,h2,h3,h4,h5,h6,h7,h8,h9⟩=>⟨p,cap,q,c2,e,f,h1,h2,h3,h4,h5,h6,fun a ha i t hi=>by
      obtain ⟨c0,c1,c2,c3,k0,k1,k2,k3,k4⟩:=h7 a ha i t hi
      exact ⟨c0,c1,c2,c3,KD.weak hl k0,k1,k2,k3,k4⟩,fun a ha=>hl _ (h8 a ha),fun a ha=>hl _ (h9 a ha)⟩
theorem KD.up {B:Nat→Prop} : ∀ {h:Nat} {W:World} {v:Value} {t:Raw},KD B h W v t→KD B (h+1) W v t
  | 0,_,_,_,h=>h.elim
  | _+1,_,_,.mk _ _ _ _ _,⟨p,cap,q,c2,e,f,h1,h2,h3,h4,h5,h6,h7,h8⟩=>⟨p,cap,q,c2,e,f,h1,h2,h3,h4,h5,h6,fun a ha i t hi=>by
      obtain ⟨c0,c1,c2,c3,k0,k1,k2,k3,k4⟩:=h7 a ha i t hi
      exact ⟨c0,c1,c2,c3,KD.up k0,k1,k2,k3,k4⟩,h8⟩
theorem KD.le {B:Nat→Prop} {h h':Nat} (hh:h≤h') {W:World} {v:Value} {t:Raw} (k:KD B h W v t):KD B h' W v t:=by
  induction hh with
  | refl=>exact k
  | step _ ih=>exact ih.up
theorem KD.form {B:Nat→Prop} {W:World} : ∀ {h:Nat} {v:Value} {t:Raw},KD B h W v t→∃ k d n f kids p cap q c2,t=.mk k d n f kids∧v=.agg #[.int .i64 k,.int .i64 d,.slice p n cap,.slice q kids.length c2]
  | 0,_,_,h=>by cases h
  | _+1,_,.mk k d n f kids,⟨p,cap,q,c2,e,_⟩=>⟨k,d,n,f,kids,p,cap,q,c2,rfl,e⟩
theorem KD.form4 {B:Nat→Prop} {W:World} {h:Nat} {c0 c1 c2 c3:Value} {t:Raw} (hk:KD B h W (.agg #[c0,c1,c2,c3]) t):∃ k d n f kids p cap q c,t=.mk k d n f kids∧c0=.int .i64 k∧c1=.int .i64 d∧c2=.slice p n cap∧c3=.slice q kids.length c:=by
  obtain ⟨k,d,n,f,kids,p,cap,q,c,rfl,e⟩:=hk.form
  simp only [Value.agg.injEq,Array.mk.injEq,List.cons.injEq,and_true] at e
  exact ⟨k,d,n,f,kids,p,cap,q,c,rfl,e⟩
theorem list_of {α:Type} {P:Nat→α→Prop} : ∀ (n:Nat),(∀ i,i<n→∃ t,P i t)→∃ l:List α,l.length=n∧∀ i t,l[i]?=some t→P i t
  | 0,_=>⟨[],rfl,fun i t h=>by simp at h⟩
  | n+1,h=>by
    obtain ⟨l,hl,hp⟩:=list_of n fun i hi=>h i (by omega)
    obtain ⟨t,ht⟩:=h n (by omega)
    refine ⟨l++[t],by simp [hl],fun i s hs=>?_⟩
    by_cases hi:i<n
    · rw [List.getElem?_append_left (by omega)] at hs
      exact hp i s hs
    · rw [List.getElem?_append_right (by omega)] at hs
      obtain ⟨h0,h1⟩:=List.getElem?_eq_some_iff.1 hs
      have:i=n:=by simp at h0;omega
      subst this
      simp [hl] at h1
      subst h1
      exact ht
section
variable {H:Type} {enc:TypeId × Value→H} {W:World} {base:Nat} {spare:Nat→Bool} {held:Bool}
theorem KD_of_trod:∀ (fuel:Nat) (cs:List Value) (x:DataW H × List MemPlace),DataW.trod enc Tryz.prog W base spare held fuel 33 cs=some x →
    ∃ c0 c1 c2 c3 t,cs=[c0,c1,c2,c3]∧KD (fun _=>True) fuel W (.agg #[c0,c1,c2,c3]) t:=by
  intro fuel
  induction fuel using Nat.strongRecOn with
  | ind fuel ih =>
    intro cs x h
    obtain ⟨xs,n,rfl,rfl,hl,hlen,hf⟩:=DataW.trod_struct Tryz.underlying33 h
    have hC:Tryz.prog.cellsOf 33=4:=by kernel_rfl
    rw [hC] at hl
    obtain ⟨c0,c1,c2,c3,rfl⟩:=list4 hl
    obtain ⟨y0,y1,y2,y3,rfl⟩:=list4 hlen
    have g0:DataW.trod enc Tryz.prog W base spare held n 3 (([c0,c1,c2,c3].drop 0).take (Tryz.prog.cellsOf 3))=some y0:=hf 0 _ rfl
    have g1:DataW.trod enc Tryz.prog W base spare held n 3 (([c0,c1,c2,c3].drop 1).take (Tryz.prog.cellsOf 3))=some y1:=hf 1 _ rfl
    have g2:DataW.trod enc Tryz.prog W base spare held n 30 (([c0,c1,c2,c3].drop 2).take (Tryz.prog.cellsOf 30))=some y2:=hf 2 _ rfl
    have g3:DataW.trod enc Tryz.prog W base spare held n 31 (([c0,c1,c2,c3].drop 3).take (Tryz.prog.cellsOf 31))=some y3:=hf 3 _ rfl
    have s3:Tryz.prog.cellsOf 3=1:=by kernel_rfl
    have sf:Tryz.prog.cellsOf 30=1:=by kernel_rfl
    have sg:Tryz.prog.cellsOf 31=1:=by kernel_rfl
    simp only [s3,sf,sg,List.drop_zero,List.drop_succ_cons,List.take_succ_cons,List.take_zero] at g0 g1 g2 g3
    obtain ⟨k,e0,_,_⟩:=DataW.trod_int Tryz.underlying3 g0
    obtain ⟨d,e1,_,_⟩:=DataW.trod_int Tryz.underlying3 g1
    obtain ⟨p,nn,cap,e2,hr,hpn⟩:=FRow_of_trod g2
    obtain ⟨f,hfv⟩:=hr.vals
    simp only [List.cons.injEq,and_true] at e0 e1
    rcases DataW.trod_slice Tryz.underlying31 g3 with ⟨e,_⟩ | ⟨a,len,cap3,elems,rest,m,em,e,_,hb,hlc,hcm,hel,hat,_⟩
    · simp only [List.cons.injEq,and_true] at e
      exact ⟨c0,c1,c2,c3,.mk k d nn f [],rfl,p,cap,none,0,by rw [e0,e1,e2,e];rfl,hfv,hr.le,hr.most,hpn,Nat.le_refl _,by decide,fun _=>rfl,(fun a ha=>by cases ha),fun _ _=>trivial,fun _ _=>trivial⟩
    · simp only [List.cons.injEq,and_true] at e
      obtain ⟨kids,hkl,hkp⟩:=list_of (P:=fun i t=>∃ d0 d1 d2 d3,KD (fun _=>True) n W (.agg #[d0,d1,d2,d3]) t∧W.cell? (a.add (i*4))=some d0∧W.cell? ⟨(a.add (i*4)).block,(a.add (i*4)).off+1,none⟩=some d1∧W.cell? ⟨(a.add (i*4)).block,(a.add (i*4)).off+2,none⟩=some d2∧W.cell? ⟨(a.add (i*4)).block,(a.add (i*4)).off+3,none⟩=some d3) len (fun i hi=>by
        have h1:=hat i hi
        rw [hC] at h1
        have hx:∃ y,elems[i]?=some y:=⟨_,List.getElem?_eq_getElem (by omega)⟩
        obtain ⟨y,hy⟩:=hx
        rw [hy] at h1
        obtain ⟨cs',hc,ht⟩:=Option.bind_eq_some_iff.1 h1
        obtain ⟨d0,d1,d2,d3,t,rfl,hk⟩:=ih m (by omega) cs' y ht
        have hcell:=World.cells?_some hc
        obtain ⟨_,hlen',hcell⟩:=hcell
        refine ⟨t,d0,d1,d2,d3,hk.le (by omega),?_,?_,?_,?_⟩
        · have:=hcell 0 (by omega)
          simpa [Addr.add] using this
        · have:=hcell 1 (by omega)
          rw [add_add _ 1 (by omega)] at this
          simpa using this
        · have:=hcell 2 (by omega)
          rw [add_add _ 2 (by omega)] at this
          simpa using this
        · have:=hcell 3 (by omega)
          rw [add_add _ 3 (by omega)] at this
          simpa using this)
      refine ⟨c0,c1,c2,c3,.mk k d nn f kids,rfl,p,cap,some a,cap3,by rw [e0,e1,e2,e,hkl],hfv,hr.le,hr.most,hpn,by omega,hcm,(fun h=>by cases h),fun a' ha i t hi=>?_,fun _ _=>trivial,fun _ _=>trivial⟩
      injection ha with ha
      subst ha
      exact hkp i t hi
end
end
section
open Go.RowKit
theorem NewLineString_any (x y:Value) (hx:∃ k n,x=.int k n) (hy:∃ p n c,y=.slice p n c) (w:World) :
    Calls Tryz.prog 107 #[.agg #[x,y]] w fun e w'=>e=.returned (.agg #[x,y])∧w.grownBy w' none:=by
  obtain ⟨k,n,rfl⟩:=hx
  obtain ⟨p,n,c,rfl⟩:=hy
  go_enter Tryz.func107,Tryz.ntmps107
  go_wp2_with fail
  go_returns
  exact ⟨rfl,gt_alloc_r (World.grownBy_alloc _ _ _) _⟩
def SeqIs (W:World) (v:Value) (r n:Nat) (f:Nat→Nat):Prop:=∃ a,v=.agg #[.int .u8 r,.slice (some a) n n]∧FVal W (some a) n f∧a.block<W.heap.size
theorem SeqIs.mono {W W':World} {v:Value} {r n:Nat} {f:Nat→Nat} (h:SeqIs W v r n f) (hg:W.grownBy W' none):SeqIs W' v r n f:=by
  obtain ⟨a,e,hf,hb⟩:=h;exact ⟨a,e,hf.mono hg,Nat.lt_of_lt_of_le hb hg.size⟩
theorem Length_any (r N:Nat) (hr:r<4) (a:Option Addr) (c:Nat) (hN:N≤2000) (W:World):Calls Tryz.prog 102 #[.agg #[.int .u8 r,.slice a N c]] W fun e w'=>e=.returned (.int .i64 (N / widN r:Nat))∧W.grownBy w' none:=by
  obtain ⟨k,hk,hk2,hk4⟩ : ∃ k:Nat,k=widN r∧2≤k∧k≤4:=⟨widN r,rfl,by unfold widN;omega,by unfold widN;omega⟩
  have HD:=Lib.hid (fun w=>Dimension_any r hr w)
  rw [←hk] at HD ⊢
  clear hk
  obtain ⟨L,hL⟩ : ∃ L:Nat,L=N / k:=⟨_,rfl⟩
  have hk0:¬ k=0:=by omega
  have hwr:IntKind.i64.wrap ((N:Int) / (k:Int))=(L:Int):=by
    have e:(N:Int) / (k:Int)=(L:Int):=by rw [hL];push_cast;rfl
    have hle:L≤N:=by rw [hL];exact Nat.div_le_self _ _
    rw [e,IntKind.wrap_i64];omega
  rw [←hL]
  clear hL
  go_enter Tryz.func102,Tryz.ntmps102
  go_wp2_with fail
  go_quiet ((go_at_call 168;exact Calls.quiet_of_same ((HD.out _).mono fun e w' h=>h)))
  go_wp2_with fail
  go_ret
  exact ⟨rfl,gt_drewN_r (World.grownBy_alloc _ _ _) _⟩
end
section
open Go.RowKit
theorem Get_0 (n i:Nat) (a:Addr) (f:Nat→Nat) (hn:n≤2000) (hi:i*2+1<n) (W:World) (hf:FVal W (some a) n f) :
    Calls Tryz.prog 106 #[.agg #[.int .u8 0,.slice (some a) n n],.int .i64 i] W fun e w'=>e=.returned (.agg #[.float .f64 (f (i*2)),.float .f64 (f (i*2+1)),.float .f64 0,.float .f64 0,.int .u8 0])∧W.grownBy w' none:=by
  have HD:=Lib.hid (fun w=>Dimension_lit 0 2 (.inl ⟨rfl,rfl⟩) w)
  obtain ⟨j1,e1⟩ : ∃ j1,j1=i*2+1:=⟨_,rfl⟩
  rw [←e1] at hi ⊢
  obtain ⟨j0,e0⟩ : ∃ j0,j0=i*2:=⟨_,rfl⟩
  rw [←e0] at e1 ⊢
  have q0:=hf.at_ a rfl j0 (by omega)
  have q1:=hf.at_ a rfl j1 (by omega)
  have hw0:IntKind.i64.wrap ((i:Int)*2)=(j0:Int):=by rw [IntKind.wrap_i64];omega
  have hw1:IntKind.i64.wrap ((j0:Int)+1)=(j1:Int):=by rw [IntKind.wrap_i64];omega
  have b00:(0:Int)≤(j0:Int):=by omega
  have b01:(j0:Int)<(n:Int):=by omega
  have b10:(0:Int)≤(j1:Int):=by omega
  have b11:(j1:Int)<(n:Int):=by omega
  clear e0 e1
  have hsf:=run_store_flt Tryz.prog
  have HS:Hid (∀ w',((W.alloc (.cells #[.int .u8 0,.slice (some a) n n] 91)).alloc (.cells #[.float .f64 0,.float .f64 0,.float .f64 0,.float .f64 0,.int .u8 0] 85)).grownBy w' none→w'.cell? ⟨W.heap.size,0,none⟩=some (.int .u8 0)∧w'.cell? ⟨W.heap.size,1,none⟩=some (.slice (some a) n n)∧w'.cell? (a.add j0)=some (.float .f64 (f j0))∧w'.cell? (a.add j1)=some (.float .f64 (f j1))):=fun w' g=>by
    have g0:=gt_trans (gt_alloc_r (World.grownBy_alloc W _ none) _) g (.inl rfl)
    exact ⟨g.cell (by simp) (by simp),g.cell (by simp) (by simp),g0.cell q0 (by simp),g0.cell q1 (by simp)⟩
  go_enter Tryz.func106,Tryz.ntmps106
  go_wp2_with (go_at_call 168;refine (HD.out _).mono ?_;rintro e w' ⟨rfl,rfl⟩)
  go_region_held3 (fun w'=>w'.cell? ⟨W.heap.size,0,none⟩=some (.int .u8 0)∧w'.cell? ⟨W.heap.size,1,none⟩=some (.slice (some a) n n)∧w'.cell? (a.add j0)=some (.float .f64 (f j0))∧w'.cell? (a.add j1)=some (.float .f64 (f j1))) (first | exact HS.out _ (gt_below (by go_grown) none))
    (first | (fail))
  rename_i hHeld
  obtain ⟨h0,h1,p0,p1⟩:=hHeld
  clear q0 q1
  go_wp2_with fail
  go_returns
  exact ⟨rfl,gt_below (by go_grown) none⟩
theorem Get_1 (n i:Nat) (a:Addr) (f:Nat→Nat) (hn:n≤2000) (hi:i*3+2<n) (W:World) (hf:FVal W (some a) n f) :
    Calls Tryz.prog 106 #[.agg #[.int .u8 1,.slice (some a) n n],.int .i64 i] W fun e w'=>e=.returned (.agg #[.float .f64 (f (i*3)),.float .f64 (f (i*3+1)),.float .f64 (f (i*3+2)),.float .f64 0,.int .u8 1])∧W.grownBy w' none:=by
  have HD:=Lib.hid (fun w=>Dimension_lit 1 3 (.inr (.inl ⟨rfl,rfl⟩)) w)
  obtain ⟨j2,e2⟩ : ∃ j2,j2=i*3+2:=⟨_,rfl⟩
  rw [←e2] at hi ⊢
  obtain ⟨j1,e1⟩ : ∃ j1,j1=i*3+1:=⟨_,rfl⟩
  rw [←e1]
  obtain ⟨j0,e0⟩ : ∃ j0,j0=i*3:=⟨_,rfl⟩
  rw [←e0] at e1 e2 ⊢
  have q0:=hf.at_ a rfl j0 (by omega)
  have q1:=hf.at_ a rfl j1 (by omega)
  have q2:=hf.at_ a rfl j2 (by omega)
  have hw0:IntKind.i64.wrap ((i:Int)*3)=(j0:Int):=by rw [IntKind.wrap_i64];omega
  have hw1:IntKind.i64.wrap ((j0:Int)+1)=(j1:Int):=by rw [IntKind.wrap_i64];omega
  have hw2:IntKind.i64.wrap ((j0:Int)+2)=(j2:Int):=by rw [IntKind.wrap_i64];omega
  have b00:(0:Int)≤(j0:Int):=by omega
  have b01:(j0:Int)<(n:Int):=by omega
  have b10:(0:Int)≤(j1:Int):=by omega
  have b11:(j1:Int)<(n:Int):=by omega
  have b20:(0:Int)≤(j2:Int):=by omega
  have b21:(j2:Int)<(n:Int):=by omega
  clear e0 e1 e2
  have hsf:=run_store_flt Tryz.prog
  have HS:Hid (∀ w',((W.alloc (.cells #[.int .u8 1,.slice (some a) n n] 91)).alloc (.cells #[.float .f64 0,.float .f64 0,.float .f64 0,.float .f64 0,.int .u8 0] 85)).grownBy w' none→w'.cell? ⟨W.heap.size,0,none⟩=some (.int .u8 1)∧w'.cell? ⟨W.heap.size,1,none⟩=some (.slice (some a) n n)∧w'.cell? (a.add j0)=some (.float .f64 (f j0))∧w'.cell? (a.add j1)=some (.float .f64 (f j1))∧w'.cell? (a.add j2)=some (.float .f64 (f j2))):=fun w' g=>by
    have g0:=gt_trans (gt_alloc_r (World.grownBy_alloc W _ none) _) g (.inl rfl)
    exact ⟨g.cell (by simp) (by simp),g.cell (by simp) (by simp),g0.cell q0 (by simp),g0.cell q1 (by simp),g0.cell q2 (by simp)⟩
  go_enter Tryz.func106,Tryz.ntmps106
  go_wp2_with (go_at_call 168;refine (HD.out _).mono ?_;rintro e w' ⟨rfl,rfl⟩)
  go_region_held3 (fun w'=>w'.cell? ⟨W.heap.size,0,none⟩=some (.int .u8 1)∧w'.cell? ⟨W.heap.size,1,none⟩=some (.slice (some a) n n)∧w'.cell? (a.add j0)=some (.float .f64 (f j0))∧w'.cell? (a.add j1)=some (.float .f64 (f j1))∧w'.cell? (a.add j2)=some (.float .f64 (f j2))) (first | exact HS.out _ (gt_below (by go_grown) none))
    (first | (fail))
  rename_i hHeld
  obtain ⟨h0,h1,p0,p1,p2⟩:=hHeld
  clear q0 q1 q2
  go_wp2_with fail
  go_returns
  exact ⟨rfl,gt_below (by go_grown) none⟩
theorem Get_2 (n i:Nat) (a:Addr) (f:Nat→Nat) (hn:n≤2000) (hi:i*3+2<n) (W:World) (hf:FVal W (some a) n f) :
    Calls Tryz.prog 106 #[.agg #[.int .u8 2,.slice (some a) n n],.int .i64 i] W fun e w'=>e=.returned (.agg #[.float .f64 (f (i*3)),.float .f64 (f (i*3+1)),.float .f64 0,.float .f64 (f (i*3+2)),.int .u8 2])∧W.grownBy w' none:=by
  have HD:=Lib.hid (fun w=>Dimension_lit 2 3 (.inr (.inr (.inl ⟨rfl,rfl⟩))) w)
  obtain ⟨j2,e2⟩ : ∃ j2,j2=i*3+2:=⟨_,rfl⟩
  rw [←e2] at hi ⊢
  obtain ⟨j1,e1⟩ : ∃ j1,j1=i*3+1:=⟨_,rfl⟩
  rw [←e1]
  obtain ⟨j0,e0⟩ : ∃ j0,j0=i*3:=⟨_,rfl⟩
  rw [←e0] at e1 e2 ⊢
  have q0:=hf.at_ a rfl j0 (by omega)
  have q1:=hf.at_ a rfl j1 (by omega)
  have q2:=hf.at_ a rfl j2 (by omega)
  have hw0:IntKind.i64.wrap ((i:Int)*3)=(j0:Int):=by rw [IntKind.wrap_i64];omega
  have hw1:IntKind.i64.wrap ((j0:Int)+1)=(j1:Int):=by rw [IntKind.wrap_i64];omega
  have hw2:IntKind.i64.wrap ((j0:Int)+2)=(j2:Int):=by rw [IntKind.wrap_i64];omega
  have b00:(0:Int)≤(j0:Int):=by omega
  have b01:(j0:Int)<(n:Int):=by omega
  have b10:(0:Int)≤(j1:Int):=by omega
  have b11:(j1:Int)<(n:Int):=by omega
  have b20:(0:Int)≤(j2:Int):=by omega
  have b21:(j2:Int)<(n:Int):=by omega
  clear e0 e1 e2
  have hsf:=run_store_flt Tryz.prog
  have HS:Hid (∀ w',((W.alloc (.cells #[.int .u8 2,.slice (some a) n n] 91)).alloc (.cells #[.float .f64 0,.float .f64 0,.float .f64 0,.float .f64 0,.int .u8 0] 85)).grownBy w' none→w'.cell? ⟨W.heap.size,0,none⟩=some (.int .u8 2)∧w'.cell? ⟨W.heap.size,1,none⟩=some (.slice (some a) n n)∧w'.cell? (a.add j0)=some (.float .f64 (f j0))∧w'.cell? (a.add j1)=some (.float .f64 (f j1))∧w'.cell? (a.add j2)=some (.float .f64 (f j2))):=fun w' g=>by
    have g0:=gt_trans (gt_alloc_r (World.grownBy_alloc W _ none) _) g (.inl rfl)
    exact ⟨g.cell (by simp) (by simp),g.cell (by simp) (by simp),g0.cell q0 (by simp),g0.cell q1 (by simp),g0.cell q2 (by simp)⟩
  go_enter Tryz.func106,Tryz.ntmps106
  go_wp2_with (go_at_call 168;refine (HD.out _).mono ?_;rintro e w' ⟨rfl,rfl⟩)
  go_region_held3 (fun w'=>w'.cell? ⟨W.heap.size,0,none⟩=some (.int .u8 2)∧w'.cell? ⟨W.heap.size,1,none⟩=some (.slice (some a) n n)∧w'.cell? (a.add j0)=some (.float .f64 (f j0))∧w'.cell? (a.add j1)=some (.float .f64 (f j1))∧w'.cell? (a.add j2)=some (.float .f64 (f j2))) (first | exact HS.out _ (gt_below (by go_grown) none))
    (first | (fail))
  rename_i hHeld
  obtain ⟨h0,h1,p0,p1,p2⟩:=hHeld
  clear q0 q1 q2
  go_wp2_with fail
  go_returns
  exact ⟨rfl,gt_below (by go_grown) none⟩
theorem Get_3 (n i:Nat) (a:Addr) (f:Nat→Nat) (hn:n≤2000) (hi:i*4+3<n) (W:World) (hf:FVal W (some a) n f) :
    Calls Tryz.prog 106 #[.agg #[.int .u8 3,.slice (some a) n n],.int .i64 i] W fun e w'=>e=.returned (.agg #[.float .f64 (f (i*4)),.float .f64 (f (i*4+1)),.float .f64 (f (i*4+2)),.float .f64 (f (i*4+3)),.int .u8 3])∧W.grownBy w' none:=by
  have HD:=Lib.hid (fun w=>Dimension_lit 3 4 (.inr (.inr (.inr ⟨rfl,rfl⟩))) w)
  obtain ⟨j3,e3⟩ : ∃ j3,j3=i*4+3:=⟨_,rfl⟩
  rw [←e3] at hi ⊢
  obtain ⟨j2,e2⟩ : ∃ j2,j2=i*4+2:=⟨_,rfl⟩
  rw [←e2]
  obtain ⟨j1,e1⟩ : ∃ j1,j1=i*4+1:=⟨_,rfl⟩
  rw [←e1]
  obtain ⟨j0,e0⟩ : ∃ j0,j0=i*4:=⟨_,rfl⟩
  rw [←e0] at e1 e2 e3 ⊢
  have q0:=hf.at_ a rfl j0 (by omega)
  have q1:=hf.at_ a rfl j1 (by omega)
  have q2:=hf.at_ a rfl j2 (by omega)
  have q3:=hf.at_ a rfl j3 (by omega)
  have hw0:IntKind.i64.wrap ((i:Int)*4)=(j0:Int):=by rw [IntKind.wrap_i64];omega
  have hw1:IntKind.i64.wrap ((j0:Int)+1)=(j1:Int):=by rw [IntKind.wrap_i64];omega
  have hw2:IntKind.i64.wrap ((j0:Int)+2)=(j2:Int):=by rw [IntKind.wrap_i64];omega
  have hw3:IntKind.i64.wrap ((j0:Int)+3)=(j3:Int):=by rw [IntKind.wrap_i64];omega
  have b00:(0:Int)≤(j0:Int):=by omega
  have b01:(j0:Int)<(n:Int):=by omega
  have b10:(0:Int)≤(j1:Int):=by omega
  have b11:(j1:Int)<(n:Int):=by omega
  have b20:(0:Int)≤(j2:Int):=by omega
  have b21:(j2:Int)<(n:Int):=by omega
  have b30:(0:Int)≤(j3:Int):=by omega
  have b31:(j3:Int)<(n:Int):=by omega
  clear e0 e1 e2 e3
  have hsf:=run_store_flt Tryz.prog
  have HS:Hid (∀ w',((W.alloc (.cells #[.int .u8 3,.slice (some a) n n] 91)).alloc (.cells #[.float .f64 0,.float .f64 0,.float .f64 0,.float .f64 0,.int .u8 0] 85)).grownBy w' none→w'.cell? ⟨W.heap.size,0,none⟩=some (.int .u8 3)∧w'.cell? ⟨W.heap.size,1,none⟩=some (.slice (some a) n n)∧w'.cell? (a.add j0)=some (.float .f64 (f j0))∧w'.cell? (a.add j1)=some (.float .f64 (f j1))∧w'.cell? (a.add j2)=some (.float .f64 (f j2))∧w'.cell? (a.add j3)=some (.float .f64 (f j3))):=fun w' g=>by
    have g0:=gt_trans (gt_alloc_r (World.grownBy_alloc W _ none) _) g (.inl rfl)
    exact ⟨g.cell (by simp) (by simp),g.cell (by simp) (by simp),g0.cell q0 (by simp),g0.cell q1 (by simp),g0.cell q2 (by simp),g0.cell q3 (by simp)⟩
  go_enter Tryz.func106,Tryz.ntmps106
  go_wp2_with (go_at_call 168;refine (HD.out _).mono ?_;rintro e w' ⟨rfl,rfl⟩)
  go_region_held3 (fun w'=>w'.cell? ⟨W.heap.size,0,none⟩=some (.int .u8 3)∧w'.cell? ⟨W.heap.size,1,none⟩=some (.slice (some a) n n)∧w'.cell? (a.add j0)=some (.float .f64 (f j0))∧w'.cell? (a.add j1)=some (.float .f64 (f j1))∧w'.cell? (a.add j2)=some (.float .f64 (f j2))∧w'.cell? (a.add j3)=some (.float .f64 (f j3))) (first | exact HS.out _ (gt_below (by go_grown) none))
    (first | (fail))
  rename_i hHeld
  obtain ⟨h0,h1,p0,p1,p2,p3⟩:=hHeld
  clear q0 q1 q2 q3
  have pa3:∀ O:Obj,((((W.alloc (.cells #[.int .u8 3,.slice (some a) n n] 91)).alloc (.cells #[.float .f64 0,.float .f64 0,.float .f64 0,.float .f64 0,.int .u8 0] 85)).alloc O).drew).cell? (a.add j3)=some (.float .f64 (f j3)):=fun O=>(HS.out _ (gt_below (by go_grown) none)).2.2.2.2.2
  go_wp2_with fail
  go_returns
  exact ⟨rfl,gt_below (by go_grown) none⟩
end
section
open Go.RowKit
end
section
open Go.RowKit
end
section
open Go.RowKit Go.Sort Go.Lib
end
section
open Go.RowKit
end
section
open Go.RowKit
end
section
open Go.RowKit
end
section
open Go.RowKit
theorem i64_and3 (n:Int):bits .and .i64 n 3=n % 4:=by
  have h127:(BitVec.ofInt 64 3).toNat=2 ^ 2 - 1:=by decide
  have key:(BitVec.ofInt 64 n &&& BitVec.ofInt 64 3).toNat=(n % ((2 ^ 64:Nat):Int)).toNat % 2 ^ 2:=by
    rw [BitVec.toNat_and,BitVec.toNat_ofInt,h127,Nat.and_two_pow_sub_one_eq_mod]
  show IntKind.i64.wrap ((BitVec.ofInt 64 n &&& BitVec.ofInt 64 3).toNat:Nat)=n % 4
  rw [key,IntKind.wrap_i64]
  omega
theorem u8_and1 (d:Int) (h0:0≤d) (h1:d≤3):bits .and .u8 d 1=d % 2:=bits_mask .u8 8 (by decide) wraps_u8 1 (by decide) d h0 (by omega)
theorem Is3D_any (d:Int) (h0:0≤d) (h1:d≤3) (w:World) :
    Calls Tryz.prog 142 #[.int .u8 d] w fun e w'=>e=.returned (.bool (decide (d % 2=1)))∧w'=w:=by
  have he:=u8_and1 d h0 h1
  have h2:(d % 2 != 0)=decide (d % 2=1):=by
    rw [Bool.eq_iff_iff]
    simp
    omega
  go_enter Tryz.func142,Tryz.ntmps142
  go_wp2
  go_ret
  exact ⟨rfl,rfl⟩
end
section
open Go.RowKit
def plX (r:Nat) (f:Nat→Nat) (i:Nat):Nat:=f (i*widN r)
def plY (r:Nat) (f:Nat→Nat) (i:Nat):Nat:=f (i*widN r+1)
def plZ (r:Nat) (f:Nat→Nat) (i:Nat):Nat:=if r % 2=1 then f (i*widN r+2) else 0
def plM (r:Nat) (f:Nat→Nat) (i:Nat):Nat:=if r / 2=1 then f (i*widN r+widN r - 1) else 0
theorem Get_any (r n i:Nat) (a:Addr) (f:Nat→Nat) (hr:r<4) (hn:n≤2000) (hi:i*widN r+widN r≤n) (W:World) (hf:FVal W (some a) n f) :
    Calls Tryz.prog 106 #[.agg #[.int .u8 r,.slice (some a) n n],.int .i64 i] W fun e w'=>e=.returned (.agg #[.float .f64 (plX r f i),.float .f64 (plY r f i),.float .f64 (plZ r f i),.float .f64 (plM r f i),.int .u8 r])∧W.grownBy w' none:=by
  rcases (by omega:r=0∨r=1∨r=2∨r=3) with rfl | rfl | rfl | rfl
  · exact Get_0 n i a f hn (by simp [widN] at hi;omega) W hf
  · exact Get_1 n i a f hn (by simp [widN] at hi;omega) W hf
  · exact Get_2 n i a f hn (by simp [widN] at hi;omega) W hf
  · exact Get_3 n i a f hn (by simp [widN] at hi;omega) W hf
theorem FVal.kept {W W':World} {p:Option Addr} {n:Nat} {f:Nat→Nat} {r:Option Nat} (h:FVal W p n f) (hg:W.grownBy W' r) (hr:∀ a,p=some a→r≠some a.block):FVal W' p n f :=
  ⟨h.some_,fun a ha i hi=>hg.cell (h.at_ a ha i hi) (fun e=>by
    have hb:(a.add i).block=a.block:=by unfold Addr.add;split <;> rfl
    rw [hb] at e
    exact hr a ha e.symm),h.lt⟩
end
section
open Go.RowKit
end
section
open Go.RowKit
structure AppV (e size base:Nat) (w0:World) (v0:Value) (w:World) (v:Value) (n:Nat) (xs:List Value):Prop where
  own:w.ownsRow base e size v n xs
  grown:w0.grownBy w v0.ownBlock
  at_:v.ownBlock=v0.ownBlock∨∃ b,v.ownBlock=some b∧w0.heap.size≤b
section
variable {e size base:Nat} {w0 w w1 w2:World} {v0 v v1 v2:Value} {n n1 n2:Nat} {xs xs1 xs2:List Value}
theorem AppV.start (h:w.ownsRow base e size v n xs):AppV e size base w v w v n xs:=⟨h,gt_refl _ _,.inl rfl⟩
theorem AppV.nil (w:World) (e size base:Nat):AppV e size base w (.slice none 0 0) w (.slice none 0 0) 0 []:=.start (World.ownsRow_nil w base e size)
theorem AppV.trans (h:AppV e size base w0 v0 w1 v1 n1 xs1) (k:AppV e size base w1 v1 w2 v2 n2 xs2):AppV e size base w0 v0 w2 v2 n2 xs2:=by
  refine ⟨k.own,gt_trans h.grown k.grown ?_,?_⟩
  · rcases h.at_ with h | ⟨b,h,hb⟩
    · exact .inl h
    · exact .inr (.inr ⟨b,h,hb⟩)
  · rcases k.at_ with k' | ⟨b,k',hb⟩
    · rcases h.at_ with h | ⟨b,h,hb⟩
      · exact .inl (k'.trans h)
      · exact .inr ⟨b,k'.trans h,hb⟩
    · exact .inr ⟨b,k',Nat.le_trans h.grown.size hb⟩
theorem AppV.beside (h:AppV e size base w0 v0 w v n xs) (k:w.grownBy w1 none):AppV e size base w0 v0 w1 v n xs :=
  ⟨h.own.kept k (by cases v.ownBlock <;> simp),gt_trans h.grown k (.inr (.inl rfl)),h.at_⟩
theorem AppV.based (h:AppV e size base w0 v0 w v n xs) (hb:base≤w0.heap.size):base≤w.heap.size:=Nat.le_trans hb h.grown.size
theorem AppV.cell (h:AppV e size base w0 v0 w v n xs) {a:Addr} (hlt:a.block<w0.heap.size) (hne:v0.ownBlock≠some a.block):w.cell? a=w0.cell? a :=
  World.cell?_of_block (h.grown.block _ hlt (fun he=>hne he.symm))
theorem AppV.slice (h:AppV e size base w0 v0 w v n xs):∃ p c,v=.slice p n c:=by
  rcases h.own.2 with h | ⟨g,cap,cur,hv,_⟩
  · exact ⟨none,0,by rw [h.1,h.2]⟩
  · exact ⟨_,_,hv⟩
theorem AppV.grown0 (h:AppV e size base w0 (.slice none 0 0) w v n xs):w0.grownBy w none:=h.grown
end
section
variable {e size base:Nat} {w0 W:World} {v0 v:Value} {n:Nat} {xs:List Value}
variable {P:Program} {ops:Array Oper} {rest:List Oper} {o:Oper} {a:Act} {Q:Exit→Act→World→Prop}
theorem app_cells (hgd:o.guard=none) (s x:Operand) (t:TypeId) (ho:o.op=.call { callee:=.builtin .append,args:=#[s,x],argTypes:=#[t,t] })
    (ht:P.underlying t=some (.slice e)) (z:Value) (bytes:Nat) (hinfo:(P.info? e).map (fun i=>(i.zero,i.size,i.bytes))=some (some z,size,bytes)) (hzs:z.cells.size=size) (hsz:0<size)
    (H:AppV e size base w0 v0 W v n xs) (hs:a.eval s=v) {k m c:Nat} (hx:a.eval x=.slice (some ⟨k,0,none⟩) m c) (hk:k=W.heap.size) (cs:Array Value) (hcl:cs.size=m*size) (h1:∀ u ∈ cs.toList,u.oneCell'=true)
    (hbase:base≤w0.heap.size) (hl:(n+m)*bytes≤140737488355328) (hl2:n+m≤140737488355328)
    (h:∀ v1 w1,AppV e size base w0 v0 w1 v1 (n+m) (xs++cs.toList)→wpList P ops Q rest (a.put o.dst v1) w1) :
    wpList P ops Q (o::rest) a (W.alloc (.cells cs e)):=by
  subst hk
  obtain ⟨i0,hi,hzz⟩:=Option.map_eq_some_iff.1 hinfo
  simp only [Prod.mk.injEq] at hzz
  obtain ⟨hz0,hz1,hz2⟩:=hzz
  refine wpList_append_own_at (W.alloc (.cells cs e)) hgd s x t ho base e i0 z size bytes ht hi hz0 hz1 hz2 hzs hsz v n xs hs (H.own.alloc _) ⟨W.heap.size,0,none⟩ m c cs.toList hx (by simpa using hcl)
    (fun j u hj=>?_) h1 (by simp only [maxLen];omega) hl (by have:=H.based hbase;simp;omega) ?_
  · by_cases h0:j=0
    · subst h0;simp [Addr.add];simpa using hj
    · simp [Addr.add,h0];simpa using hj
  · intro v1 w1 hown hg _ hat
    have hb:=H.beside (World.grownBy_alloc W (.cells cs e) none)
    refine h v1 w1 (hb.trans ⟨hown,hg,?_⟩)
    rcases hat with hat | hat
    · exact .inl hat
    · exact .inr ⟨_,hat,Nat.le_refl _⟩
end
end
section
open Go.RowKit
end
section
open Go.RowKit
theorem Is3D_lit (d:Int) (b:Bool) (h:(d=0∧b=false)∨(d=1∧b=true)∨(d=2∧b=false)∨(d=3∧b=true)) (w:World) :
    Calls Tryz.prog 142 #[.int .u8 d] w fun e w'=>e=.returned (.bool b)∧w'=w:=by
  refine (Is3D_any d (by omega) (by omega) w).mono fun e w' ⟨he,hw⟩=>⟨?_,hw⟩
  rw [he]
  rcases h with ⟨rfl,rfl⟩ | ⟨rfl,rfl⟩ | ⟨rfl,rfl⟩ | ⟨rfl,rfl⟩ <;> rfl
theorem IsMeasured_lit (d:Int) (b:Bool) (h:(d=0∧b=false)∨(d=1∧b=false)∨(d=2∧b=true)∨(d=3∧b=true)) (w:World) :
    Calls Tryz.prog 143 #[.int .u8 d] w fun e w'=>e=.returned (.bool b)∧w'=w:=by
  rcases h with ⟨rfl,rfl⟩ | ⟨rfl,rfl⟩ | ⟨rfl,rfl⟩ | ⟨rfl,rfl⟩
  all_goals
    have b0:bits .and .u8 0 2=0:=by kernel_rfl
    have b1:bits .and .u8 1 2=0:=by kernel_rfl
    have b2:bits .and .u8 2 2=2:=by kernel_rfl
    have b3:bits .and .u8 3 2=2:=by kernel_rfl
    go_enter Tryz.func143,Tryz.ntmps143
    go_wp2
    go_ret
    exact ⟨rfl,rfl⟩
theorem fval_plM {W:World} {p:Option Addr} {n:Nat} {f:Nat→Nat} (h:FVal W p n f) (r i:Nat):plM r f i<18446744073709551616:=by unfold plM;split;exact h.lt _;omega
theorem fval_plZ {W:World} {p:Option Addr} {n:Nat} {f:Nat→Nat} (h:FVal W p n f) (r i:Nat):plZ r f i<18446744073709551616:=by unfold plZ;split;exact h.lt _;omega
end
section
open Go.RowKit
end
end Go.Proofs.YtlpaecafpbbbkaaGreatDoor
