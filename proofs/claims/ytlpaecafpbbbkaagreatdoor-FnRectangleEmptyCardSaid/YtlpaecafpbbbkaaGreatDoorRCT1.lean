/- Slices of bytes that a call appends to: what an append leaves, and what stays as it was. Geometries in memory: their shape, to a depth; what the questions of size and of finite numbers do. A row of numbers as the package keeps it: how it is made, how long it is, what it gives at a place. A geometry that can be read as data lies in memory as KG says. Geometries as trees of plain data, and how they lie in memory. Shapes of whole coordinates as trees of plain data, and how they lie in memory. A line of the package: made of a geometry; the places of its row. -/
import Derived.WalkKit
import Derived.WalkSpells
import Derived.WalkLawsBesides
import Derived.Lib.AppendStr
import Derived.Maps.AppendAt
import Derived.Laws.BytesArg
import Derived.Lib.Hide
import Derived.Test.YtlpaecafpbbbkaaGreatDoorProg
import Derived.Deep.DeepCutAuto
import Derived.Deep.QuietTactic
import Derived.Handy
import Derived.Laws.CopyOwn
import Derived.Lib.SmallJoins
import Derived.OpenShut
import Derived.ProofKit
import Derived.ChangeShapes
import Derived.Deep.RegionWith
import Derived.Deep.RegionHeld3
set_option linter.unusedVariables false
set_option linter.unusedSimpArgs false
set_option maxRecDepth 100000
set_option maxHeartbeats 24000000
namespace Go.Proofs.YtlpaecafpbbbkaaGreatDoor
section
open Go.RowKit
theorem gt_trans {a b c:World} {r r':Option Nat} (h:a.grownBy b r) (k:b.grownBy c r') (hr:r'=r∨r'=none∨∃ x,r'=some x∧a.heap.size≤x):a.grownBy c r :=
  ⟨k.os.trans h.os,k.tape.trans h.tape,k.output.trans h.output,Nat.le_trans h.size k.size,fun i hi hne =>
    (k.block i (Nat.lt_of_lt_of_le hi h.size) (by
      rcases hr with rfl | rfl | ⟨x,rfl,hx⟩
      · exact hne
      · exact Option.some_ne_none _
      · intro he;injection he with he;omega)).trans (h.block i hi hne)⟩
theorem gt_refl (a:World) (r:Option Nat):a.grownBy a r:=⟨rfl,rfl,rfl,Nat.le_refl _,fun _ _ _=>rfl⟩
theorem gt_below {a b:World} (h:Below a.heap.size a b) (r:Option Nat):a.grownBy b r:=⟨h.os,h.tape,h.output,h.size,fun i hi _=>h.block i hi⟩
theorem gt_weak {a b:World} (h:a.grownBy b none) (r:Option Nat):a.grownBy b r:=⟨h.os,h.tape,h.output,h.size,fun i hi _=>h.block i hi (Option.some_ne_none _)⟩
theorem below_gt {a b:World} (h:a.grownBy b none):Below a.heap.size a b:=⟨h.os,h.tape,h.output,h.size,fun i hi=>h.block i hi (Option.some_ne_none _)⟩
theorem gt_drewN_r {a b:World} {r:Option Nat} (h:a.grownBy b r) (n:Nat):a.grownBy (b.drewN n) r:=⟨h.os,h.tape,h.output,h.size,h.block⟩
theorem gt_drew_r {a b:World} {r:Option Nat} (h:a.grownBy b r):a.grownBy b.drew r:=⟨h.os,h.tape,h.output,h.size,h.block⟩
theorem gt_alloc_r {a b:World} {r:Option Nat} (h:a.grownBy b r) (o:Obj):a.grownBy (b.alloc o) r:=gt_trans h (World.grownBy_alloc b o none) (.inr (.inl rfl))
theorem gt_set_r {a b:World} {r:Option Nat} (h:a.grownBy b r) (p:Addr) (x:Value) (hp:a.heap.size≤p.block):a.grownBy (b.setCell p x) r :=
  ⟨h.os,h.tape,h.output,by simpa [World.setCell] using h.size,fun i hi hne=>(Below.heap_setCell b p x i (by omega)).trans (h.block i hi hne)⟩
theorem run_store_flt (P:Program) (w:World) (a:Addr) (m:Mode) (k:FloatKind) (b:Nat):(store a (.float k b) m).run P w=stored P w a (.float k b) m:=run_store P w a _ m rfl
def Bs (l:List UInt8):List Value:=l.map fun b=>.int .u8 (b.toNat:Int)
structure AppB (e base:Nat) (w0:World) (v0:Value) (w:World) (v:Value) (l:List UInt8):Prop where
  own:w.ownsRow base e 1 v l.length (Bs l)
  grown:w0.grownBy w v0.ownBlock
  at_:v.ownBlock=v0.ownBlock∨∃ b,v.ownBlock=some b∧w0.heap.size≤b
variable {e base:Nat} {w0 w w1 w2:World} {v0 v v1 v2:Value} {l l1 l2:List UInt8}
theorem AppB.start (h:w.ownsRow base e 1 v l.length (Bs l)):AppB e base w v w v l:=⟨h,gt_refl _ _,.inl rfl⟩
theorem AppB.nil (w:World) (e base:Nat):AppB e base w (.slice none 0 0) w (.slice none 0 0) []:=.start (World.ownsRow_nil w base e 1)
theorem AppB.trans (h:AppB e base w0 v0 w1 v1 l1) (k:AppB e base w1 v1 w2 v2 l2):AppB e base w0 v0 w2 v2 l2:=by
  refine ⟨k.own,gt_trans h.grown k.grown ?_,?_⟩
  · rcases h.at_ with h | ⟨b,h,hb⟩
    · exact .inl h
    · exact .inr (.inr ⟨b,h,hb⟩)
  · rcases k.at_ with k' | ⟨b,k',hb⟩
    · rcases h.at_ with h | ⟨b,h,hb⟩
      · exact .inl (k'.trans h)
      · exact .inr ⟨b,k'.trans h,hb⟩
    · exact .inr ⟨b,k',Nat.le_trans h.grown.size hb⟩
theorem AppB.beside (h:AppB e base w0 v0 w v l) (k:w.grownBy w1 none):AppB e base w0 v0 w1 v l :=
  ⟨h.own.kept k (by cases v.ownBlock <;> simp),gt_trans h.grown k (.inr (.inl rfl)),h.at_⟩
theorem AppB.size (h:AppB e base w0 v0 w v l):w0.heap.size≤w.heap.size:=h.grown.size
theorem AppB.based (h:AppB e base w0 v0 w v l) (hb:base≤w0.heap.size):base≤w.heap.size:=Nat.le_trans hb h.grown.size
theorem AppB.cell (h:AppB e base w0 v0 w v l) {a:Addr} (hlt:a.block<w0.heap.size) (hne:v0.ownBlock≠some a.block):w.cell? a=w0.cell? a :=
  World.cell?_of_block (h.grown.block _ hlt (fun he=>hne he.symm))
theorem AppB.below (h:AppB e base w0 (.slice none 0 0) w v l):Below w0.heap.size w0 w:=below_gt h.grown
section
variable {P:Program} {ops:Array Oper} {rest:List Oper} {o:Oper} {a:Act} {Q:Exit→Act→World→Prop} {W:World}
end
end
section
open Go.RowKit
structure FRow (W:World) (p:Option Addr) (n cap:Nat):Prop where
  le:n≤cap
  most:cap≤maxLen
  some_:0<n→∃ a,p=some a
  at_:∀ a,p=some a→∀ i,i<n→∃ b,W.cell? (a.add i)=some (.float .f64 b)∧b<18446744073709551616
theorem FRow.mono {W W':World} {p:Option Addr} {n cap:Nat} (h:FRow W p n cap) (hg:W.grownBy W' none):FRow W' p n cap :=
  ⟨h.le,h.most,h.some_,fun a ha i hi=>by obtain ⟨b,h1,h2⟩:=h.at_ a ha i hi;exact ⟨b,hg.cell h1 (by simp),h2⟩⟩
def KG:Nat→World→Value→Prop
  | 0,_,_=>False
  | h+1,W,v=>∃ k d p n cap q m c2,v=.agg #[.int .i64 k,.int .i64 d,.slice p n cap,.slice q m c2]∧FRow W p n cap∧m≤c2∧c2≤maxLen∧(0<m→∃ a,q=some a) ∧
      ∀ a,q=some a→∀ i,i<m→∃ c0 c1 c2 c3,KG h W (.agg #[c0,c1,c2,c3])∧W.cell? (a.add (i*4))=some c0∧W.cell? ⟨(a.add (i*4)).block,(a.add (i*4)).off+1,none⟩=some c1∧W.cell? ⟨(a.add (i*4)).block,(a.add (i*4)).off+2,none⟩=some c2∧W.cell? ⟨(a.add (i*4)).block,(a.add (i*4)).off+3,none⟩=some c3
theorem KG.mono {W W':World} (hg:W.grownBy W' none):∀ {h:Nat} {v:Value},KG h W v→KG h W' v
  | 0,_,h=>h
  | h+1,_,⟨k,d,p,n,cap,q,m,c2,e,f,h1,h2,h3,h4⟩=>⟨k,d,p,n,cap,q,m,c2,e,f.mono hg,h1,h2,h3,fun a ha i hi=>by
      obtain ⟨c0,c1,c2,c3,k0,k1,k2,k3,k4⟩:=h4 a ha i hi
      exact ⟨c0,c1,c2,c3,KG.mono hg k0,hg.cell k1 (by simp),hg.cell k2 (by simp),hg.cell k3 (by simp),hg.cell k4 (by simp)⟩⟩
theorem KG.form {W:World} : ∀ {h:Nat} {v:Value},KG h W v→∃ k d p n cap q m c2,v=.agg #[.int .i64 k,.int .i64 d,.slice p n cap,.slice q m c2]
  | 0,_,h=>by cases h
  | _+1,_,⟨k,d,p,n,cap,q,m,c2,e,_⟩=>⟨k,d,p,n,cap,q,m,c2,e⟩
theorem KG.form4 {W:World} {h:Nat} {c0 c1 c2 c3:Value} (hk:KG h W (.agg #[c0,c1,c2,c3])):∃ k d p n cap q m c,c0=.int .i64 k∧c1=.int .i64 d∧c2=.slice p n cap∧c3=.slice q m c:=by
  obtain ⟨k,d,p,n,cap,q,m,c,e⟩:=hk.form
  simp only [Value.agg.injEq,Array.mk.injEq,List.cons.injEq,and_true] at e
  exact ⟨k,d,p,n,cap,q,m,c,e⟩
end
section
open Go.RowKit
structure FVal (W:World) (p:Option Addr) (n:Nat) (f:Nat→Nat):Prop where
  some_:0<n→∃ a,p=some a
  at_:∀ a,p=some a→∀ i,i<n→W.cell? (a.add i)=some (.float .f64 (f i))
  lt:∀ i,f i<18446744073709551616
theorem FVal.mono {W W':World} {p:Option Addr} {n:Nat} {f:Nat→Nat} (h:FVal W p n f) (hg:W.grownBy W' none):FVal W' p n f :=
  ⟨h.some_,fun a ha i hi=>hg.cell (h.at_ a ha i hi) (by simp),h.lt⟩
theorem i64_low2 (n:Int):bits .and .i64 n 3=n % 4:=by
  have h127:(BitVec.ofInt 64 3).toNat=2 ^ 2 - 1:=by decide
  have key:(BitVec.ofInt 64 n &&& BitVec.ofInt 64 3).toNat=(n % ((2 ^ 64:Nat):Int)).toNat % 2 ^ 2:=by
    rw [BitVec.toNat_and,BitVec.toNat_ofInt,h127,Nat.and_two_pow_sub_one_eq_mod]
  show IntKind.i64.wrap ((BitVec.ofInt 64 n &&& BitVec.ofInt 64 3).toNat:Nat)=n % 4
  rw [key,IntKind.wrap_i64]
  omega
def widN (r:Nat):Nat:=2+r % 2+r / 2
theorem dimOf_r (d:Int) (r:Nat) (hr:d % 4=r) (w:World):Calls Tryz.prog 104 #[.int .i64 d] w fun e w'=>e=.returned (.int .u8 r)∧w'=w:=by
  have he:bits .and .i64 d 3=r:=by rw [i64_low2];omega
  have h3:r<4:=by omega
  clear hr
  go_enter Tryz.func104,Tryz.ntmps104
  go_wp2
  go_ret
  exact ⟨by go_num,rfl⟩
theorem Dimension_lit (x y:Int) (h:(x=0∧y=2)∨(x=1∧y=3)∨(x=2∧y=3)∨(x=3∧y=4)) (w:World) :
    Calls Tryz.prog 168 #[.int .u8 x] w fun e w'=>e=.returned (.int .i64 y)∧w'=w:=by
  have hi:∀ W:World,(Instr.index 278 (.agg #[.int .i64 2,.int .i64 3,.int .i64 3,.int .i64 4]) (.int .u8 x)).run Tryz.prog W=.ok (.int .i64 y) W:=fun W=>by
    rcases h with ⟨rfl,rfl⟩ | ⟨rfl,rfl⟩ | ⟨rfl,rfl⟩ | ⟨rfl,rfl⟩ <;> kernel_rfl
  clear h
  go_enter Tryz.func168,Tryz.ntmps168
  go_wp2_with fail
  go_ret
  exact ⟨rfl,rfl⟩
theorem Dimension_any (r:Nat) (hr:r<4) (w:World):Calls Tryz.prog 168 #[.int .u8 r] w fun e w'=>e=.returned (.int .i64 (widN r:Nat))∧w'=w :=
  Dimension_lit r (widN r:Nat) (by unfold widN;omega) w
theorem NewSequence_any (r n:Nat) (p:Option Addr) (cap:Nat) (hr:r<4) (hn:n % widN r=0) (w:World) :
    Calls Tryz.prog 125 #[.slice p n cap,.int .u8 r] w fun e w'=>e=.returned (.agg #[.int .u8 r,.slice p n cap])∧w.grownBy w' none:=by
  obtain ⟨k,hk,hk2,hk4⟩ : ∃ k:Nat,k=widN r∧2≤k∧k≤4:=⟨widN r,rfl,by unfold widN;omega,by unfold widN;omega⟩
  have HD:=Lib.hid (fun w=>Dimension_any r hr w)
  rw [←hk] at hn HD
  clear hk
  have hz:(n:Int) % (k:Int)=0:=by exact_mod_cast hn
  go_enter Tryz.func125,Tryz.ntmps125
  go_wp2_with (go_at_call 168;refine (HD.out _).mono ?_;rintro e w' ⟨rfl,rfl⟩)
  go_returns
  exact ⟨rfl,World.grownBy_alloc _ _ _⟩
theorem FVal.set {w:World} {a q:Addr} {n:Nat} {f:Nat→Nat} (h:FVal w (some a) n f) (hq:a.block≠q.block) (x:Value):FVal (w.setCell q x) (some a) n f:=by
  refine ⟨h.some_,fun b hb i hi=>?_,h.lt⟩
  have h0:=h.at_ b hb i hi
  injection hb with hb
  subst hb
  have e:(a.add i).block=a.block:=by unfold Addr.add;split <;> rfl
  rw [World.cell?_of_block (w:=w) (Below.heap_setCell w q x _ (by rw [e];exact hq))]
  exact h0
theorem own_heap {w:World} {base g n cap:Nat} {e:TypeId} {xs:List Value} (h:w.ownsRow base e 1 (.slice (some ⟨g,0,none⟩) n cap) n xs):∃ cur:List Value,w.heap[g]?=some (.cells cur.toArray e (0,0))∧cur.length=cap:=by
  obtain ⟨_,h | ⟨g',cap',cur,hv,hb,hc,_,_,hs,_⟩⟩:=h
  · cases h.1
  · cases hv
    exact ⟨cur.toList,by simpa using hc,by simpa using hs⟩
theorem sequence_any (d:Int) (r:Nat) (hr:d % 4=r) (p:Option Addr) (n cap:Nat) (f:Nat→Nat) (hn:n≤2513169434843) (W:World) (hf:FVal W p n f) :
    Calls Tryz.prog 101 #[.slice p n cap,.int .i64 d] W fun e w'=>∃ a,e=.returned (.agg #[.int .u8 r,.slice (some a) (n - n % widN r) (n - n % widN r)])∧FVal w' (some a) (n - n % widN r) f∧W.heap.size≤a.block∧a.block<w'.heap.size∧W.grownBy w' none:=by
  have hr4:r<4:=by omega
  obtain ⟨k,hk,hk2,hk4⟩ : ∃ k:Nat,k=widN r∧2≤k∧k≤4:=⟨widN r,rfl,by unfold widN;omega,by unfold widN;omega⟩
  have HD:=Lib.hid (fun w=>Dimension_any r hr4 w)
  have HS:=Lib.hid (fun m p cap (h:m % widN r=0) w=>NewSequence_any r m p cap hr4 h w)
  have HO:=Lib.hid (fun w=>dimOf_r d r hr w)
  rw [←hk] at HD HS ⊢
  clear hk hr
  obtain ⟨N,hN,hNn,hNk⟩ : ∃ N:Nat,N=n - n % k∧N≤n∧N % k=0:=⟨_,rfl,by omega,by
    have:=Nat.mod_add_div n k
    have e:n - n % k=k*(n / k):=by omega
    rw [e];exact Nat.mul_mod_right _ _⟩
  have hz:(n:Int) - (n:Int) % (k:Int)=(N:Int):=by
    have:(n:Int) % (k:Int)=((n % k:Nat):Int):=by push_cast;rfl
    have h2:n % k≤n:=Nat.mod_le _ _
    omega
  rw [←hN]
  have HN:=Lib.hid hN
  clear hN
  obtain ⟨cs,hcs⟩ : ∃ cs:List Value,cs=(List.range N).map fun i=>.float .f64 (f i):=⟨_,rfl⟩
  have hcl:cs.length=N:=by rw [hcs];simp
  have h1c:Hid (∀ v ∈ cs,v.oneCell'=true):=fun v hv=>by rw [hcs] at hv;obtain ⟨i,_,rfl⟩:=List.mem_map.1 hv;rfl
  have hsrc:Hid (∀ (w:World),W.grownBy w none→0<cs.length→∃ ad,p=some ad∧∀ j v,cs[j]?=some v→w.cell? (ad.add j)=some v):=by
    intro w hg hpos
    obtain ⟨a,ha⟩:=hf.some_ (by omega)
    refine ⟨a,ha,fun j v hv=>?_⟩
    rw [hcs,List.getElem?_map] at hv
    by_cases hj:j<N
    · rw [List.getElem?_range hj] at hv
      simp only [Option.map_some,Option.some.injEq] at hv
      rw [←hv]
      exact hg.cell (hf.at_ a ha j (by omega)) (by simp)
    · rw [List.getElem?_eq_none (by simpa using hj)] at hv
      cases hv
  have hfin:Hid (∀ (w:World) (g:Nat) (cur:List Value),cur.length=N→w.heap[g]?=some (.cells (splice cur 0 cs).toArray 26 (0,0))→FVal w (some ⟨g,0,none⟩) N f):=by
    intro w g cur hc hg
    refine ⟨fun _=>⟨_,rfl⟩,fun a ha i hi=>?_,hf.lt⟩
    injection ha with ha
    subst ha
    have e:splice cur 0 cs=cs:=by simp [splice,hcl,←hc]
    rw [e] at hg
    have hci:cs[i]?=some (.float .f64 (f i)):=by rw [hcs,List.getElem?_map,List.getElem?_range hi];rfl
    by_cases h0:i=0
    · subst h0;simp [Addr.add,World.cell?,hg,hci]
    · simp [Addr.add,World.cell?,hg,hci,h0]
  have hsz:(Tryz.prog.info? 26).map (·.size)=some 1:=by kernel_rfl
  have hinfo:(Tryz.prog.info? 26).map (fun i=>(i.zero,i.size,i.bytes))=some (some (.float .f64 0),1,8):=by kernel_rfl
  obtain ⟨i0,hi,hzz⟩:=Option.map_eq_some_iff.1 hinfo
  simp only [Prod.mk.injEq] at hzz
  have HI:=Lib.hid hzz
  have HB1:=Lib.hid (World.grownBy_alloc W (.cells #[.int .u8 0,.slice none 0 0] 91) none)
  have HC:Hid (∀ w,(W.alloc (.cells #[.int .u8 0,.slice none 0 0] 91)).grownBy w none→w.cell? ⟨W.heap.size,0,none⟩=some (.int .u8 0)∧w.cell? ⟨W.heap.size,1,none⟩=some (.slice none 0 0)∧w.frozen? ⟨W.heap.size,0,none⟩=false∧w.frozen? ⟨W.heap.size,1,none⟩=false):=fun w g=>by
    have hb:=g.block W.heap.size (by simp) (by simp)
    refine ⟨g.cell (by simp) (by simp),g.cell (by simp) (by simp),?_,?_⟩ <;> (rw [World.frozen?_of_block hb];simp)
  have HW:Hid (∀ w,Below (W.heap.size+1) (W.alloc (.cells #[.int .u8 0,.slice none 0 0] 91)) w→(W.alloc (.cells #[.int .u8 0,.slice none 0 0] 91)).grownBy w none):=fun w h=>gt_below (by simpa using h) none
  clear hcs hzz hinfo
  go_enter Tryz.func101,Tryz.ntmps101
  go_wp2_with (first
    | (go_at_call 104;refine (HO.out _).mono ?_;rintro e w' ⟨rfl,rfl⟩)
    | (go_at_call 168;refine (HD.out _).mono ?_;rintro e w' ⟨rfl,rfl⟩)
    | (at_make;refine wpList_make_full _ rfl _ _ _ rfl W.heap.size 26 i0 (.float .f64 0) 1 Tryz.underlying30 hi HI.out.1 HI.out.2.1 .i64 .i64 _ _ N rfl rfl rfl rfl (by rw [HI.out.2.2];omega) (by unfold maxLen;omega) (by simp) ?_;intro w1 hown hg1;obtain ⟨cur,hcur,hlen⟩:=own_heap hown;clear hown)
    | (refine wpList_copy_splice rfl _ _ _ _ rfl 26 Tryz.underlying30 hsz _ _ _ _ _ _ rfl rfl (W.heap.size+1) 0 cur 26 (by simpa using hcur) cs (by rw [hcl];exact (Nat.min_eq_right hNn).symm) (fun hp=>⟨rfl,hsrc.out _ (gt_trans HB1.out hg1 (.inl rfl)) hp⟩) (by simp at hlen ⊢;omega) h1c.out (W.heap.size+1) (W.alloc (.cells #[.int .u8 0,.slice none 0 0] 91)) (by simpa using below_gt hg1) (Nat.le_refl _) ?_;intro w2 HG2 hB2)
    | (go_at_call 125;refine (HS.out _ _ _ hNk _).mono ?_;rintro e w' ⟨rfl,hg3⟩;have hg2:=gt_trans (HW.out _ hB2) hg3 (.inl rfl);obtain ⟨x0,x1,x2,x3⟩:=HC.out _ hg2))
  have hv:=(hfin.out _ _ _ (by simpa using hlen) HG2.out).mono hg3
  have hgr:=gt_set_r (gt_set_r (gt_trans HB1.out hg2 (.inl rfl)) ⟨W.heap.size,0,none⟩ (.int .u8 r) (Nat.le_refl _)) ⟨W.heap.size,1,none⟩ (.slice (some ⟨W.heap.size+1,0,none⟩) N N) (Nat.le_refl _)
  have hv2:=(hv.set (q:=⟨W.heap.size,0,none⟩) (by simp) (.int .u8 r)).set (q:=⟨W.heap.size,1,none⟩) (by simp) (.slice (some ⟨W.heap.size+1,0,none⟩) N N)
  have z0:=World.cell?_setCell_same (w:=w') (v:=.int .u8 r) (h:=x0)
  have z1:(w'.setCell ⟨W.heap.size,0,none⟩ (.int .u8 r)).cell? ⟨W.heap.size,1,none⟩=some (.slice none 0 0):=(World.cell?_setCell_other (w:=w') (a:=⟨W.heap.size,0,none⟩) (b:=⟨W.heap.size,1,none⟩) (v:=.int .u8 r) (h:=by simp)).trans x1
  have z2:=World.cell?_setCell_same (v:=.slice (some ⟨W.heap.size+1,0,none⟩) N N) (h:=z1)
  have hbl:W.heap.size+1<((w'.setCell ⟨W.heap.size,0,none⟩ (.int .u8 r)).setCell ⟨W.heap.size,1,none⟩ (.slice (some ⟨W.heap.size+1,0,none⟩) N N)).heap.size:=by
    have h1:W.heap.size+1<w2.heap.size:=(Array.getElem?_eq_some_iff.1 HG2.out).1
    have h2:=hg3.size
    simp [World.setCell]
    omega
  clear hv HG2 hB2 hg3 hg2
  refine bodyPost_ret (by simp [results,Tryz.results101,go_sem,z0,z2];try rfl) rfl ?_
  exact ⟨_,rfl,hv2,Nat.le_succ _,hbl,hgr⟩
end
section
open Go.Joins Go.ChangeShapes Go.WideShapes Go.RowKit Go.Deep Go.ChangeAt
theorem KG.up:∀ {h:Nat} {W:World} {v:Value},KG h W v→KG (h+1) W v
  | 0,_,_,h=>h.elim
  | _+1,_,_,⟨k,d,p,n,cap,q,m,c2,e,f,h1,h2,h3,h4⟩=>⟨k,d,p,n,cap,q,m,c2,e,f,h1,h2,h3,fun a ha i hi=>by
      obtain ⟨c0,c1,c2,c3,k0,k1,k2,k3,k4⟩:=h4 a ha i hi
      exact ⟨c0,c1,c2,c3,KG.up k0,k1,k2,k3,k4⟩⟩
theorem add_add (a:Addr) (j:Nat) (hj:j≠0):a.add j=⟨a.block,a.off+j,none⟩:=by
  unfold Addr.add
  simp [hj]
section
variable {H:Type} {enc:TypeId × Value→H} {W:World} {base:Nat} {spare:Nat→Bool} {held:Bool}
end
end
section
open Go.Joins Go.ChangeShapes Go.WideShapes Go.RowKit Go.Deep Go.ChangeAt
inductive Raw where
  | mk (k d:Int) (n:Nat) (f:Nat→Nat) (kids:List Raw)
mutual
def wt:Raw→Nat
  | .mk _ _ n _ kids=>max (max 1 n) (wts kids)
def wts:List Raw→Nat
  | []=>0
  | t::ts=>max (wt t) (max (ts.length+1) (wts ts))
end
theorem wts_append:∀ (l m:List Raw),wts l≤wts (l++m)
  | [],m=>by simp [wts]
  | t::l,m=>by have:=wts_append l m;simp only [List.cons_append,wts,List.length_append];omega
theorem wt_pos (t:Raw):1≤wt t:=by cases t;unfold wt;omega
theorem wts_len:∀ (l:List Raw),l.length≤wts l
  | []=>by simp [wts]
  | t::l=>by simp only [List.length_cons,wts];omega
theorem wts_mem:∀ (l:List Raw) (i:Nat) (t:Raw),l[i]?=some t→wt t≤wts l
  | [],_,_,h=>by simp at h
  | s::l,0,t,h=>by simp at h;subst h;simp only [wts];omega
  | s::l,i+1,t,h=>by
    have:=wts_mem l i t (by simpa using h)
    simp only [wts];omega
def KD (B:Nat→Prop):Nat→World→Value→Raw→Prop
  | 0,_,_,_=>False
  | h+1,W,v,.mk k d n f kids=>∃ p cap q c2,v=.agg #[.int .i64 k,.int .i64 d,.slice p n cap,.slice q kids.length c2]∧FVal W p n f∧n≤cap∧cap≤maxLen∧(p=none→cap=0)∧kids.length≤c2∧c2≤maxLen∧(q=none→c2=0) ∧
      (∀ a,q=some a→∀ i t,kids[i]?=some t→∃ c0 c1 c2 c3,KD B h W (.agg #[c0,c1,c2,c3]) t∧W.cell? (a.add (i*4))=some c0∧W.cell? ⟨(a.add (i*4)).block,(a.add (i*4)).off+1,none⟩=some c1∧W.cell? ⟨(a.add (i*4)).block,(a.add (i*4)).off+2,none⟩=some c2∧W.cell? ⟨(a.add (i*4)).block,(a.add (i*4)).off+3,none⟩=some c3) ∧
      (∀ a,p=some a→B a.block)∧∀ a,q=some a→B a.block
def Kept (B:Nat→Prop) (W W':World):Prop:=∀ a x,B a.block→W.cell? a=some x→W'.cell? a=some x
theorem Kept.grown {B:Nat→Prop} {W W':World} (g:W.grownBy W' none):Kept B W W':=fun _ _ _ h=>g.cell h (by simp)
theorem Kept.set {B:Nat→Prop} {W:World} {q:Addr} (hq:¬ B q.block) (x:Value):Kept B W (W.setCell q x):=fun a y ha h=>by
  rw [World.cell?_setCell_other (h:=fun e=>by subst e;exact hq ha)]
  exact h
theorem Kept.grownRow {B:Nat→Prop} {W W':World} {r:Option Nat} (g:W.grownBy W' r) (hr:∀ b,r=some b→¬ B b):Kept B W W':=fun a x ha h=>g.cell h (fun e=>hr _ e.symm ha)
theorem Kept.trans {B:Nat→Prop} {W W1 W2:World} (h:Kept B W W1) (h':Kept B W1 W2):Kept B W W2:=fun a x ha k=>h' a x ha (h a x ha k)
theorem add_block (a:Addr) (i:Nat):(a.add i).block=a.block:=by unfold Addr.add;split <;> rfl
theorem FVal.keep {B:Nat→Prop} {W W':World} (hg:Kept B W W') {p:Option Addr} {n:Nat} {f:Nat→Nat} (h:FVal W p n f) (hp:∀ a,p=some a→B a.block):FVal W' p n f :=
  ⟨h.some_,fun a ha i hi=>hg _ _ (by rw [add_block];exact hp a ha) (h.at_ a ha i hi),h.lt⟩
theorem KD.keep {B:Nat→Prop} {W W':World} (hg:Kept B W W'):∀ {h:Nat} {v:Value} {t:Raw},KD B h W v t→KD B h W' v t
  | 0,_,_,h=>h.elim
  | _+1,_,.mk _ _ _ _ _,⟨p,cap,q,c2,e,f,h1,h2,h3,h4,h5,h6,h7,h8,h9⟩=>⟨p,cap,q,c2,e,f.keep hg h8,h1,h2,h3,h4,h5,h6,fun a ha i t hi=>by
      obtain ⟨c0,c1,c2,c3,k0,k1,k2,k3,k4⟩:=h7 a ha i t hi
      have hb:B (a.add (i*4)).block:=by rw [add_block];exact h9 a ha
      exact ⟨c0,c1,c2,c3,KD.keep hg k0,hg _ _ hb k1,hg _ _ hb k2,hg _ _ hb k3,hg _ _ hb k4⟩,h8,h9⟩
theorem KD.mono {B:Nat→Prop} {W W':World} (hg:W.grownBy W' none) {h:Nat} {v:Value} {t:Raw} (k:KD B h W v t):KD B h W' v t:=k.keep (.grown hg)
theorem KD.weak {B B':Nat→Prop} (hl:∀ b,B b→B' b):∀ {h:Nat} {W:World} {v:Value} {t:Raw},KD B h W v t→KD B' h W v t
  | 0,_,_,_,h=>h.elim
  | _+1,_,_,.mk _ _ _ _ _,⟨p,cap,q,c2,e,f,h1,h2,h3,h4,h5,h6,h7,h8,h9⟩=>⟨p,cap,q,c2,e,f,h1,h2,h3,h4,h5,h6,fun a ha i t hi=>by
      obtain ⟨c0,c1,c2,c3,k0,k1,k2,k3,k4⟩:=h7 a ha i t hi
      exact ⟨c0,c1,c2,c3,KD.weak hl k0,k1,k2,k3,k4⟩,fun a ha=>hl _ (h8 a ha),fun a ha=>hl _ (h9 a ha)⟩
theorem KD.up {B:Nat→Prop} : ∀ {h:Nat} {W:World} {v:Value} {t:Raw},KD B h W v t→KD B (h+1) W v t
  | 0,_,_,_,h=>h.elim
  | _+1,_,_,.mk _ _ _ _ _,⟨p,cap,q,c2,e,f,h1,h2,h3,h4,h5,h6,h7,h8⟩=>⟨p,cap,q,c2,e,f,h1,h2,h3,h4,h5,h6,fun a ha i t hi=>by
      obtain ⟨c0,c1,c2,c3,k0,k1,k2,k3,k4⟩:=h7 a ha i t hi
      exact ⟨c0,c1,c2,c3,KD.up k0,k1,k2,k3,k4⟩,h8⟩
theorem KD.le {B:Nat→Prop} {h h':Nat} (hh:h≤h') {W:World} {v:Value} {t:Raw} (k:KD B h W v t):KD B h' W v t:=by
  induction hh with
  | refl=>exact k
  | step _ ih=>exact ih.up
theorem KD.form {B:Nat→Prop} {W:World} : ∀ {h:Nat} {v:Value} {t:Raw},KD B h W v t→∃ k d n f kids p cap q c2,t=.mk k d n f kids∧v=.agg #[.int .i64 k,.int .i64 d,.slice p n cap,.slice q kids.length c2]
  | 0,_,_,h=>by cases h
  | _+1,_,.mk k d n f kids,⟨p,cap,q,c2,e,_⟩=>⟨k,d,n,f,kids,p,cap,q,c2,rfl,e⟩
theorem KD.form4 {B:Nat→Prop} {W:World} {h:Nat} {c0 c1 c2 c3:Value} {t:Raw} (hk:KD B h W (.agg #[c0,c1,c2,c3]) t):∃ k d n f kids p cap q c,t=.mk k d n f kids∧c0=.int .i64 k∧c1=.int .i64 d∧c2=.slice p n cap∧c3=.slice q kids.length c:=by
  obtain ⟨k,d,n,f,kids,p,cap,q,c,rfl,e⟩:=hk.form
  simp only [Value.agg.injEq,Array.mk.injEq,List.cons.injEq,and_true] at e
  exact ⟨k,d,n,f,kids,p,cap,q,c,rfl,e⟩
theorem list_of {α:Type} {P:Nat→α→Prop} : ∀ (n:Nat),(∀ i,i<n→∃ t,P i t)→∃ l:List α,l.length=n∧∀ i t,l[i]?=some t→P i t
  | 0,_=>⟨[],rfl,fun i t h=>by simp at h⟩
  | n+1,h=>by
    obtain ⟨l,hl,hp⟩:=list_of n fun i hi=>h i (by omega)
    obtain ⟨t,ht⟩:=h n (by omega)
    refine ⟨l++[t],by simp [hl],fun i s hs=>?_⟩
    by_cases hi:i<n
    · rw [List.getElem?_append_left (by omega)] at hs
      exact hp i s hs
    · rw [List.getElem?_append_right (by omega)] at hs
      obtain ⟨h0,h1⟩:=List.getElem?_eq_some_iff.1 hs
      have:i=n:=by simp at h0;omega
      subst this
      simp [hl] at h1
      subst h1
      exact ht
section
variable {H:Type} {enc:TypeId × Value→H} {W:World} {base:Nat} {spare:Nat→Bool} {held:Bool}
end
end
section
open Go.Joins Go.ChangeShapes Go.WideShapes Go.RowKit Go.Deep Go.ChangeAt
inductive Shp where
  | mk (k:Int) (pts:List (Int × Int)) (kids:List Shp)
structure PtRow (W:World) (p:Option Addr) (ps:List (Int × Int)) (cap:Nat):Prop where
  le:ps.length≤cap
  most:cap≤maxLen
  none_:p=none→cap=0
  at_:∀ a,p=some a→∀ i t,ps[i]?=some t→W.cell? (a.add (i*2))=some (.int .i64 t.1)∧W.cell? ⟨(a.add (i*2)).block,(a.add (i*2)).off+1,none⟩=some (.int .i64 t.2)
theorem PtRow.mono {W W':World} {p:Option Addr} {ps:List (Int × Int)} {cap:Nat} (h:PtRow W p ps cap) (g:W.grownBy W' none):PtRow W' p ps cap :=
  ⟨h.le,h.most,h.none_,fun a ha i t hi=>by
    obtain ⟨h0,h1⟩:=h.at_ a ha i t hi
    exact ⟨g.cell h0 (by simp),g.cell h1 (by simp)⟩⟩
theorem PtRow.some_ {W:World} {p:Option Addr} {ps:List (Int × Int)} {cap:Nat} (h:PtRow W p ps cap) (hn:0<ps.length):∃ a,p=some a:=by
  cases p with
  | none=>have:=h.none_ rfl;have:=h.le;omega
  | some a=>exact ⟨a,rfl⟩
def KS:Nat→World→Value→Shp→Prop
  | 0,_,_,_=>False
  | h+1,W,v,.mk k pts kids=>∃ p cap q c2,v=.agg #[.int .i64 k,.slice p pts.length cap,.slice q kids.length c2]∧PtRow W p pts cap∧kids.length≤c2∧c2≤maxLen∧(q=none→c2=0) ∧
      ∀ a,q=some a→∀ i t,kids[i]?=some t→∃ c0 c1 c2,KS h W (.agg #[c0,c1,c2]) t∧W.cell? (a.add (i*3))=some c0∧W.cell? ⟨(a.add (i*3)).block,(a.add (i*3)).off+1,none⟩=some c1∧W.cell? ⟨(a.add (i*3)).block,(a.add (i*3)).off+2,none⟩=some c2
theorem KS.mono {W W':World} (hg:W.grownBy W' none):∀ {h:Nat} {v:Value} {t:Shp},KS h W v t→KS h W' v t
  | 0,_,_,h=>h.elim
  | _+1,_,.mk _ _ _,⟨p,cap,q,c2,e,f,h1,h2,h3,h4⟩=>⟨p,cap,q,c2,e,f.mono hg,h1,h2,h3,fun a ha i t hi=>by
      obtain ⟨c0,c1,c2,k0,k1,k2,k3⟩:=h4 a ha i t hi
      exact ⟨c0,c1,c2,KS.mono hg k0,hg.cell k1 (by simp),hg.cell k2 (by simp),hg.cell k3 (by simp)⟩⟩
theorem KS.up:∀ {h:Nat} {W:World} {v:Value} {t:Shp},KS h W v t→KS (h+1) W v t
  | 0,_,_,_,h=>h.elim
  | _+1,_,_,.mk _ _ _,⟨p,cap,q,c2,e,f,h1,h2,h3,h4⟩=>⟨p,cap,q,c2,e,f,h1,h2,h3,fun a ha i t hi=>by
      obtain ⟨c0,c1,c2,k0,k1,k2,k3⟩:=h4 a ha i t hi
      exact ⟨c0,c1,c2,KS.up k0,k1,k2,k3⟩⟩
theorem KS.le {h h':Nat} (hh:h≤h') {W:World} {v:Value} {t:Shp} (k:KS h W v t):KS h' W v t:=by
  induction hh with
  | refl=>exact k
  | step _ ih=>exact ih.up
theorem KS.form {W:World} : ∀ {h:Nat} {v:Value} {t:Shp},KS h W v t→∃ k pts kids p cap q c2,t=.mk k pts kids∧v=.agg #[.int .i64 k,.slice p pts.length cap,.slice q kids.length c2]
  | 0,_,_,h=>by cases h
  | _+1,_,.mk k pts kids,⟨p,cap,q,c2,e,_⟩=>⟨k,pts,kids,p,cap,q,c2,rfl,e⟩
theorem KS.form3 {W:World} {h:Nat} {c0 c1 c2:Value} {t:Shp} (hk:KS h W (.agg #[c0,c1,c2]) t):∃ k pts kids p cap q c,t=.mk k pts kids∧c0=.int .i64 k∧c1=.slice p pts.length cap∧c2=.slice q kids.length c:=by
  obtain ⟨k,pts,kids,p,cap,q,c,rfl,e⟩:=hk.form
  simp only [Value.agg.injEq,Array.mk.injEq,List.cons.injEq,and_true] at e
  exact ⟨k,pts,kids,p,cap,q,c,rfl,e⟩
theorem list3 {α:Type} {cs:List α} (h:cs.length=3):∃ c0 c1 c2,cs=[c0,c1,c2]:=by
  match cs,h with
  | [c0,c1,c2],_=>exact ⟨c0,c1,c2,rfl⟩
theorem list2 {α:Type} {cs:List α} (h:cs.length=2):∃ c0 c1,cs=[c0,c1]:=by
  match cs,h with
  | [c0,c1],_=>exact ⟨c0,c1,rfl⟩
section
variable {H:Type} {enc:TypeId × Value→H} {W:World} {base:Nat} {spare:Nat→Bool} {held:Bool}
theorem Pt_of_trod {fuel:Nat} {cs:List Value} {x:DataW H × List MemPlace} (h:DataW.trod enc Tryz.prog W base spare held fuel 80 cs=some x):∃ u:Int × Int,cs=[.int .i64 u.1,.int .i64 u.2]:=by
  obtain ⟨xs,n,rfl,rfl,hl,hlen,hf⟩:=DataW.trod_struct Tryz.underlying80 h
  have hC:Tryz.prog.cellsOf 80=2:=by kernel_rfl
  rw [hC] at hl
  obtain ⟨c0,c1,rfl⟩:=list2 hl
  obtain ⟨y0,y1,rfl⟩:=list2 hlen
  have g0:DataW.trod enc Tryz.prog W base spare held n 3 (([c0,c1].drop 0).take (Tryz.prog.cellsOf 3))=some y0:=hf 0 _ rfl
  have g1:DataW.trod enc Tryz.prog W base spare held n 3 (([c0,c1].drop 1).take (Tryz.prog.cellsOf 3))=some y1:=hf 1 _ rfl
  have s3:Tryz.prog.cellsOf 3=1:=by kernel_rfl
  simp only [s3,List.drop_zero,List.drop_succ_cons,List.take_succ_cons,List.take_zero] at g0 g1
  obtain ⟨k,e0,_,_⟩:=DataW.trod_int Tryz.underlying3 g0
  obtain ⟨d,e1,_,_⟩:=DataW.trod_int Tryz.underlying3 g1
  simp only [List.cons.injEq,and_true] at e0 e1
  exact ⟨(k,d),by rw [e0,e1]⟩
theorem PtRow_of_trod {fuel:Nat} {c:Value} {x:DataW H × List MemPlace} (h:DataW.trod enc Tryz.prog W base spare held fuel 22 [c]=some x):∃ p ps cap,c=.slice p ps.length cap∧PtRow W p ps cap:=by
  rcases DataW.trod_slice Tryz.underlying22 h with ⟨e,_⟩ | ⟨a,len,cap,elems,rest,n,_,e,_,hb,hlc,hcm,hel,hat,_⟩
  · simp only [List.cons.injEq,and_true] at e
    exact ⟨none,[],0,e,⟨Nat.le_refl _,by decide,fun _=>rfl,fun a ha=>by cases ha⟩⟩
  · simp only [List.cons.injEq,and_true] at e
    obtain ⟨ps,hpl,hpp⟩:=list_of (P:=fun i (t:Int × Int)=>W.cell? (a.add (i*2))=some (.int .i64 t.1)∧W.cell? ⟨(a.add (i*2)).block,(a.add (i*2)).off+1,none⟩=some (.int .i64 t.2)) len (fun i hi=>by
      have h1:=hat i hi
      rw [show Tryz.prog.cellsOf 80=2 by kernel_rfl] at h1
      have hx:∃ y,elems[i]?=some y:=⟨_,List.getElem?_eq_getElem (by omega)⟩
      obtain ⟨y,hy⟩:=hx
      rw [hy] at h1
      obtain ⟨cs,hc,ht⟩:=Option.bind_eq_some_iff.1 h1
      obtain ⟨u,rfl⟩:=Pt_of_trod ht
      obtain ⟨_,hlen',hcell⟩:=World.cells?_some hc
      refine ⟨u,?_,?_⟩
      · have:=hcell 0 (by omega)
        simpa [Addr.add] using this
      · have:=hcell 1 (by omega)
        rw [add_add _ 1 (by omega)] at this
        simpa using this)
    refine ⟨some a,ps,cap,by rw [hpl];exact e,⟨by omega,hcm,fun h=>(by cases h),fun a' ha i t hi=>?_⟩⟩
    injection ha with ha
    subst ha
    exact hpp i t hi
theorem KS_of_trod:∀ (fuel:Nat) (cs:List Value) (x:DataW H × List MemPlace),DataW.trod enc Tryz.prog W base spare held fuel 25 cs=some x →
    ∃ c0 c1 c2 t,cs=[c0,c1,c2]∧KS fuel W (.agg #[c0,c1,c2]) t:=by
  intro fuel
  induction fuel using Nat.strongRecOn with
  | ind fuel ih =>
    intro cs x h
    obtain ⟨xs,n,rfl,rfl,hl,hlen,hf⟩:=DataW.trod_struct Tryz.underlying25 h
    have hC:Tryz.prog.cellsOf 25=3:=by kernel_rfl
    rw [hC] at hl
    obtain ⟨c0,c1,c2,rfl⟩:=list3 hl
    obtain ⟨y0,y1,y2,rfl⟩:=list3 hlen
    have g0:DataW.trod enc Tryz.prog W base spare held n 3 (([c0,c1,c2].drop 0).take (Tryz.prog.cellsOf 3))=some y0:=hf 0 _ rfl
    have g1:DataW.trod enc Tryz.prog W base spare held n 22 (([c0,c1,c2].drop 1).take (Tryz.prog.cellsOf 22))=some y1:=hf 1 _ rfl
    have g2:DataW.trod enc Tryz.prog W base spare held n 23 (([c0,c1,c2].drop 2).take (Tryz.prog.cellsOf 23))=some y2:=hf 2 _ rfl
    have s3:Tryz.prog.cellsOf 3=1:=by kernel_rfl
    have sf:Tryz.prog.cellsOf 22=1:=by kernel_rfl
    have sg:Tryz.prog.cellsOf 23=1:=by kernel_rfl
    simp only [s3,sf,sg,List.drop_zero,List.drop_succ_cons,List.take_succ_cons,List.take_zero] at g0 g1 g2
    obtain ⟨k,e0,_,_⟩:=DataW.trod_int Tryz.underlying3 g0
    obtain ⟨p,ps,cap,e1,hr⟩:=PtRow_of_trod g1
    simp only [List.cons.injEq,and_true] at e0
    rcases DataW.trod_slice Tryz.underlying23 g2 with ⟨e,_⟩ | ⟨a,len,cap3,elems,rest,m,em,e,_,hb,hlc,hcm,hel,hat,_⟩
    · simp only [List.cons.injEq,and_true] at e
      exact ⟨c0,c1,c2,.mk k ps [],rfl,p,cap,none,0,by rw [e0,e1,e];rfl,hr,Nat.le_refl _,by decide,fun _=>rfl,(fun a ha=>by cases ha)⟩
    · simp only [List.cons.injEq,and_true] at e
      obtain ⟨kids,hkl,hkp⟩:=list_of (P:=fun i t=>∃ d0 d1 d2,KS n W (.agg #[d0,d1,d2]) t∧W.cell? (a.add (i*3))=some d0∧W.cell? ⟨(a.add (i*3)).block,(a.add (i*3)).off+1,none⟩=some d1∧W.cell? ⟨(a.add (i*3)).block,(a.add (i*3)).off+2,none⟩=some d2) len (fun i hi=>by
        have h1:=hat i hi
        rw [hC] at h1
        have hx:∃ y,elems[i]?=some y:=⟨_,List.getElem?_eq_getElem (by omega)⟩
        obtain ⟨y,hy⟩:=hx
        rw [hy] at h1
        obtain ⟨cs',hc,ht⟩:=Option.bind_eq_some_iff.1 h1
        obtain ⟨d0,d1,d2,t,rfl,hk⟩:=ih m (by omega) cs' y ht
        obtain ⟨_,hlen',hcell⟩:=World.cells?_some hc
        refine ⟨t,d0,d1,d2,hk.le (by omega),?_,?_,?_⟩
        · have:=hcell 0 (by omega)
          simpa [Addr.add] using this
        · have:=hcell 1 (by omega)
          rw [add_add _ 1 (by omega)] at this
          simpa using this
        · have:=hcell 2 (by omega)
          rw [add_add _ 2 (by omega)] at this
          simpa using this)
      refine ⟨c0,c1,c2,.mk k ps kids,rfl,p,cap,some a,cap3,by rw [e0,e1,e,hkl],hr,by omega,hcm,(fun h=>by cases h),fun a' ha i t hi=>?_⟩
      injection ha with ha
      subst ha
      exact hkp i t hi
end
end
section
open Go.RowKit
theorem NewLineString_any (x y:Value) (hx:∃ k n,x=.int k n) (hy:∃ p n c,y=.slice p n c) (w:World) :
    Calls Tryz.prog 107 #[.agg #[x,y]] w fun e w'=>e=.returned (.agg #[x,y])∧w.grownBy w' none:=by
  obtain ⟨k,n,rfl⟩:=hx
  obtain ⟨p,n,c,rfl⟩:=hy
  go_enter Tryz.func107,Tryz.ntmps107
  go_wp2_with fail
  go_returns
  exact ⟨rfl,gt_alloc_r (World.grownBy_alloc _ _ _) _⟩
def SeqIs (W:World) (v:Value) (r n:Nat) (f:Nat→Nat):Prop:=∃ a,v=.agg #[.int .u8 r,.slice (some a) n n]∧FVal W (some a) n f∧a.block<W.heap.size
theorem SeqIs.mono {W W':World} {v:Value} {r n:Nat} {f:Nat→Nat} (h:SeqIs W v r n f) (hg:W.grownBy W' none):SeqIs W' v r n f:=by
  obtain ⟨a,e,hf,hb⟩:=h;exact ⟨a,e,hf.mono hg,Nat.lt_of_lt_of_le hb hg.size⟩
theorem Length_any (r N:Nat) (hr:r<4) (a:Option Addr) (c:Nat) (hN:N≤2513169434843) (W:World):Calls Tryz.prog 102 #[.agg #[.int .u8 r,.slice a N c]] W fun e w'=>e=.returned (.int .i64 (N / widN r:Nat))∧W.grownBy w' none:=by
  obtain ⟨k,hk,hk2,hk4⟩ : ∃ k:Nat,k=widN r∧2≤k∧k≤4:=⟨widN r,rfl,by unfold widN;omega,by unfold widN;omega⟩
  have HD:=Lib.hid (fun w=>Dimension_any r hr w)
  rw [←hk] at HD ⊢
  clear hk
  obtain ⟨L,hL⟩ : ∃ L:Nat,L=N / k:=⟨_,rfl⟩
  have hk0:¬ k=0:=by omega
  have hwr:IntKind.i64.wrap ((N:Int) / (k:Int))=(L:Int):=by
    have e:(N:Int) / (k:Int)=(L:Int):=by rw [hL];push_cast;rfl
    have hle:L≤N:=by rw [hL];exact Nat.div_le_self _ _
    rw [e,IntKind.wrap_i64];omega
  rw [←hL]
  clear hL
  go_enter Tryz.func102,Tryz.ntmps102
  go_wp2_with fail
  go_quiet ((go_at_call 168;exact Calls.quiet_of_same ((HD.out _).mono fun e w' h=>h)))
  go_wp2_with fail
  go_ret
  exact ⟨rfl,gt_drewN_r (World.grownBy_alloc _ _ _) _⟩
end
end Go.Proofs.YtlpaecafpbbbkaaGreatDoor
