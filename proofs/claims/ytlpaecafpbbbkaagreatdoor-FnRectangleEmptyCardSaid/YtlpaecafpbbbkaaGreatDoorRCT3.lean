/- A place in GeoJSON: the package's function and the reference write the same bytes. The package's GeoJSON of a line. Appending to a row that is the call's own, where the row may take all the memory that growing allows. Slices of any elements that a call makes by appending: what an append leaves, and what stays as it was. The package's text of a place and of a sequence. What the reference makes of a geometry, and its text: plain functions. Appending a whole row that lies in memory. The reference's numbers of places, and its place in GeoJSON. The reference's place in GeoJSON: the same text as the package's. Rows of geometries that a call appends to. An append of new elements, as one step of a region that draws its order. -/
import Derived.Test.YtlpaecafpbbbkaaGreatDoorProg
import Derived.Deep.RegionWith
import Derived.Deep.RegionHeld3
import Derived.Deep.QuietTactic
import Derived.BigQuiet
import Derived.Lib.ItoaLen
import Derived.Deep.DeepCutAuto
import Derived.Lib.ItoaMem
import Derived.WalkKit
import Derived.WalkSpells
import Derived.WalkLawsBesides
import Derived.Handy
import Derived.OpenShut
import Derived.Maps.AppendAt
import Derived.Laws.AppendOwnNone
import Derived.Deep.AppendLies
import Derived.Deep.RegionLaw
import Derived.Test.YtlpaecafpbbbkaaGreatDoorRCT1
import Derived.Test.YtlpaecafpbbbkaaGreatDoorRCT2
set_option linter.unusedVariables false
set_option linter.unusedSimpArgs false
set_option maxRecDepth 100000
set_option maxHeartbeats 24000000
namespace Go.Proofs.YtlpaecafpbbbkaaGreatDoor
section
open Go.RowKit
theorem u8_and1 (d:Int) (h0:0≤d) (h1:d≤3):bits .and .u8 d 1=d % 2:=bits_mask .u8 8 (by decide) wraps_u8 1 (by decide) d h0 (by omega)
theorem Is3D_any (d:Int) (h0:0≤d) (h1:d≤3) (w:World) :
    Calls Tryz.prog 142 #[.int .u8 d] w fun e w'=>e=.returned (.bool (decide (d % 2=1)))∧w'=w:=by
  have he:=u8_and1 d h0 h1
  have h2:(d % 2 != 0)=decide (d % 2=1):=by
    rw [Bool.eq_iff_iff]
    simp
    omega
  go_enter Tryz.func142,Tryz.ntmps142
  go_wp2
  go_ret
  exact ⟨rfl,rfl⟩
end
section
open Go.RowKit
def plX (r:Nat) (f:Nat→Nat) (i:Nat):Nat:=f (i*widN r)
def plY (r:Nat) (f:Nat→Nat) (i:Nat):Nat:=f (i*widN r+1)
def plZ (r:Nat) (f:Nat→Nat) (i:Nat):Nat:=if r % 2=1 then f (i*widN r+2) else 0
def plM (r:Nat) (f:Nat→Nat) (i:Nat):Nat:=if r / 2=1 then f (i*widN r+widN r - 1) else 0
theorem Get_any (r n i:Nat) (a:Addr) (f:Nat→Nat) (hr:r<4) (hn:n≤2513169434843) (hi:i*widN r+widN r≤n) (W:World) (hf:FVal W (some a) n f) :
    Calls Tryz.prog 106 #[.agg #[.int .u8 r,.slice (some a) n n],.int .i64 i] W fun e w'=>e=.returned (.agg #[.float .f64 (plX r f i),.float .f64 (plY r f i),.float .f64 (plZ r f i),.float .f64 (plM r f i),.int .u8 r])∧W.grownBy w' none:=by
  rcases (by omega:r=0∨r=1∨r=2∨r=3) with rfl | rfl | rfl | rfl
  · exact Get_0 n i a f hn (by simp [widN] at hi;omega) W hf
  · exact Get_1 n i a f hn (by simp [widN] at hi;omega) W hf
  · exact Get_2 n i a f hn (by simp [widN] at hi;omega) W hf
  · exact Get_3 n i a f hn (by simp [widN] at hi;omega) W hf
theorem FVal.kept {W W':World} {p:Option Addr} {n:Nat} {f:Nat→Nat} {r:Option Nat} (h:FVal W p n f) (hg:W.grownBy W' r) (hr:∀ a,p=some a→r≠some a.block):FVal W' p n f :=
  ⟨h.some_,fun a ha i hi=>hg.cell (h.at_ a ha i hi) (fun e=>by
    have hb:(a.add i).block=a.block:=by unfold Addr.add;split <;> rfl
    rw [hb] at e
    exact hr a ha e.symm),h.lt⟩
end
section
open Go.Builtin
theorem growBy_most (need:Nat):∀ (r c:Nat),c≤need+need / 4+512→growBy need r c≤need+need / 4+512
  | 0,c,h=>h
  | r+1,c,h=>by
    unfold growBy
    split
    · exact h
    · exact growBy_most need r _ (by omega)
theorem nextcap_most {need old:Nat} (h:old<need):nextslicecap need old≤need+need / 4+512:=by
  unfold nextslicecap
  split
  · omega
  · split
    · omega
    · exact growBy_most need 4 old (by omega)
theorem nextcap_fits {need old bytes:Nat} (h:old<need) (hb:(need+512)*bytes≤220000000000000):nextslicecap need old*bytes≤281474976710656:=by
  have h1:nextslicecap need old*bytes≤(need+need / 4+512)*bytes:=Nat.mul_le_mul_right _ (nextcap_most h)
  have h2:4*((need+need / 4+512)*bytes)≤5*((need+512)*bytes):=by
    rw [←Nat.mul_assoc,←Nat.mul_assoc]
    exact Nat.mul_le_mul_right bytes (by omega)
  omega
section
variable {P:Program} (w:World)
theorem run_own_big (base:Nat) (t ty e:TypeId) (i:TypeInfo) (z:Value) (size bytes:Nat) (ht:P.underlying t=some (.slice e)) (hi:P.info? e=some i) (hz:i.zero=some z)
    (hsize:i.size=size) (hby:i.bytes=bytes) (hzs:z.cells.size=size) (hsz:0<size)
    (v:Value) (n:Nat) (xs:List Value) (hown:w.ownsRow base e size v n xs)
    (a:Addr) (m c:Nat) (news:List Value) (hl:news.length=m*size) (hnews:∀ j u,news[j]?=some u→w.cell? (a.add j)=some u) (h1:∀ u ∈ news,u.oneCell'=true)
    (h63:n+m≤maxLen) (hbytes:(n+m+512)*bytes≤220000000000000) (hbase:base≤w.heap.size) :
    ∃ v' w',(append_ #[t,t] ty #[v,.slice (some a) m c]).run P w=.ok v' w'∧w'.ownsRow base e size v' (n+m) (xs++news)∧w.grownBy w' v.ownBlock ∧
      (v'=.slice none 0 0↔v=.slice none 0 0∧m=0)∧(v'.ownBlock=v.ownBlock∨v'.ownBlock=some w.heap.size):=by
  by_cases hsm:(n+m)*bytes≤140737488355328
  · exact run_append_own_at (P:=P) w base t ty e i z size bytes ht hi hz hsize hby hzs hsz v n xs hown a m c news hl hnews h1 h63 hsm hbase
  have hpos:0<n+m:=by
    rcases Nat.eq_zero_or_pos (n+m) with h | h
    · rw [h,Nat.zero_mul] at hsm;omega
    · exact h
  subst hsize hby
  have hm63:n+m≤9223372036854775807:=by simp only [maxLen] at h63;omega
  have hb48:(n+m)*i.bytes≤281474976710656:=Nat.le_trans (Nat.mul_le_mul_right _ (Nat.le_add_right _ 512)) (Nat.le_trans hbytes (by omega))
  have hlen:(xs++news).length=(n+m)*i.size:=by rw [List.length_append,hown.1,hl,Nat.add_mul]
  have made:∀ (old:Nat) (row:Option Nat),(w.drew.alloc (.cells (xs.toArray++news.toArray++zeroCells z.cells (grownCap w (n+m) old e - (n+m))) e)).ownsRow base e i.size (.slice (some ⟨w.heap.size,0,none⟩) (n+m) (grownCap w (n+m) old e)) (n+m) (xs++news) ∧
      w.grownBy (w.drew.alloc (.cells (xs.toArray++news.toArray++zeroCells z.cells (grownCap w (n+m) old e - (n+m))) e)) row:=fun old row=>by
    have c1:=grownCap_ge w (n+m) old e
    have c2:grownCap w (n+m) old e≤maxLen:=grownCap_le_maxLen w (n+m) old e h63
    constructor
    · refine ⟨hlen,.inr ⟨w.heap.size,_,_,rfl,hbase,Go.heap_alloc_new w.drew _,c1,c2,?_,?_⟩⟩
      · simp only [Array.size_append,List.size_toArray,size_zeroCells,hzs,hown.1,hl,←Nat.add_mul]
        congr 1
        omega
      · simp only [Array.toList_append,List.append_assoc]
        rw [←List.append_assoc,←hlen]
        exact List.take_left
    · exact World.grownBy.trans (⟨rfl,rfl,rfl,Nat.le_refl _,fun _ _ _=>rfl⟩ : w.grownBy w.drew row) (World.grownBy_alloc w.drew _ row)
  rcases hown.2 with ⟨rfl,rfl⟩ | ⟨g,cap,cur,rfl,hbg,hg,hnc,hcm,hcs,htake⟩
  · obtain rfl:xs=[]:=List.eq_nil_of_length_eq_zero (by simpa using hown.1)
    have hr:=run_append_nil (P:=P) w t ty e i z ht hi hz a m c news hl hnews (by omega) (by omega) (by simpa using hb48)
    have hm:=made 0 (Value.ownBlock (.slice none 0 0))
    simp only [Nat.zero_add,List.nil_append,Array.empty_append] at hm ⊢
    have hm0:¬ m=0:=by omega
    exact ⟨_,_,hr,hm.1,hm.2,by simp [hm0],Or.inr rfl⟩
  · by_cases hroom:n+m≤cap
    · have hr:=run_append_room (P:=P) w t ty e i ht hi g n cap cur hg a m c news hl hnews h1 hroom (by rw [hl,hcs,←Nat.add_mul];exact Nat.mul_le_mul_right _ hroom)
      have hsz2:n*i.size+news.length≤cur.size:=by rw [hl,hcs,←Nat.add_mul];exact Nat.mul_le_mul_right _ hroom
      refine ⟨_,_,hr,⟨hlen,.inr ⟨g,cap,_,rfl,hbg,setRow_heap w g cur _ e _ hg,hroom,hcm,?_,?_⟩⟩,⟨rfl,rfl,rfl,by simp,fun k _ hk=>setRow_other w g k _ (fun e=>hk (by simp [Value.ownBlock,e]))⟩,by simp,Or.inl rfl⟩
      · simp only [List.size_toArray,List.length_append,List.length_take,List.length_drop,Array.length_toList]
        omega
      · rw [htake,←hlen]
        exact List.take_left
    · have hr:=run_append_grow (P:=P) w t ty e i z ht hi hz ⟨g,0,none⟩ n cap xs hown.1 (hown.cells (g:=g) rfl) a m c news hl hnews (by omega) (by omega) (nextcap_fits (by omega) hbytes)
      have hm:=made cap (Value.ownBlock (.slice (some ⟨g,0,none⟩) n cap))
      exact ⟨_,_,hr,hm.1,hm.2,by simp,Or.inr rfl⟩
theorem wpList_own_big {ops:Array Oper} {rest:List Oper} {o:Oper} {a:Act} {Q:Exit→Act→World→Prop} (hgd:o.guard=none) (s x:Operand) (t:TypeId)
    (ho:o.op=.call { callee:=.builtin .append,args:=#[s,x],argTypes:=#[t,t] })
    (base:Nat) (e:TypeId) (i:TypeInfo) (z:Value) (size bytes:Nat) (ht:P.underlying t=some (.slice e)) (hi:P.info? e=some i) (hz:i.zero=some z)
    (hsize:i.size=size) (hby:i.bytes=bytes) (hzs:z.cells.size=size) (hsz:0<size)
    (v:Value) (n:Nat) (xs:List Value) (hs:a.eval s=v) (hown:w.ownsRow base e size v n xs)
    (ad:Addr) (m c:Nat) (news:List Value) (hx:a.eval x=.slice (some ad) m c) (hl:news.length=m*size) (hnews:∀ j u,news[j]?=some u→w.cell? (ad.add j)=some u) (h1:∀ u ∈ news,u.oneCell'=true)
    (h63:n+m≤maxLen) (hbytes:(n+m+512)*bytes≤220000000000000) (hbase:base≤w.heap.size)
    (h:∀ v' w',w'.ownsRow base e size v' (n+m) (xs++news)→w.grownBy w' v.ownBlock→(v'=.slice none 0 0↔v=.slice none 0 0∧m=0)→(v'.ownBlock=v.ownBlock∨v'.ownBlock=some w.heap.size)→wpList P ops Q rest (a.put o.dst v') w') :
    wpList P ops Q (o::rest) a w:=by
  refine wpList_plain hgd fun K hK=>?_
  obtain ⟨v',w',hr,k2,k3,k4,k5⟩:=run_own_big (P:=P) w base t o.type e i z size bytes ht hi hz hsize hby hzs hsz v n xs hown ad m c news hl hnews h1 h63 hbytes hbase
  unfold Oper.wp execOp
  simp only [ho,resolve,invoke,builtin,Sem.run_bind,Sem.run_pure,Result.andThen_ok,List.map_toArray,List.map_cons,List.map_nil,hs,hx,hr]
  exact hK _ _ (h v' w' k2 k3 k4 k5)
end
end
section
open Go.RowKit
structure AppV (e size base:Nat) (w0:World) (v0:Value) (w:World) (v:Value) (n:Nat) (xs:List Value):Prop where
  own:w.ownsRow base e size v n xs
  grown:w0.grownBy w v0.ownBlock
  at_:v.ownBlock=v0.ownBlock∨∃ b,v.ownBlock=some b∧w0.heap.size≤b
section
variable {e size base:Nat} {w0 w w1 w2:World} {v0 v v1 v2:Value} {n n1 n2:Nat} {xs xs1 xs2:List Value}
theorem AppV.start (h:w.ownsRow base e size v n xs):AppV e size base w v w v n xs:=⟨h,gt_refl _ _,.inl rfl⟩
theorem AppV.nil (w:World) (e size base:Nat):AppV e size base w (.slice none 0 0) w (.slice none 0 0) 0 []:=.start (World.ownsRow_nil w base e size)
theorem AppV.trans (h:AppV e size base w0 v0 w1 v1 n1 xs1) (k:AppV e size base w1 v1 w2 v2 n2 xs2):AppV e size base w0 v0 w2 v2 n2 xs2:=by
  refine ⟨k.own,gt_trans h.grown k.grown ?_,?_⟩
  · rcases h.at_ with h | ⟨b,h,hb⟩
    · exact .inl h
    · exact .inr (.inr ⟨b,h,hb⟩)
  · rcases k.at_ with k' | ⟨b,k',hb⟩
    · rcases h.at_ with h | ⟨b,h,hb⟩
      · exact .inl (k'.trans h)
      · exact .inr ⟨b,k'.trans h,hb⟩
    · exact .inr ⟨b,k',Nat.le_trans h.grown.size hb⟩
theorem AppV.beside (h:AppV e size base w0 v0 w v n xs) (k:w.grownBy w1 none):AppV e size base w0 v0 w1 v n xs :=
  ⟨h.own.kept k (by cases v.ownBlock <;> simp),gt_trans h.grown k (.inr (.inl rfl)),h.at_⟩
theorem AppV.based (h:AppV e size base w0 v0 w v n xs) (hb:base≤w0.heap.size):base≤w.heap.size:=Nat.le_trans hb h.grown.size
theorem AppV.cell (h:AppV e size base w0 v0 w v n xs) {a:Addr} (hlt:a.block<w0.heap.size) (hne:v0.ownBlock≠some a.block):w.cell? a=w0.cell? a :=
  World.cell?_of_block (h.grown.block _ hlt (fun he=>hne he.symm))
theorem AppV.slice (h:AppV e size base w0 v0 w v n xs):∃ p c,v=.slice p n c:=by
  rcases h.own.2 with h | ⟨g,cap,cur,hv,_⟩
  · exact ⟨none,0,by rw [h.1,h.2]⟩
  · exact ⟨_,_,hv⟩
theorem AppV.grown0 (h:AppV e size base w0 (.slice none 0 0) w v n xs):w0.grownBy w none:=h.grown
end
section
variable {e size base:Nat} {w0 W:World} {v0 v:Value} {n:Nat} {xs:List Value}
variable {P:Program} {ops:Array Oper} {rest:List Oper} {o:Oper} {a:Act} {Q:Exit→Act→World→Prop}
theorem app_cells (hgd:o.guard=none) (s x:Operand) (t:TypeId) (ho:o.op=.call { callee:=.builtin .append,args:=#[s,x],argTypes:=#[t,t] })
    (ht:P.underlying t=some (.slice e)) (z:Value) (bytes:Nat) (hinfo:(P.info? e).map (fun i=>(i.zero,i.size,i.bytes))=some (some z,size,bytes)) (hzs:z.cells.size=size) (hsz:0<size)
    (H:AppV e size base w0 v0 W v n xs) (hs:a.eval s=v) {k m c:Nat} (hx:a.eval x=.slice (some ⟨k,0,none⟩) m c) (hk:k=W.heap.size) (cs:Array Value) (hcl:cs.size=m*size) (h1:∀ u ∈ cs.toList,u.oneCell'=true)
    (hbase:base≤w0.heap.size) (hl:(n+m+512)*bytes≤220000000000000) (hl2:n+m≤140737488355328)
    (h:∀ v1 w1,AppV e size base w0 v0 w1 v1 (n+m) (xs++cs.toList)→wpList P ops Q rest (a.put o.dst v1) w1) :
    wpList P ops Q (o::rest) a (W.alloc (.cells cs e)):=by
  subst hk
  obtain ⟨i0,hi,hzz⟩:=Option.map_eq_some_iff.1 hinfo
  simp only [Prod.mk.injEq] at hzz
  obtain ⟨hz0,hz1,hz2⟩:=hzz
  refine wpList_own_big (W.alloc (.cells cs e)) hgd s x t ho base e i0 z size bytes ht hi hz0 hz1 hz2 hzs hsz v n xs hs (H.own.alloc _) ⟨W.heap.size,0,none⟩ m c cs.toList hx (by simpa using hcl)
    (fun j u hj=>?_) h1 (by simp only [maxLen];omega) hl (by have:=H.based hbase;simp;omega) ?_
  · by_cases h0:j=0
    · subst h0;simp [Addr.add];simpa using hj
    · simp [Addr.add,h0];simpa using hj
  · intro v1 w1 hown hg _ hat
    have hb:=H.beside (World.grownBy_alloc W (.cells cs e) none)
    refine h v1 w1 (hb.trans ⟨hown,hg,?_⟩)
    rcases hat with hat | hat
    · exact .inl hat
    · exact .inr ⟨_,hat,Nat.le_refl _⟩
end
end
section
open Go.RowKit
theorem Is3D_lit (d:Int) (b:Bool) (h:(d=0∧b=false)∨(d=1∧b=true)∨(d=2∧b=false)∨(d=3∧b=true)) (w:World) :
    Calls Tryz.prog 142 #[.int .u8 d] w fun e w'=>e=.returned (.bool b)∧w'=w:=by
  refine (Is3D_any d (by omega) (by omega) w).mono fun e w' ⟨he,hw⟩=>⟨?_,hw⟩
  rw [he]
  rcases h with ⟨rfl,rfl⟩ | ⟨rfl,rfl⟩ | ⟨rfl,rfl⟩ | ⟨rfl,rfl⟩ <;> rfl
theorem IsMeasured_lit (d:Int) (b:Bool) (h:(d=0∧b=false)∨(d=1∧b=false)∨(d=2∧b=true)∨(d=3∧b=true)) (w:World) :
    Calls Tryz.prog 143 #[.int .u8 d] w fun e w'=>e=.returned (.bool b)∧w'=w:=by
  rcases h with ⟨rfl,rfl⟩ | ⟨rfl,rfl⟩ | ⟨rfl,rfl⟩ | ⟨rfl,rfl⟩
  all_goals
    have b0:bits .and .u8 0 2=0:=by kernel_rfl
    have b1:bits .and .u8 1 2=0:=by kernel_rfl
    have b2:bits .and .u8 2 2=2:=by kernel_rfl
    have b3:bits .and .u8 3 2=2:=by kernel_rfl
    go_enter Tryz.func143,Tryz.ntmps143
    go_wp2
    go_ret
    exact ⟨rfl,rfl⟩
theorem fval_plM {W:World} {p:Option Addr} {n:Nat} {f:Nat→Nat} (h:FVal W p n f) (r i:Nat):plM r f i<18446744073709551616:=by unfold plM;split;exact h.lt _;omega
theorem fval_plZ {W:World} {p:Option Addr} {n:Nat} {f:Nat→Nat} (h:FVal W p n f) (r i:Nat):plZ r f i<18446744073709551616:=by unfold plZ;split;exact h.lt _;omega
end
section
open Go.RowKit
def kidOf (k:Int):Int:=if k=4 then 1 else if k=3∨k=5 then 2 else if k=6 then 3 else -1
def kindOf:Raw→Int
  | .mk k _ _ _ _=>k
def dimR:Raw→Nat
  | .mk _ d _ _ _=>d.toNat
def fF (r r':Nat) (f:Nat→Nat) (i:Nat):Nat :=
  if i % widN r'=0 then plX r f (i / widN r') else if i % widN r'=1 then plY r f (i / widN r') else if i % widN r'=2∧r' % 2=1 then plZ r f (i / widN r') else plM r f (i / widN r')
mutual
def forceT (r':Nat):Raw→Raw
  | .mk k d n f kids=>.mk k r' (n / widN d.toNat*widN r') (fF d.toNat r' f) (forceTs r' kids)
def forceTs (r':Nat):List Raw→List Raw
  | []=>[]
  | t::ts=>forceT r' t::forceTs r' ts
end
def dimsOf:List Raw→Nat
  | []=>3
  | t::ts=>dimR t &&& dimsOf ts
def keepT (k:Int) (m:Raw):Bool:=decide (kidOf k<0)||decide (kidOf k=kindOf m)
def nodeT (k:Int) (r:Nat) (f:Nat→Nat) (ks:List Raw):Raw:=if ks=[] then .mk k r 0 f [] else forceT (dimsOf ks) (.mk k r 0 f ks)
def kindN (k:Int):Int:=if k<0∨6<k then 0 else k
mutual
def newT:Raw→Raw
  | .mk k d n f kids =>
    if kindN k=1 then .mk 1 (d % 4) (min (n / widN (d % 4).toNat) 1*widN (d % 4).toNat) f []
    else if kindN k=2 then .mk 2 (d % 4) (n / widN (d % 4).toNat*widN (d % 4).toNat) f []
    else nodeT (kindN k) (d % 4).toNat f ((newTs kids).filter (keepT (kindN k)))
def newTs:List Raw→List Raw
  | []=>[]
  | t::ts=>newT t::newTs ts
end
theorem widN_le (r:Nat) (hr:r<4):2≤widN r∧widN r≤4:=by unfold widN;omega
theorem widN_pos (r:Nat):2≤widN r:=by unfold widN;omega
theorem dimsOf_lt:∀ ks:List Raw,dimsOf ks<4
  | []=>by decide
  | t::ts=>by
    unfold dimsOf
    have h:=dimsOf_lt ts
    exact Nat.lt_of_le_of_lt Nat.and_le_right h
theorem forceTs_len (r':Nat):∀ ts:List Raw,(forceTs r' ts).length=ts.length
  | []=>rfl
  | t::ts=>by unfold forceTs;simp [forceTs_len r' ts]
theorem forceTs_get (r':Nat):∀ (ts:List Raw) (i:Nat),(forceTs r' ts)[i]?=(ts[i]?).map (forceT r')
  | [],i=>by simp [forceTs]
  | t::ts,0=>by simp [forceTs]
  | t::ts,i+1=>by simp [forceTs,forceTs_get r' ts i]
theorem newTs_snoc:∀ (ts:List Raw) (t:Raw),newTs (ts++[t])=newTs ts++[newT t]
  | [],t=>rfl
  | s::ts,t=>by simp only [List.cons_append,newTs,newTs_snoc ts t]
end
section
open Go.RowKit
section
variable {e size base:Nat} {w0 W:World} {v0 v:Value} {n:Nat} {xs:List Value}
variable {P:Program} {ops:Array Oper} {rest:List Oper} {o:Oper} {a:Act} {Q:Exit→Act→World→Prop}
theorem app_src (hgd:o.guard=none) (s x:Operand) (t:TypeId) (ho:o.op=.call { callee:=.builtin .append,args:=#[s,x],argTypes:=#[t,t] })
    (ht:P.underlying t=some (.slice e)) (z:Value) (bytes:Nat) (hinfo:(P.info? e).map (fun i=>(i.zero,i.size,i.bytes))=some (some z,size,bytes)) (hzs:z.cells.size=size) (hsz:0<size)
    (H:AppV e size base w0 v0 W v n xs) (hs:a.eval s=v) (src:Value) (hx:a.eval x=src) (m:Nat) (cs:List Value) (hcl:cs.length=m*size) (h1:∀ u ∈ cs,u.oneCell'=true)
    (hsrc:src=.slice none 0 0∧m=0∨∃ ad c,src=.slice (some ad) m c∧∀ j u,cs[j]?=some u→W.cell? (ad.add j)=some u)
    (hbase:base≤w0.heap.size) (hl:(n+m+512)*bytes≤220000000000000) (hl2:n+m≤140737488355328)
    (h:∀ v1 w1,AppV e size base w0 v0 w1 v1 (n+m) (xs++cs)→wpList P ops Q rest (a.put o.dst v1) w1) :
    wpList P ops Q (o::rest) a W:=by
  obtain ⟨i0,hi,hzz⟩:=Option.map_eq_some_iff.1 hinfo
  simp only [Prod.mk.injEq] at hzz
  obtain ⟨hz0,hz1,hz2⟩:=hzz
  rcases hsrc with ⟨rfl,rfl⟩ | ⟨ad,c,rfl,hc⟩
  · obtain rfl:cs=[]:=List.eq_nil_of_length_eq_zero (by simpa using hcl)
    refine wpList_append_own_none hgd s x t ho base e i0 size ht hi v n xs hs H.own hx ?_
    exact h v W (by simpa using H)
  · refine wpList_own_big W hgd s x t ho base e i0 z size bytes ht hi hz0 hz1 hz2 hzs hsz v n xs hs H.own ad m c cs hx hcl hc h1 (by simp only [maxLen];omega) hl (H.based hbase) ?_
    intro v1 w1 hown hg _ hat
    refine h v1 w1 (H.trans ⟨hown,hg,?_⟩)
    rcases hat with hat | hat
    · exact .inl hat
    · exact .inr ⟨_,hat,Nat.le_refl _⟩
end
theorem own_at4 {w:World} {base n c:Nat} {e:TypeId} {p:Option Addr} {xs:List Value} (h:w.ownsRow base e 4 (.slice p n c) n xs):(0<n→∃ a,p=some a)∧∀ a,p=some a→∀ i j v,xs[i*4+j]?=some v→w.cell? (if j=0 then a.add (i*4) else ⟨(a.add (i*4)).block,(a.add (i*4)).off+j,none⟩)=some v:=by
  refine ⟨fun hn=>?_,fun a ha i j v hv=>?_⟩
  · rcases h.2 with h' | ⟨g,cap,cur,hv,_⟩
    · omega
    · injection hv with h1;exact ⟨_,h1⟩
  · rcases h.2 with h' | ⟨g,cap,cur,hv',_⟩
    · have:=h'.1;rw [ha] at this;cases this
    · injection hv' with h1 h2 h3
      subst h3
      rw [h1] at ha h
      injection ha with ha
      subst ha
      have hc:=h.cells (g:=g) rfl (i*4+j) v hv
      have hadd:∀ k,(⟨g,0,none⟩ : Addr).add k=⟨g,0+k,none⟩:=fun k=>by unfold Addr.add;split <;> simp_all
      rw [hadd] at hc
      rw [hadd]
      split
      · next h0=>subst h0;exact hc
      · have e:0+(i*4+j)=0+i*4+j:=by omega
        rw [e] at hc
        exact hc
section
variable {e size base:Nat} {W:World} {v:Value} {n:Nat} {xs:List Value}
variable {P:Program} {ops:Array Oper} {o:Oper} {a:Act} {K:Act→World→Prop} {Q:Exit→Act→World→Prop} {E:Prop}
end
section
variable {e size base:Nat} {W:World} {v:Value} {n:Nat} {xs:List Value}
variable {P:Program} {ops:Array Oper} {rest:List Oper} {o:Oper} {a:Act} {Q:Exit→Act→World→Prop}
theorem app_cells2 (hgd:o.guard=none) (s x:Operand) (t:TypeId) (ho:o.op=.call { callee:=.builtin .append,args:=#[s,x],argTypes:=#[t,t] })
    (ht:P.underlying t=some (.slice e)) (z:Value) (bytes:Nat) (hinfo:(P.info? e).map (fun i=>(i.zero,i.size,i.bytes))=some (some z,size,bytes)) (hzs:z.cells.size=size) (hsz:0<size)
    (hs:a.eval s=v) {k m c:Nat} (hx:a.eval x=.slice (some ⟨k,0,none⟩) m c) (hk:k=W.heap.size) (cs:Array Value) (hown:(W.alloc (.cells cs e)).ownsRow base e size v n xs) (hcl:cs.size=m*size) (h1:∀ u ∈ cs.toList,u.oneCell'=true)
    (hm:0<m) (hbase:base≤(W.alloc (.cells cs e)).heap.size) (hl:(n+m+512)*bytes≤220000000000000) (hl2:n+m≤140737488355328)
    (h:∀ g cap w',w'.ownsRow base e size (.slice (some ⟨g,0,none⟩) (n+m) cap) (n+m) (xs++cs.toList)→(W.alloc (.cells cs e)).grownBy w' v.ownBlock→(v.ownBlock=some g∨g=(W.alloc (.cells cs e)).heap.size)→wpList P ops Q rest (a.put o.dst (.slice (some ⟨g,0,none⟩) (n+m) cap)) w') :
    wpList P ops Q (o::rest) a (W.alloc (.cells cs e)):=by
  subst hk
  obtain ⟨i0,hi,hzz⟩:=Option.map_eq_some_iff.1 hinfo
  simp only [Prod.mk.injEq] at hzz
  obtain ⟨hz0,hz1,hz2⟩:=hzz
  refine wpList_own_big (W.alloc (.cells cs e)) hgd s x t ho base e i0 z size bytes ht hi hz0 hz1 hz2 hzs hsz v n xs hs hown ⟨W.heap.size,0,none⟩ m c cs.toList hx (by simpa using hcl)
    (fun j u hj=>?_) h1 (by simp only [maxLen];omega) hl hbase ?_
  · by_cases h0:j=0
    · subst h0;simp [Addr.add];simpa using hj
    · simp [Addr.add,h0];simpa using hj
  · intro v1 w1 hown1 hg _ hat
    rcases hown1.2 with ⟨_,h0⟩ | ⟨g,cap,cur,rfl,hrest⟩
    · omega
    · have hob:(Value.slice (some ⟨g,0,none⟩) (n+m) cap).ownBlock=some g:=rfl
      rw [hob] at hat
      refine h g cap w1 hown1 hg ?_
      rcases hat with hat | hat
      · exact .inl hat.symm
      · injection hat with hat;exact .inr hat
end
end
section
open Go.RowKit
structure PRow (W:World) (p:Option Addr) (n:Nat) (X Y Z M:Nat→Nat):Prop where
  some_:0<n→∃ a,p=some a
  at_:∀ a,p=some a→∀ i,i<n→W.cell? (a.add (i*4))=some (.float .f64 (X i))∧W.cell? ⟨(a.add (i*4)).block,(a.add (i*4)).off+1,none⟩=some (.float .f64 (Y i)) ∧
    W.cell? ⟨(a.add (i*4)).block,(a.add (i*4)).off+2,none⟩=some (.float .f64 (Z i))∧W.cell? ⟨(a.add (i*4)).block,(a.add (i*4)).off+3,none⟩=some (.float .f64 (M i))
theorem PRow.mono {W W':World} {p:Option Addr} {n:Nat} {X Y Z M:Nat→Nat} (h:PRow W p n X Y Z M) (hg:W.grownBy W' none):PRow W' p n X Y Z M :=
  ⟨h.some_,fun a ha i hi=>by obtain ⟨h0,h1,h2,h3⟩:=h.at_ a ha i hi;exact ⟨hg.cell h0 (by simp),hg.cell h1 (by simp),hg.cell h2 (by simp),hg.cell h3 (by simp)⟩⟩
end
section
open Go.RowKit
theorem own_at {w:World} {base n c:Nat} {e:TypeId} {p:Option Addr} {xs:List Value} (h:w.ownsRow base e 1 (.slice p n c) n xs):(0<n→∃ a,p=some a)∧∀ a,p=some a→∀ i v,xs[i]?=some v→w.cell? (a.add i)=some v:=by
  refine ⟨fun hn=>?_,fun a ha i v hv=>?_⟩
  · rcases h.2 with h' | ⟨g,cap,cur,hv,_⟩
    · omega
    · injection hv with h1;exact ⟨_,h1⟩
  · rcases h.2 with h' | ⟨g,cap,cur,hv',_⟩
    · have:=h'.1;rw [ha] at this;cases this
    · injection hv' with h1 h2 h3
      subst h3
      rw [h1] at ha h
      injection ha with ha
      subst ha
      exact h.cells rfl i v hv
end
section
open Go.RowKit
def Fr (W W':World) (b:Nat):Prop:=W.heap.size≤b∧b<W'.heap.size
theorem grown_set (W:World) (q:Addr) (x:Value):W.grownBy (W.setCell q x) (some q.block) :=
  ⟨rfl,rfl,rfl,by simp [World.setCell],fun i _ hne=>Below.heap_setCell W q x i (fun e=>hne (by rw [e]))⟩
theorem own_form {w:World} {base size n:Nat} {e:TypeId} {x:Value} {xs:List Value} (h:w.ownsRow base e size x n xs):∃ p c,x=.slice p n c∧n≤c∧c≤maxLen∧(p=none→c=0)∧∀ a,p=some a→x.ownBlock=some a.block:=by
  rcases h.2 with ⟨rfl,rfl⟩ | ⟨g,cap,cur,rfl,_,_,h1,h2,_⟩
  · exact ⟨none,0,rfl,Nat.le_refl _,by decide,fun _=>rfl,fun a ha=>by cases ha⟩
  · exact ⟨_,cap,rfl,h1,h2,(fun h=>by cases h),fun a ha=>by injection ha with ha;subst ha;rfl⟩
def KRow (base h:Nat) (W:World) (x:Value) (ts:List Raw) (cs:List Value):Prop :=
  W.ownsRow base 33 4 x ts.length cs∧∀ i t,ts[i]?=some t→∃ c0 c1 c2 c3,cs[i*4]?=some c0∧cs[i*4+1]?=some c1∧cs[i*4+2]?=some c2∧cs[i*4+3]?=some c3 ∧
    KD (fun b=>base≤b∧b<W.heap.size∧x.ownBlock≠some b) h W (.agg #[c0,c1,c2,c3]) t
theorem KRow.nil (base h:Nat) (W:World):KRow base h W (.slice none 0 0) [] []:=⟨World.ownsRow_nil _ _ _ _,fun i t h=>by simp at h⟩
theorem KRow.kept {base h:Nat} {W W':World} {x:Value} {ts:List Raw} {cs:List Value} (k:KRow base h W x ts cs) (g:W.grownBy W' none):KRow base h W' x ts cs :=
  ⟨k.1.kept g (by cases x.ownBlock <;> simp),fun i t hi=>by
    obtain ⟨c0,c1,c2,c3,h0,h1,h2,h3,hk⟩:=k.2 i t hi
    exact ⟨c0,c1,c2,c3,h0,h1,h2,h3,(hk.mono g).weak fun b hb=>⟨hb.1,Nat.lt_of_lt_of_le hb.2.1 g.size,hb.2.2⟩⟩⟩
theorem KRow.set {base h:Nat} {W:World} {x:Value} {ts:List Raw} {cs:List Value} (k:KRow base h W x ts cs) {q:Addr} (hq:q.block<base) (y:Value):KRow base h (W.setCell q y) x ts cs:=by
  have hlt:=k.1.lt
  refine ⟨k.1.kept (grown_set W q y) ?_,fun i t hi=>?_⟩
  · cases hx:x.ownBlock with
    | none=>exact .inl rfl
    | some b=>exact .inr fun e=>by injection e with e;have:=(hlt b hx).1;omega
  · obtain ⟨c0,c1,c2,c3,h0,h1,h2,h3,hk⟩:=k.2 i t hi
    refine ⟨c0,c1,c2,c3,h0,h1,h2,h3,?_⟩
    have:(W.setCell q y).heap.size=W.heap.size:=by simp [World.setCell]
    rw [this]
    exact hk.keep (.set (fun hb=>by have:=hb.1;omega) y)
theorem KRow.snoc {base h:Nat} {W W1 W2 W3 W4:World} {x:Value} {ts:List Raw} {cs:List Value} (k:KRow base h W x ts cs) (hb:base≤W.heap.size) (g1:W.grownBy W1 none) (g2:W1.grownBy W2 none) (g3:W2.grownBy W3 none)
    {c0 c1 c2 c3:Value} {t:Raw} (hk:KD (Fr W1 W2) h W2 (.agg #[c0,c1,c2,c3]) t) {g cap:Nat} (hown:W4.ownsRow base 33 4 (.slice (some ⟨g,0,none⟩) (ts.length+1) cap) (ts.length+1) (cs++[c0,c1,c2,c3]))
    (g4:W3.grownBy W4 x.ownBlock) (hg:x.ownBlock=some g∨g=W3.heap.size):KRow base h W4 (.slice (some ⟨g,0,none⟩) (ts.length+1) cap) (ts++[t]) (cs++[c0,c1,c2,c3]):=by
  have hlt:=k.1.lt
  have s1:=g1.size
  have s2:=g2.size
  have s3:=g3.size
  have s4:=g4.size
  have hcl:cs.length=ts.length*4:=k.1.1
  refine ⟨by simpa using hown,fun i t' hi=>?_⟩
  have hob:(Value.slice (some ⟨g,0,none⟩) (ts.length+1) cap).ownBlock=some g:=rfl
  rw [hob]
  by_cases hi':i<ts.length
  · rw [List.getElem?_append_left hi'] at hi
    obtain ⟨d0,d1,d2,d3,h0,h1,h2,h3,hd⟩:=k.2 i t' hi
    refine ⟨d0,d1,d2,d3,by rw [List.getElem?_append_left (by omega)];exact h0,by rw [List.getElem?_append_left (by omega)];exact h1,by rw [List.getElem?_append_left (by omega)];exact h2,by rw [List.getElem?_append_left (by omega)];exact h3,?_⟩
    have hd3:=hd.mono (gt_trans (gt_trans g1 g2 (.inl rfl)) g3 (.inl rfl))
    have hd4:=hd3.keep (.grownRow g4 (fun b hb' hB=>hB.2.2 hb'))
    refine hd4.weak fun b hB=>⟨hB.1,by have:=hB.2.1;omega,fun e=>?_⟩
    injection e with e
    subst e
    rcases hg with hg | hg
    · exact hB.2.2 hg
    · have:=hB.2.1;omega
  · rw [List.getElem?_append_right (by omega)] at hi
    obtain ⟨hz,he⟩:=List.getElem?_eq_some_iff.1 hi
    have hil:i=ts.length:=by simp at hz;omega
    subst hil
    simp at he
    subst he
    refine ⟨c0,c1,c2,c3,by rw [List.getElem?_append_right (by omega)];simp [hcl],by rw [List.getElem?_append_right (by omega),hcl];simp,by rw [List.getElem?_append_right (by omega),hcl];simp,by rw [List.getElem?_append_right (by omega),hcl];simp,?_⟩
    have hd4:=(hk.mono g3).keep (.grownRow g4 (fun b hb' hB=>by have:=(hlt b hb').2;have:=hB.1;omega))
    refine hd4.weak fun b hB=>⟨by have:=hB.1;omega,by have:=hB.2;omega,fun e=>?_⟩
    injection e with e
    subst e
    rcases hg with hg | hg
    · have:=(hlt _ hg).2;have:=hB.1;omega
    · have:=hB.2;omega
theorem KRow.kd {base h:Nat} {W:World} {B:Nat→Prop} {x:Value} {ts:List Raw} {cs:List Value} (kr:KRow base h W x ts cs) {k d:Int} {p:Option Addr} {n cap:Nat} {f:Nat→Nat} (hf:FVal W p n f) (h1:n≤cap) (h2:cap≤maxLen) (h3:p=none→cap=0)
    (hp:∀ a,p=some a→B a.block) (hB:∀ b,base≤b→b<W.heap.size→B b):KD B (h+1) W (.agg #[.int .i64 k,.int .i64 d,.slice p n cap,x]) (.mk k d n f ts):=by
  obtain ⟨q,c,rfl,hl1,hl2,hl3,hob⟩:=own_form kr.1
  have hlt:=kr.1.lt
  refine ⟨p,cap,q,c,rfl,hf,h1,h2,h3,hl1,hl2,hl3,fun a ha i t hi=>?_,hp,fun a ha=>?_⟩
  · obtain ⟨c0,c1,c2,c3,e0,e1,e2,e3,hk⟩:=kr.2 i t hi
    obtain ⟨_,hat⟩:=own_at4 kr.1
    exact ⟨c0,c1,c2,c3,hk.weak (fun b hb=>hB b hb.1 hb.2.1),hat a ha i 0 _ e0,hat a ha i 1 _ e1,hat a ha i 2 _ e2,hat a ha i 3 _ e3⟩
  · have:=hlt _ (hob a ha)
    exact hB _ this.1 this.2
theorem infoG:(Tryz.prog.info? 33).map (fun i=>(i.zero,i.size,i.bytes))=some (some (.agg #[.int .i64 0,.int .i64 0,.slice none 0 0,.slice none 0 0]),4,64):=by kernel_rfl
structure OutInv (W wr:World) (h:Nat) (k d:Int) (p:Option Addr) (n c:Nat) (f:Nat→Nat) (x:Value) (ts:List Raw) (cs:List Value):Prop where
  g:W.grownBy wr none
  big:W.heap.size+3≤wr.heap.size
  o0:wr.cell? ⟨W.heap.size+1+1,0,none⟩=some (.int .i64 k)
  o1:wr.cell? ⟨W.heap.size+1+1,1,none⟩=some (.int .i64 d)
  o2:wr.cell? ⟨W.heap.size+1+1,2,none⟩=some (.slice p n c)
  o3:wr.cell? ⟨W.heap.size+1+1,3,none⟩=some x
  of_:∀ j,wr.frozen? ⟨W.heap.size+1+1,j,none⟩=false
  r0:wr.cell? ⟨W.heap.size+1,0,none⟩=some (.int .i64 0)
  r1:wr.cell? ⟨W.heap.size+1,1,none⟩=some (.int .i64 0)
  r2:wr.cell? ⟨W.heap.size+1,2,none⟩=some (.slice none 0 0)
  r3:wr.cell? ⟨W.heap.size+1,3,none⟩=some (.slice none 0 0)
  rf:∀ j,wr.frozen? ⟨W.heap.size+1,j,none⟩=false
  nums:FVal wr p n f
  n1:n≤c
  n2:c≤maxLen
  n3:p=none→c=0
  nb:∀ a,p=some a→W.heap.size+3≤a.block∧a.block<wr.heap.size∧x.ownBlock≠some a.block
  kr:KRow (W.heap.size+3) h wr x ts cs
section
variable {W wr w':World} {h:Nat} {k d:Int} {p:Option Addr} {n c:Nat} {f:Nat→Nat} {x:Value} {ts:List Raw} {cs:List Value}
theorem OutInv.kept (i:OutInv W wr h k d p n c f x ts cs) (g:wr.grownBy w' none):OutInv W w' h k d p n c f x ts cs:=by
  have hb:=i.big
  have hf:∀ b j,b<wr.heap.size→w'.frozen? ⟨b,j,none⟩=wr.frozen? ⟨b,j,none⟩:=fun b j hlt=>World.frozen?_of_block (g.block b hlt (by simp))
  exact ⟨gt_trans i.g g (.inl rfl),Nat.le_trans i.big g.size,g.cell i.o0 (by simp),g.cell i.o1 (by simp),g.cell i.o2 (by simp),g.cell i.o3 (by simp),fun j=>by rw [hf _ _ (by omega)];exact i.of_ j,
    g.cell i.r0 (by simp),g.cell i.r1 (by simp),g.cell i.r2 (by simp),g.cell i.r3 (by simp),fun j=>by rw [hf _ _ (by omega)];exact i.rf j,i.nums.mono g,i.n1,i.n2,i.n3,
    fun a ha=>⟨(i.nb a ha).1,Nat.lt_of_lt_of_le (i.nb a ha).2.1 g.size,(i.nb a ha).2.2⟩,i.kr.kept g⟩
theorem OutInv.snoc {w1 w2 w3 w4:World} (i:OutInv W wr h k d p n c f x ts cs) (g1:wr.grownBy w1 none) (g2:w1.grownBy w2 none) (g3:w2.grownBy w3 none) {c0 c1 c2 c3:Value} {t:Raw} (hk:KD (Fr w1 w2) h w2 (.agg #[c0,c1,c2,c3]) t) {gg cap:Nat}
    (hown:w4.ownsRow (W.heap.size+3) 33 4 (.slice (some ⟨gg,0,none⟩) (ts.length+1) cap) (ts.length+1) (cs++[c0,c1,c2,c3])) (g4:w3.grownBy w4 x.ownBlock) (hg:x.ownBlock=some gg∨gg=w3.heap.size) :
    OutInv W (w4.setCell ⟨W.heap.size+1+1,3,none⟩ (.slice (some ⟨gg,0,none⟩) (ts.length+1) cap)) h k d p n c f (.slice (some ⟨gg,0,none⟩) (ts.length+1) cap) (ts++[t]) (cs++[c0,c1,c2,c3]):=by
  have hsn:=i.kr.snoc i.big g1 g2 g3 hk hown g4 hg
  have j:=((i.kept g1).kept g2).kept g3
  have hlt:=i.kr.1.lt
  have hb:=i.big
  have s1:=g1.size
  have s2:=g2.size
  have s3:=g3.size
  have s4:=g4.size
  have hne:∀ b,b<W.heap.size+3→x.ownBlock≠some b:=fun b hlt' e=>by have:=(hlt b e).1;omega
  have cell:∀ b o v,b<W.heap.size+3→w3.cell? ⟨b,o,none⟩=some v→w4.cell? ⟨b,o,none⟩=some v:=fun b o v hb' hv=>g4.cell hv (fun e=>hne b hb' e.symm)
  have fro:∀ b o,b<W.heap.size+3→w4.frozen? ⟨b,o,none⟩=w3.frozen? ⟨b,o,none⟩:=fun b o hb'=>World.frozen?_of_block (g4.block b (by omega) (fun e=>hne b hb' e.symm))
  have hsz:(w4.setCell ⟨W.heap.size+1+1,3,none⟩ (.slice (some ⟨gg,0,none⟩) (ts.length+1) cap)).heap.size=w4.heap.size:=by simp [World.setCell]
  have hgW:W.grownBy w4 none:=gt_trans j.g g4 (by
    cases hx:x.ownBlock with
    | none=>exact .inl rfl
    | some b=>exact .inr (.inr ⟨b,rfl,by have:=(hlt b hx).1;omega⟩))
  have z3:=World.cell?_setCell_same (v:=.slice (some ⟨gg,0,none⟩) (ts.length+1) cap) (h:=cell _ _ _ (by omega) j.o3)
  refine ⟨gt_set_r hgW _ _ (by show W.heap.size≤W.heap.size+1+1;omega),by rw [hsz];omega,?_,?_,?_,z3,fun l=>?_,?_,?_,?_,?_,fun l=>?_,?_,i.n1,i.n2,i.n3,?_,hsn.set (by show W.heap.size+1+1<W.heap.size+3;omega) _⟩
  · rw [World.cell?_setCell_other (h:=by simp)];exact cell _ _ _ (by omega) j.o0
  · rw [World.cell?_setCell_other (h:=by simp)];exact cell _ _ _ (by omega) j.o1
  · rw [World.cell?_setCell_other (h:=by simp)];exact cell _ _ _ (by omega) j.o2
  · rw [World.frozen?_setCell,fro _ _ (by omega)];exact j.of_ l
  · rw [World.cell?_setCell_other (h:=by simp)];exact cell _ _ _ (by omega) j.r0
  · rw [World.cell?_setCell_other (h:=by simp)];exact cell _ _ _ (by omega) j.r1
  · rw [World.cell?_setCell_other (h:=by simp)];exact cell _ _ _ (by omega) j.r2
  · rw [World.cell?_setCell_other (h:=by simp)];exact cell _ _ _ (by omega) j.r3
  · rw [World.frozen?_setCell,fro _ _ (by omega)];exact j.rf l
  · have h1:=j.nums.keep (B:=fun b=>W.heap.size+3≤b∧b<w3.heap.size∧x.ownBlock≠some b) (.grownRow g4 (fun b hb' hB=>hB.2.2 hb')) j.nb
    exact h1.keep (B:=fun b=>W.heap.size+3≤b∧b<w3.heap.size∧x.ownBlock≠some b) (.set (fun hB=>by have h2:W.heap.size+3≤W.heap.size+1+1:=hB.1;omega) _) j.nb
  · intro a ha
    obtain ⟨b1,b2,b3⟩:=j.nb a ha
    refine ⟨b1,by rw [hsz];omega,fun e=>?_⟩
    have e':gg=a.block:=by injection e
    rcases hg with hg | hg
    · exact b3 (by rw [hg,e'])
    · omega
end
theorem cell_new_at' (X:World) (cs:Array Value) (e b j:Nat) (hb:b=X.heap.size):(X.alloc (.cells cs e)).cell? ⟨b,j,none⟩=cs[j]?:=by
  subst hb
  exact World.cell?_alloc_new _ cs e j
theorem frozen_new_at' (X:World) (cs:Array Value) (e b j:Nat) (hb:b=X.heap.size):(X.alloc (.cells cs e)).frozen? ⟨b,j,none⟩=false:=by
  subst hb
  simp
def W3 (W:World) (g0 g1 g2 g3:Value) (k d:Int) (T:Nat):World:=((W.alloc (.cells #[g0,g1,g2,g3] T)).alloc (.cells #[.int .i64 0,.int .i64 0,.slice none 0 0,.slice none 0 0] T)).alloc (.cells #[.int .i64 k,.int .i64 d,.slice none 0 0,.slice none 0 0] T)
theorem W3_grown (W:World) (g0 g1 g2 g3:Value) (k d:Int) (T:Nat):W.grownBy (W3 W g0 g1 g2 g3 k d T) none:=gt_alloc_r (gt_alloc_r (World.grownBy_alloc W _ none) _) _
theorem W3_size (W:World) (g0 g1 g2 g3:Value) (k d:Int) (T:Nat):(W3 W g0 g1 g2 g3 k d T).heap.size=W.heap.size+3:=by simp [W3]
structure Pre (W w2:World) (g0 g1 g2 g3:Value) (k d:Int):Prop where
  g:W.grownBy w2 none
  big:W.heap.size+3≤w2.heap.size
  a0:w2.cell? ⟨W.heap.size,0,none⟩=some g0
  a1:w2.cell? ⟨W.heap.size,1,none⟩=some g1
  a2:w2.cell? ⟨W.heap.size,2,none⟩=some g2
  a3:w2.cell? ⟨W.heap.size,3,none⟩=some g3
  o0:w2.cell? ⟨W.heap.size+1+1,0,none⟩=some (.int .i64 k)
  o1:w2.cell? ⟨W.heap.size+1+1,1,none⟩=some (.int .i64 d)
  o2:w2.cell? ⟨W.heap.size+1+1,2,none⟩=some (.slice none 0 0)
  o3:w2.cell? ⟨W.heap.size+1+1,3,none⟩=some (.slice none 0 0)
  of_:∀ j,w2.frozen? ⟨W.heap.size+1+1,j,none⟩=false
  r0:w2.cell? ⟨W.heap.size+1,0,none⟩=some (.int .i64 0)
  r1:w2.cell? ⟨W.heap.size+1,1,none⟩=some (.int .i64 0)
  r2:w2.cell? ⟨W.heap.size+1,2,none⟩=some (.slice none 0 0)
  r3:w2.cell? ⟨W.heap.size+1,3,none⟩=some (.slice none 0 0)
  rf:∀ j,w2.frozen? ⟨W.heap.size+1,j,none⟩=false
theorem Pre.of (W w2:World) (g0 g1 g2 g3:Value) (k d:Int) (T:Nat) (g:(W3 W g0 g1 g2 g3 k d T).grownBy w2 none):Pre W w2 g0 g1 g2 g3 k d:=by
  have hs:=W3_size W g0 g1 g2 g3 k d T
  have ga:=gt_trans (gt_alloc_r (World.grownBy_alloc (W.alloc (.cells #[g0,g1,g2,g3] T)) (.cells #[.int .i64 0,.int .i64 0,.slice none 0 0,.slice none 0 0] T) none) (.cells #[.int .i64 k,.int .i64 d,.slice none 0 0,.slice none 0 0] T)) g (.inl rfl)
  have gr:=gt_trans (World.grownBy_alloc ((W.alloc (.cells #[g0,g1,g2,g3] T)).alloc (.cells #[.int .i64 0,.int .i64 0,.slice none 0 0,.slice none 0 0] T)) (.cells #[.int .i64 k,.int .i64 d,.slice none 0 0,.slice none 0 0] T) none) g (.inl rfl)
  have ca:∀ j v,#[g0,g1,g2,g3][j]?=some v→w2.cell? ⟨W.heap.size,j,none⟩=some v:=fun j v hv=>ga.cell ((cell_new_at' W #[g0,g1,g2,g3] T W.heap.size j rfl).trans hv) (by simp)
  have cr:∀ j v,#[Value.int .i64 0,.int .i64 0,.slice none 0 0,.slice none 0 0][j]?=some v→w2.cell? ⟨W.heap.size+1,j,none⟩=some v:=fun j v hv=>gr.cell ((cell_new_at' (W.alloc (.cells #[g0,g1,g2,g3] T)) _ T (W.heap.size+1) j (by simp)).trans hv) (by simp)
  have co:∀ j v,#[Value.int .i64 k,.int .i64 d,.slice none 0 0,.slice none 0 0][j]?=some v→w2.cell? ⟨W.heap.size+1+1,j,none⟩=some v:=fun j v hv=>g.cell ((cell_new_at' ((W.alloc (.cells #[g0,g1,g2,g3] T)).alloc (.cells #[.int .i64 0,.int .i64 0,.slice none 0 0,.slice none 0 0] T)) _ T (W.heap.size+1+1) j (by simp)).trans hv) (by simp)
  refine ⟨gt_trans (W3_grown ..) g (.inl rfl),by have:=g.size;omega,ca 0 _ rfl,ca 1 _ rfl,ca 2 _ rfl,ca 3 _ rfl,co 0 _ rfl,co 1 _ rfl,co 2 _ rfl,co 3 _ rfl,fun j=>?_,cr 0 _ rfl,cr 1 _ rfl,cr 2 _ rfl,cr 3 _ rfl,fun j=>?_⟩
  · rw [World.frozen?_of_block (g.block (W.heap.size+1+1) (by omega) (by simp))]
    exact frozen_new_at' _ _ _ _ j (by simp)
  · rw [World.frozen?_of_block (gr.block (W.heap.size+1) (by simp) (by simp))]
    exact frozen_new_at' _ _ _ _ j (by simp)
theorem Pre.kept {W w w':World} {g0 g1 g2 g3:Value} {k d:Int} (i:Pre W w g0 g1 g2 g3 k d) (g:w.grownBy w' none):Pre W w' g0 g1 g2 g3 k d:=by
  have hb:=i.big
  have hf:∀ b j,b<w.heap.size→w'.frozen? ⟨b,j,none⟩=w.frozen? ⟨b,j,none⟩:=fun b j hlt=>World.frozen?_of_block (g.block b hlt (by simp))
  exact ⟨gt_trans i.g g (.inl rfl),Nat.le_trans i.big g.size,g.cell i.a0 (by simp),g.cell i.a1 (by simp),g.cell i.a2 (by simp),g.cell i.a3 (by simp),g.cell i.o0 (by simp),g.cell i.o1 (by simp),g.cell i.o2 (by simp),g.cell i.o3 (by simp),fun j=>by rw [hf _ _ (by omega)];exact i.of_ j,
    g.cell i.r0 (by simp),g.cell i.r1 (by simp),g.cell i.r2 (by simp),g.cell i.r3 (by simp),fun j=>by rw [hf _ _ (by omega)];exact i.rf j⟩
theorem Pre.start {W w2:World} {g0 g1 g2 g3:Value} {k d:Int} (i:Pre W w2 g0 g1 g2 g3 k d) (h:Nat) {p:Option Addr} {n c:Nat} {f:Nat→Nat} (hf:FVal w2 p n f) (n1:n≤c) (n2:c≤maxLen) (n3:p=none→c=0) (nb:∀ a,p=some a→W.heap.size+3≤a.block∧a.block<w2.heap.size) :
    OutInv W (w2.setCell ⟨W.heap.size+1+1,2,none⟩ (.slice p n c)) h k d p n c f (.slice none 0 0) [] []:=by
  have hsz:(w2.setCell ⟨W.heap.size+1+1,2,none⟩ (.slice p n c)).heap.size=w2.heap.size:=by simp [World.setCell]
  have hb:=i.big
  refine ⟨gt_set_r i.g _ _ (by show W.heap.size≤W.heap.size+1+1;omega),by rw [hsz];omega,?_,?_,World.cell?_setCell_same (v:=.slice p n c) (h:=i.o2),?_,fun l=>?_,?_,?_,?_,?_,fun l=>?_,?_,n1,n2,n3,fun a ha=>⟨(nb a ha).1,by rw [hsz];exact (nb a ha).2,by simp [Value.ownBlock]⟩,KRow.nil _ _ _⟩
  · rw [World.cell?_setCell_other (h:=by simp)];exact i.o0
  · rw [World.cell?_setCell_other (h:=by simp)];exact i.o1
  · rw [World.cell?_setCell_other (h:=by simp)];exact i.o3
  · rw [World.frozen?_setCell];exact i.of_ l
  · rw [World.cell?_setCell_other (h:=by simp)];exact i.r0
  · rw [World.cell?_setCell_other (h:=by simp)];exact i.r1
  · rw [World.cell?_setCell_other (h:=by simp)];exact i.r2
  · rw [World.cell?_setCell_other (h:=by simp)];exact i.r3
  · rw [World.frozen?_setCell];exact i.rf l
  · exact hf.keep (B:=fun b=>W.heap.size+3≤b) (.set (fun hB=>by have h2:W.heap.size+3≤W.heap.size+1+1:=hB;omega) _) (fun a ha=>(nb a ha).1)
theorem OutInv.kd {W wr:World} {h:Nat} {k d:Int} {p:Option Addr} {n c:Nat} {f:Nat→Nat} {x:Value} {ts:List Raw} {cs:List Value} (i:OutInv W wr h k d p n c f x ts cs):KD (fun b=>W.heap.size+3≤b∧b<wr.heap.size) (h+1) wr (.agg #[.int .i64 k,.int .i64 d,.slice p n c,x]) (.mk k d n f ts) :=
  i.kr.kd i.nums i.n1 i.n2 i.n3 (fun a ha=>⟨(i.nb a ha).1,(i.nb a ha).2.1⟩) (fun _ h1 h2=>⟨h1,h2⟩)
theorem OutInv.end_ {W wr:World} {h:Nat} {k d:Int} {p:Option Addr} {n c:Nat} {f:Nat→Nat} {x:Value} {ts:List Raw} {cs:List Value} (i:OutInv W wr h k d p n c f x ts cs) :
    KD (Fr W ((((wr.setCell ⟨W.heap.size+1,0,none⟩ (.int .i64 k)).setCell ⟨W.heap.size+1,1,none⟩ (.int .i64 d)).setCell ⟨W.heap.size+1,2,none⟩ (.slice p n c)).setCell ⟨W.heap.size+1,3,none⟩ x)) (h+1) ((((wr.setCell ⟨W.heap.size+1,0,none⟩ (.int .i64 k)).setCell ⟨W.heap.size+1,1,none⟩ (.int .i64 d)).setCell ⟨W.heap.size+1,2,none⟩ (.slice p n c)).setCell ⟨W.heap.size+1,3,none⟩ x) (.agg #[.int .i64 k,.int .i64 d,.slice p n c,x]) (.mk k d n f ts) ∧
    W.grownBy ((((wr.setCell ⟨W.heap.size+1,0,none⟩ (.int .i64 k)).setCell ⟨W.heap.size+1,1,none⟩ (.int .i64 d)).setCell ⟨W.heap.size+1,2,none⟩ (.slice p n c)).setCell ⟨W.heap.size+1,3,none⟩ x) none:=by
  have ks:∀ (w:World) (j:Nat) (y:Value),Kept (fun b=>W.heap.size+3≤b∧b<wr.heap.size) w (w.setCell ⟨W.heap.size+1,j,none⟩ y):=fun w j y=>.set (fun hB=>by have h2:W.heap.size+3≤W.heap.size+1:=hB.1;omega) y
  have gs:∀ (w:World) (j:Nat) (y:Value),W.grownBy w none→W.grownBy (w.setCell ⟨W.heap.size+1,j,none⟩ y) none:=fun w j y g=>gt_set_r g _ _ (Nat.le_succ _)
  refine ⟨((((i.kd.keep (ks _ _ _)).keep (ks _ _ _)).keep (ks _ _ _)).keep (ks _ _ _)).weak fun b hb=>⟨by have:=hb.1;omega,by simp [World.setCell];exact hb.2⟩,gs _ _ _ (gs _ _ _ (gs _ _ _ (gs _ _ _ i.g)))⟩
theorem one4 (a b:Int) (p q:Option Addr) (n c m c2:Nat):∀ u ∈ (#[.int .i64 a,.int .i64 b,.slice p n c,.slice q m c2]:Array Value).toList,u.oneCell'=true:=by
  intro u hu
  simp at hu
  rcases hu with rfl | rfl | rfl | rfl <;> rfl
end
section
open Go.RowKit
section
variable {e size base:Nat} {w0 W:World} {v0 v:Value} {n:Nat} {xs:List Value}
variable {P:Program} {ops:Array Oper} {o:Oper} {a:Act} {K:Act→World→Prop} {Q:Exit→Act→World→Prop} {E:Prop}
theorem app_cells2_step (hgd:o.guard=none) (s x:Operand) (t:TypeId) (ho:o.op=.call { callee:=.builtin .append,args:=#[s,x],argTypes:=#[t,t] })
    (ht:P.underlying t=some (.slice e)) (z:Value) (bytes:Nat) (hinfo:(P.info? e).map (fun i=>(i.zero,i.size,i.bytes))=some (some z,size,bytes)) (hzs:z.cells.size=size) (hsz:0<size)
    (hs:a.eval s=v) {k m c:Nat} (hx:a.eval x=.slice (some ⟨k,0,none⟩) m c) (hk:k=W.heap.size) (cs:Array Value) (hown:(W.alloc (.cells cs e)).ownsRow base e size v n xs) (hcl:cs.size=m*size) (h1:∀ u ∈ cs.toList,u.oneCell'=true)
    (hm:0<m) (hbase:base≤(W.alloc (.cells cs e)).heap.size) (hl:(n+m+512)*bytes≤220000000000000) (hl2:n+m≤140737488355328)
    (h:∀ g cap w',w'.ownsRow base e size (.slice (some ⟨g,0,none⟩) (n+m) cap) (n+m) (xs++cs.toList)→(W.alloc (.cells cs e)).grownBy w' v.ownBlock→(v.ownBlock=some g∨g=(W.alloc (.cells cs e)).heap.size)→K (a.put o.dst (.slice (some ⟨g,0,none⟩) (n+m) cap)) w') :
    if Region.wanted o (yielded ops a.tmps)=true then Oper.wp P o a (W.alloc (.cells cs e)) K Q else E:=by
  have hw:Region.wanted o (yielded ops a.tmps)=true:=by simp [Region.wanted,hgd]
  rw [if_pos hw]
  subst hk
  obtain ⟨i0,hi,hzz⟩:=Option.map_eq_some_iff.1 hinfo
  simp only [Prod.mk.injEq] at hzz
  obtain ⟨hz0,hz1,hz2⟩:=hzz
  obtain ⟨v',w',hr,r1,r2,_,r4⟩:=run_own_big (P:=P) (W.alloc (.cells cs e)) base t o.type e i0 z size bytes ht hi hz0 hz1 hz2 hzs hsz v n xs hown ⟨W.heap.size,0,none⟩ m c cs.toList (by simpa using hcl)
    (fun j u hj=>by
      by_cases h0:j=0
      · subst h0;simp [Addr.add];simpa using hj
      · simp [Addr.add,h0];simpa using hj) h1 (by simp only [maxLen];omega) hl hbase
  unfold Oper.wp execOp
  simp only [ho,resolve,invoke,builtin,Sem.run_bind,Sem.run_pure,Result.andThen_ok,List.map_toArray,List.map_cons,List.map_nil,hs,hx,hr]
  rcases r1.2 with ⟨_,h0⟩ | ⟨g,cap,cur,rfl,hrest⟩
  · omega
  · have hob:(Value.slice (some ⟨g,0,none⟩) (n+m) cap).ownBlock=some g:=rfl
    rw [hob] at r4
    refine h g cap w' r1 r2 ?_
    rcases r4 with hat | hat
    · exact .inl hat.symm
    · injection hat with hat;exact .inr hat
theorem AppV.set (h:AppV e size base w0 v0 W v n xs) {q:Addr} (hq:w0.heap.size≤q.block) (hv:v.ownBlock≠some q.block) (y:Value):AppV e size base w0 v0 (W.setCell q y) v n xs:=by
  refine ⟨h.own.kept (grown_set W q y) ?_,gt_set_r h.grown _ _ hq,h.at_⟩
  cases hx:v.ownBlock with
  | none=>exact .inl rfl
  | some b=>exact .inr fun e=>hv (by rw [hx,e])
end
end
end Go.Proofs.YtlpaecafpbbbkaaGreatDoor
