/- A row of numbers of the package, of any type of coordinates. A line of the package, of another type of coordinates. Rows of elements of two cells (lines, polygons, geometries) that hold rows of their own, as trees of plain data. -/
import Derived.Test.YtlpaecafpbbbkaaGreatDoorBYT6
import Derived.Test.YtlpaecafpbbbkaaGreatDoorBYT7
set_option linter.unusedVariables false
set_option linter.unusedSimpArgs false
set_option maxRecDepth 100000
set_option maxHeartbeats 24000000
namespace Go.Proofs.YtlpaecafpbbbkaaGreatDoor
section
open Go.RowKit
theorem fF_same (r:Nat) (hr:r<4) (f:Nat→Nat) (i:Nat):fF r r f i=f i:=by
  have hw:=widN_le r hr
  have hm:=Nat.mod_lt i (show widN r > 0 by omega)
  have hd:widN r*(i / widN r)+i % widN r=i:=Nat.div_add_mod i (widN r)
  have h:=fF_div r r f (i / widN r) (i % widN r) hm
  rw [Nat.mul_comm (i / widN r),hd] at h
  rw [h]
  generalize hq:i / widN r=q at hd
  generalize ho:i % widN r=o at hd hm
  have e:∀ k,k=o→f (q*widN r+k)=f i:=fun k hk=>by rw [hk,Nat.mul_comm,hd]
  rcases (by omega:r=0∨r=1∨r=2∨r=3) with rfl | rfl | rfl | rfl
  · have h2:o=0∨o=1:=by have:widN 0=2:=rfl;omega
    rcases h2 with rfl | rfl
    · exact e 0 rfl
    · exact e 1 rfl
  · have h2:o=0∨o=1∨o=2:=by have:widN 1=3:=rfl;omega
    rcases h2 with rfl | rfl | rfl
    · exact e 0 rfl
    · exact e 1 rfl
    · exact e 2 rfl
  · have h2:o=0∨o=1∨o=2:=by have:widN 2=3:=rfl;omega
    rcases h2 with rfl | rfl | rfl
    · exact e 0 rfl
    · exact e 1 rfl
    · exact e 2 rfl
  · have h2:o=0∨o=1∨o=2∨o=3:=by have:widN 3=4:=rfl;omega
    rcases h2 with rfl | rfl | rfl | rfl
    · exact e 0 rfl
    · exact e 1 rfl
    · exact e 2 rfl
    · exact e 3 rfl
theorem FVal.same {W:World} {p:Option Addr} {n r:Nat} {f:Nat→Nat} (hr:r<4) (h:FVal W p n f):FVal W p n (fF r r f):=by
  have e:fF r r f=f:=funext fun i=>fF_same r hr f i
  rw [e]
  exact h
theorem SeqForce_same (r n:Nat) (p:Option Addr) (c:Nat) (W:World) :
    Calls Tryz.prog 180 #[.agg #[.int .u8 r,.slice p n c],.int .u8 r] W fun e w'=>e=.returned (.agg #[.int .u8 r,.slice p n c])∧W.grownBy w' none:=by
  go_enter Tryz.func180,Tryz.ntmps180
  go_wp2_with fail
  go_returns
  exact ⟨rfl,gt_alloc_r (World.grownBy_alloc _ _ _) _⟩
theorem SeqForce_empty (r D:Nat) (hne:r≠D) (p:Option Addr) (c:Nat) (W:World) :
    Calls Tryz.prog 180 #[.agg #[.int .u8 r,.slice p 0 c],.int .u8 D] W fun e w'=>e=.returned (.agg #[.int .u8 D,.slice none 0 0])∧W.grownBy w' none:=by
  have hrD:((r:Int)==(D:Int))=false:=by rw [beq_eq_false_iff_ne];omega
  clear hne
  go_enter Tryz.func180,Tryz.ntmps180
  go_wp2_with fail
  go_returns
  exact ⟨rfl,gt_alloc_r (World.grownBy_alloc _ _ _) _⟩
theorem SeqForce_any (r D n:Nat) (hr:r<4) (hD:D<4) (hn:n≤2000) (hm:n % widN r=0) (p:Option Addr) (f:Nat→Nat) (W:World) (hf:FVal W p n f) :
    Calls Tryz.prog 180 #[.agg #[.int .u8 r,.slice p n n],.int .u8 D] W fun e w'=>∃ p',e=.returned (.agg #[.int .u8 D,.slice p' (n / widN r*widN D) (n / widN r*widN D)])∧FVal w' p' (n / widN r*widN D) (fF r D f)∧(∀ a,p'=some a→p=some a∨W.heap.size≤a.block∧a.block<w'.heap.size)∧W.grownBy w' none:=by
  have hw:=widN_le r hr
  by_cases h:r=D
  · subst h
    have e:n / widN r*widN r=n:=Nat.div_mul_cancel (Nat.dvd_of_mod_eq_zero hm)
    rw [e]
    exact (SeqForce_same r n p n W).mono fun e w' ⟨he,hg⟩=>⟨p,he,(hf.mono hg).same hr,fun a ha=>.inl ha,hg⟩
  · by_cases h0:n=0
    · subst h0
      rw [Nat.zero_div,Nat.zero_mul]
      exact (SeqForce_empty r D h p 0 W).mono fun e w' ⟨he,hg⟩=>⟨none,he,⟨fun h=>absurd h (by omega),(fun a ha=>by cases ha),fun i=>fF_lt hf r D i⟩,(fun a ha=>by cases ha),hg⟩
    · obtain ⟨a,rfl⟩:=hf.some_ (by omega)
      have key:∀ e w',(∃ g,e=Ending.returned (.agg #[.int .u8 (D:Int),.slice (some ⟨g,0,none⟩) (n / widN r*widN D) (n / widN r*widN D)])∧FVal w' (some ⟨g,0,none⟩) (n / widN r*widN D) (fF r D f)∧W.heap.size≤g∧g<w'.heap.size∧W.grownBy w' none) →
          ∃ p',e=Ending.returned (.agg #[.int .u8 (D:Int),.slice p' (n / widN r*widN D) (n / widN r*widN D)])∧FVal w' p' (n / widN r*widN D) (fF r D f)∧(∀ a',p'=some a'→some a=some a'∨W.heap.size≤a'.block∧a'.block<w'.heap.size)∧W.grownBy w' none :=
        fun e w' ⟨g,h1,h2,h3,h4,h5⟩=>⟨_,h1,h2,fun a' ha=>by injection ha with ha;subst ha;exact .inr ⟨h3,h4⟩,h5⟩
      rcases (by omega:D=0∨D=1∨D=2∨D=3) with rfl | rfl | rfl | rfl
      · exact (SeqForce_0 r n _ _ a f hr h hn rfl (by omega) rfl W hf).mono key
      · exact (SeqForce_1 r n _ _ a f hr h hn rfl (by omega) rfl W hf).mono key
      · exact (SeqForce_2 r n _ _ a f hr h hn rfl (by omega) rfl W hf).mono key
      · exact (SeqForce_3 r n _ _ a f hr h hn rfl (by omega) rfl W hf).mono key
end
section
open Go.RowKit
theorem LineForce_any (r D n:Nat) (hr:r<4) (hD:D<4) (hn:n≤2000) (hm:n % widN r=0) (p:Option Addr) (f:Nat→Nat) (W:World) (hf:FVal W p n f) (hpb:∀ a,p=some a→a.block<W.heap.size) :
    Calls Tryz.prog 128 #[.agg #[.int .u8 r,.slice p n n],.int .u8 D] W fun e w'=>∃ p',e=.returned (.agg #[.int .u8 D,.slice p' (n / widN r*widN D) (n / widN r*widN D)])∧FVal w' p' (n / widN r*widN D) (fF r D f)∧(∀ a,p'=some a→p=some a∨W.heap.size≤a.block∧a.block<w'.heap.size)∧W.grownBy w' none:=by
  have HS:=Lib.hid (fun w (g:W.grownBy w none)=>SeqForce_any r D n hr hD hn hm p f w (hf.mono g))
  generalize n / widN r*widN D=N at HS ⊢
  generalize fF r D f=F at HS ⊢
  have HG:=Lib.hid (gt_alloc_r (World.grownBy_alloc W (.cells #[.int .u8 r,.slice p n n] 93) none) (.cells #[.int .u8 0,.slice none 0 0] 93))
  have HC:Hid (∀ w,((W.alloc (.cells #[.int .u8 r,.slice p n n] 93)).alloc (.cells #[.int .u8 0,.slice none 0 0] 93)).grownBy w none→w.cell? ⟨W.heap.size+1,0,none⟩=some (.int .u8 0)∧w.cell? ⟨W.heap.size+1,1,none⟩=some (.slice none 0 0)∧w.frozen? ⟨W.heap.size+1,0,none⟩=false∧w.frozen? ⟨W.heap.size+1,1,none⟩=false):=fun w g=>by
    have hb:=g.block (W.heap.size+1) (by simp) (by simp)
    refine ⟨g.cell (by simp) (by simp),g.cell (by simp) (by simp),?_,?_⟩ <;> (rw [World.frozen?_of_block hb];simp)
  clear hf
  go_enter Tryz.func128,Tryz.ntmps128
  go_wp2_with (first
    | (go_at_call 180;refine (HS.out _ HG.out).mono ?_;rintro e w2 ⟨p',rfl,hv,hat,hg2⟩;obtain ⟨x0,x1,f0,f1⟩:=HC.out _ hg2))
  refine bodyPost_ret (by simp [results,Tryz.results128,go_sem,x0,x1];try rfl) rfl ?_
  have hs:(W.heap.size+2)≤w2.heap.size:=by have:=hg2.size;simp at this;omega
  have hat2:∀ a,p'=some a→p=some a∨W.heap.size+2≤a.block∧a.block<w2.heap.size:=fun a ha=>by
    rcases hat a ha with h | ⟨h1,h2⟩
    · exact .inl h
    · exact .inr ⟨by simp at h1;omega,h2⟩
  have kq:∀ (w:World) (o:Nat) (y:Value),Kept (fun b=>b≠W.heap.size+1) w (w.setCell ⟨W.heap.size+1,o,none⟩ y):=fun w o y=>.set (fun h=>h rfl) y
  have hb:∀ a,p'=some a→a.block≠W.heap.size+1:=fun a ha=>by
    rcases hat2 a ha with h | ⟨h1,_⟩
    · have:=hpb a h;omega
    · omega
  refine ⟨p',rfl,(hv.keep (kq _ _ _) hb).keep (kq _ _ _) hb,fun a ha=>?_,gt_set_r (gt_set_r (gt_trans HG.out hg2 (.inl rfl)) _ _ (Nat.le_succ _)) _ _ (Nat.le_succ _)⟩
  rcases hat2 a ha with h | ⟨h1,h2⟩
  · exact .inl h
  · exact .inr ⟨by omega,by simp [World.setCell];exact h2⟩
end
section
open Go.RowKit
structure DK0 (D:(Nat→Prop)→World→Value→Raw→Prop):Prop where
  keep:∀ {B:Nat→Prop} {W W':World} {v:Value} {t:Raw},Kept B W W'→D B W v t→D B W' v t
  weak:∀ {B B':Nat→Prop} {W:World} {v:Value} {t:Raw},(∀ b,B b→B' b)→D B W v t→D B' W v t
structure DK (D:(Nat→Prop)→World→Value→Raw→Prop):Prop extends DK0 D where
  one:∀ {B:Nat→Prop} {W:World} {v:Value} {t:Raw},D B W v t→∃ c0 c1,v=.agg #[c0,c1]∧c0.oneCell'=true∧c1.oneCell'=true
theorem DK0.mono {D:(Nat→Prop)→World→Value→Raw→Prop} (K:DK0 D) {B:Nat→Prop} {W W':World} {v:Value} {t:Raw} (g:W.grownBy W' none) (h:D B W v t):D B W' v t:=K.keep (.grown g) h
def RowD (D:(Nat→Prop)→World→Value→Raw→Prop) (B:Nat→Prop) (W:World) (p:Option Addr) (ts:List Raw):Prop :=
  (0<ts.length→∃ a,p=some a)∧∀ a,p=some a→B a.block∧∀ i t,ts[i]?=some t→∃ c0 c1,W.cell? (a.add (i*2))=some c0∧W.cell? ⟨(a.add (i*2)).block,(a.add (i*2)).off+1,none⟩=some c1∧D B W (.agg #[c0,c1]) t
section
variable {D:(Nat→Prop)→World→Value→Raw→Prop}
theorem RowD.keep (K:DK D) {B:Nat→Prop} {W W':World} (g:Kept B W W') {p:Option Addr} {ts:List Raw} (h:RowD D B W p ts):RowD D B W' p ts :=
  ⟨h.1,fun a ha=>⟨(h.2 a ha).1,fun i t hi=>by
    obtain ⟨hb,h2⟩:=h.2 a ha
    obtain ⟨c0,c1,h0,h1,hd⟩:=h2 i t hi
    exact ⟨c0,c1,g _ _ (by rw [add_block];exact hb) h0,g _ _ (by show B (a.add (i*2)).block;rw [add_block];exact hb) h1,K.keep g hd⟩⟩⟩
theorem RowD.mono (K:DK D) {B:Nat→Prop} {W W':World} (g:W.grownBy W' none) {p:Option Addr} {ts:List Raw} (h:RowD D B W p ts):RowD D B W' p ts:=h.keep K (.grown g)
theorem RowD.weak (K:DK D) {B B':Nat→Prop} {W:World} (hl:∀ b,B b→B' b) {p:Option Addr} {ts:List Raw} (h:RowD D B W p ts):RowD D B' W p ts :=
  ⟨h.1,fun a ha=>⟨hl _ (h.2 a ha).1,fun i t hi=>by
    obtain ⟨c0,c1,h0,h1,hd⟩:=(h.2 a ha).2 i t hi
    exact ⟨c0,c1,h0,h1,K.weak hl hd⟩⟩⟩
theorem RowD.cells (K:DK D) {B:Nat→Prop} {W:World} {p:Option Addr} : ∀ {ts:List Raw},RowD D B W p ts→∃ cs:List Value,cs.length=ts.length*2∧(∀ u ∈ cs,u.oneCell'=true) ∧
    (∀ a,p=some a→∀ j u,cs[j]?=some u→W.cell? (a.add j)=some u)∧∀ i t,ts[i]?=some t→∃ c0 c1,cs[i*2]?=some c0∧cs[i*2+1]?=some c1∧D B W (.agg #[c0,c1]) t:=by
  intro ts h
  by_cases h0:ts.length=0
  · obtain rfl:=List.eq_nil_of_length_eq_zero h0
    exact ⟨[],rfl,(fun u hu=>by simp at hu),(fun a _ j u hu=>by simp at hu),(fun i t hi=>by simp at hi)⟩
  obtain ⟨a,rfl⟩:=h.1 (by omega)
  obtain ⟨hb,h2⟩:=h.2 a rfl
  have key:∀ n,n≤ts.length→∃ cs:List Value,cs.length=n*2∧(∀ u ∈ cs,u.oneCell'=true)∧(∀ j u,cs[j]?=some u→W.cell? (a.add j)=some u)∧∀ i t,i<n→ts[i]?=some t→∃ c0 c1,cs[i*2]?=some c0∧cs[i*2+1]?=some c1∧D B W (.agg #[c0,c1]) t:=by
    intro n
    induction n with
    | zero=>intro _;exact ⟨[],rfl,(fun u hu=>by simp at hu),(fun j u hu=>by simp at hu),(fun i t hi=>by omega)⟩
    | succ n ih =>
      intro hn
      obtain ⟨cs,hl,hc1,hc2,hc3⟩:=ih (by omega)
      obtain ⟨c0,c1,q0,q1,hd⟩:=h2 n (ts[n]'(by omega)) (List.getElem?_eq_getElem (by omega))
      obtain ⟨d0,d1,e,o0,o1⟩:=K.one hd
      simp only [Value.agg.injEq,Array.mk.injEq,List.cons.injEq,and_true] at e
      obtain ⟨rfl,rfl⟩:=e
      refine ⟨cs++[c0,c1],by simp [hl];omega,?_,?_,?_⟩
      · intro u hu
        rcases List.mem_append.1 hu with hu | hu
        · exact hc1 u hu
        · simp at hu;rcases hu with rfl | rfl
          · exact o0
          · exact o1
      · intro j u hj
        by_cases hjn:j<n*2
        · rw [List.getElem?_append_left (by omega)] at hj
          exact hc2 j u hj
        · rw [List.getElem?_append_right (by omega),hl] at hj
          rcases (by have:=(List.getElem?_eq_some_iff.1 hj).1;simp at this;omega:j=n*2∨j=n*2+1) with rfl | rfl
          · simp at hj;subst hj;exact q0
          · have:n*2+1 - n*2=1:=by omega
            rw [this] at hj
            simp at hj;subst hj
            have e1:a.add (n*2+1)=⟨(a.add (n*2)).block,(a.add (n*2)).off+1,none⟩:=by
              rw [add_add _ _ (by omega),add_block]
              by_cases hz:n*2=0
              · rw [hz];simp [Addr.add]
              · rw [add_add _ _ hz];simp;omega
            rw [e1];exact q1
      · intro i t hi ht
        by_cases hin:i<n
        · obtain ⟨x0,x1,y0,y1,yd⟩:=hc3 i t hin ht
          exact ⟨x0,x1,by rw [List.getElem?_append_left (by omega)];exact y0,by rw [List.getElem?_append_left (by omega)];exact y1,yd⟩
        · obtain rfl:i=n:=by omega
          have ht':ts[i]'(by omega)=t:=by rw [List.getElem?_eq_getElem (by omega)] at ht;injection ht
          rw [ht'] at hd
          refine ⟨c0,c1,by rw [List.getElem?_append_right (by omega)];simp [hl],by rw [List.getElem?_append_right (by omega),hl];simp,hd⟩
  obtain ⟨cs,hl,hc1,hc2,hc3⟩:=key ts.length (Nat.le_refl _)
  refine ⟨cs,hl,hc1,fun a' ha j u hj=>?_,fun i t hi=>hc3 i t (List.getElem?_eq_some_iff.1 hi).1 hi⟩
  injection ha with ha
  subst ha
  exact hc2 j u hj
def RowS (D:(Nat→Prop)→World→Value→Raw→Prop) (e:TypeId) (base:Nat) (B:Nat→Prop) (W:World) (x:Value) (n:Nat) (s:Nat→Option Raw) (cs:List Value):Prop :=
  W.ownsRow base e 2 x n cs∧∀ i t,s i=some t→∃ c0 c1,cs[i*2]?=some c0∧cs[i*2+1]?=some c1∧D (fun b=>(B b∨base≤b∧b<W.heap.size)∧x.ownBlock≠some b) W (.agg #[c0,c1]) t
variable {e base:Nat} {B:Nat→Prop}
theorem RowS.nil (W:World):RowS D e base B W (.slice none 0 0) 0 (fun _=>none) []:=⟨World.ownsRow_nil _ _ _ _,fun i t h=>by simp at h⟩
theorem RowS.sel {W:World} {x:Value} {n:Nat} {s s':Nat→Option Raw} {cs:List Value} (k:RowS D e base B W x n s cs) (h:∀ i t,s' i=some t→s i=some t):RowS D e base B W x n s' cs :=
  ⟨k.1,fun i t hi=>k.2 i t (h i t hi)⟩
theorem RowS.kept (K:DK D) {W W':World} {x:Value} {n:Nat} {s:Nat→Option Raw} {cs:List Value} (k:RowS D e base B W x n s cs) (g:W.grownBy W' none):RowS D e base B W' x n s cs :=
  ⟨k.1.kept g (by cases x.ownBlock <;> simp),fun i t hi=>by
    obtain ⟨c0,c1,h0,h1,hk⟩:=k.2 i t hi
    exact ⟨c0,c1,h0,h1,K.weak (fun b hb=>⟨hb.1.imp id fun h=>⟨h.1,Nat.lt_of_lt_of_le h.2 g.size⟩,hb.2⟩) (K.keep (.grown g) hk)⟩⟩
theorem RowS.set (K:DK D) {W:World} {x:Value} {n:Nat} {s:Nat→Option Raw} {cs:List Value} (k:RowS D e base B W x n s cs) {q:Addr} (hq:q.block<base) (hB:¬ B q.block) (y:Value):RowS D e base B (W.setCell q y) x n s cs:=by
  have hlt:=k.1.lt
  refine ⟨k.1.kept (grown_set W q y) ?_,fun i t hi=>?_⟩
  · cases hx:x.ownBlock with
    | none=>exact .inl rfl
    | some b=>exact .inr fun e=>by injection e with e;have:=(hlt b hx).1;omega
  · obtain ⟨c0,c1,h0,h1,hk⟩:=k.2 i t hi
    refine ⟨c0,c1,h0,h1,?_⟩
    have:(W.setCell q y).heap.size=W.heap.size:=by simp [World.setCell]
    rw [this]
    exact K.keep (.set (fun hb=>by rcases hb.1 with h | h;exact hB h;omega) y) hk
theorem RowS.put (K:DK D) {W:World} {g n cap:Nat} {s:Nat→Option Raw} {cs:List Value} (k:RowS D e base B W (.slice (some ⟨g,0,none⟩) n cap) n s cs) (i:Nat) (hi:i<n) {c0 c1:Value} {t:Raw}
    (hk:D (fun b=>(B b∨base≤b∧b<W.heap.size)∧g≠b) W (.agg #[c0,c1]) t) :
    RowS D e base B ((W.setCell ⟨g,i*2,none⟩ c0).setCell ⟨g,i*2+1,none⟩ c1) (.slice (some ⟨g,0,none⟩) n cap) n (fun j=>if j=i then some t else s j) ((cs.set (i*2) c0).set (i*2+1) c1):=by
  have hcl:cs.length=n*2:=k.1.1
  have hsz:((W.setCell ⟨g,i*2,none⟩ c0).setCell ⟨g,i*2+1,none⟩ c1).heap.size=W.heap.size:=by simp [World.setCell]
  have hk2:∀ {u:Raw} {d0 d1:Value},D (fun b=>(B b∨base≤b∧b<W.heap.size)∧g≠b) W (.agg #[d0,d1]) u→D (fun b=>(B b∨base≤b∧b<W.heap.size)∧g≠b) ((W.setCell ⟨g,i*2,none⟩ c0).setCell ⟨g,i*2+1,none⟩ c1) (.agg #[d0,d1]) u:=fun h =>
    K.keep (.set (q:=⟨g,i*2+1,none⟩) (fun hB=>hB.2 rfl) c1) (K.keep (.set (q:=⟨g,i*2,none⟩) (fun hB=>hB.2 rfl) c0) h)
  have hob:∀ b,(Value.slice (some ⟨g,0,none⟩) n cap).ownBlock≠some b↔g≠b:=fun b=>by
    have:(Value.slice (some ⟨g,0,none⟩) n cap).ownBlock=some g:=rfl
    rw [this];simp
  refine ⟨((k.1.stored (i*2) c0).1.stored (i*2+1) c1).1,fun j t' hj=>?_⟩
  rw [hsz]
  simp only [hob]
  have hj:(if j=i then some t else s j)=some t':=hj
  by_cases hji:j=i
  · subst hji
    rw [if_pos rfl] at hj
    injection hj with hj
    subst hj
    refine ⟨c0,c1,?_,?_,hk2 hk⟩
    · rw [List.getElem?_set_ne (by omega)];exact List.getElem?_set_self (by omega)
    · exact List.getElem?_set_self (by rw [List.length_set];omega)
  · rw [if_neg hji] at hj
    obtain ⟨d0,d1,h0,h1,hd⟩:=k.2 j t' hj
    simp only [hob] at hd
    exact ⟨d0,d1,by rw [List.getElem?_set_ne (by omega),List.getElem?_set_ne (by omega)];exact h0,by rw [List.getElem?_set_ne (by omega),List.getElem?_set_ne (by omega)];exact h1,hk2 hd⟩
theorem RowS.snoc (K:DK D) {W W3 W4:World} {x:Value} {n:Nat} {s:Nat→Option Raw} {cs:List Value} (k:RowS D e base B W x n s cs) (hB:∀ b,B b→b<base) (hb:base≤W.heap.size) (g3:W.grownBy W3 none)
    {c0 c1:Value} {t:Raw} (hk:D (fun b=>(B b∨base≤b∧b<W3.heap.size)∧x.ownBlock≠some b) W3 (.agg #[c0,c1]) t) {g cap:Nat} (hown:W4.ownsRow base e 2 (.slice (some ⟨g,0,none⟩) (n+1) cap) (n+1) (cs++[c0,c1]))
    (g4:W3.grownBy W4 x.ownBlock) (hg:x.ownBlock=some g∨g=W3.heap.size):RowS D e base B W4 (.slice (some ⟨g,0,none⟩) (n+1) cap) (n+1) (fun i=>if i=n then some t else if i<n then s i else none) (cs++[c0,c1]):=by
  have hcl:cs.length=n*2:=k.1.1
  have s3:=g3.size
  have s4:=g4.size
  have hob:(Value.slice (some ⟨g,0,none⟩) (n+1) cap).ownBlock=some g:=rfl
  have key:∀ {u:Raw} {d0 d1:Value},D (fun b=>(B b∨base≤b∧b<W3.heap.size)∧x.ownBlock≠some b) W3 (.agg #[d0,d1]) u→D (fun b=>(B b∨base≤b∧b<W4.heap.size)∧(Value.slice (some ⟨g,0,none⟩) (n+1) cap).ownBlock≠some b) W4 (.agg #[d0,d1]) u:=fun h=>by
    refine K.weak (fun b hb'=>⟨hb'.1.imp id fun h=>⟨h.1,by have:=h.2;omega⟩,fun e=>?_⟩) (K.keep (.grownRow g4 (fun b hb' hB'=>hB'.2 hb')) h)
    rw [hob] at e
    injection e with e
    subst e
    rcases hg with hg | hg
    · exact hb'.2 hg
    · rcases hb'.1 with h | h
      · have:=hB _ h;omega
      · have:=h.2;omega
  refine ⟨hown,fun i t' hi=>?_⟩
  have hi:(if i=n then some t else if i<n then s i else none)=some t':=hi
  by_cases hin:i=n
  · subst hin
    rw [if_pos rfl] at hi
    injection hi with hi
    subst hi
    exact ⟨c0,c1,by rw [List.getElem?_append_right (by omega)];simp [hcl],by rw [List.getElem?_append_right (by omega),hcl];simp,key hk⟩
  · rw [if_neg hin] at hi
    by_cases hlt:i<n
    · rw [if_pos hlt] at hi
      obtain ⟨d0,d1,h0,h1,hd⟩:=(k.kept K g3).2 i t' hi
      exact ⟨d0,d1,by rw [List.getElem?_append_left (by omega)];exact h0,by rw [List.getElem?_append_left (by omega)];exact h1,key hd⟩
    · rw [if_neg hlt] at hi;cases hi
theorem RowS.row (K:DK D) {W:World} {x:Value} {ts:List Raw} {cs:List Value} {p:Option Addr} {c:Nat} (k:RowS D e base B W x ts.length (fun i=>ts[i]?) cs) (hx:x=.slice p ts.length c) {B':Nat→Prop} (hB:∀ b,B b→B' b) (hB2:∀ b,base≤b→b<W.heap.size→B' b):RowD D B' W p ts:=by
  subst hx
  have hcl:cs.length=ts.length*2:=k.1.1
  refine ⟨fun hn=>?_,fun a ha=>?_⟩
  · rcases k.1.2 with h | ⟨g,cap,cur,hv,_⟩
    · omega
    · injection hv with h1;exact ⟨_,h1⟩
  · rcases k.1.2 with h | ⟨g,cap,cur,hv,_⟩
    · have:=h.1;rw [ha] at this;cases this
    · injection hv with h1 h2 h3
      subst h3
      rw [h1] at ha
      injection ha with ha
      subst ha
      subst h1
      have hlt:=k.1.lt g rfl
      refine ⟨hB2 _ hlt.1 hlt.2,fun i t hi=>?_⟩
      obtain ⟨c0,c1,h0,h1,hd⟩:=k.2 i t hi
      have hin:=(List.getElem?_eq_some_iff.1 hi).1
      refine ⟨c0,c1,?_,?_,K.weak (fun b hb=>hb.1.elim (hB b) fun h=>hB2 b h.1 h.2) hd⟩
      · rw [addr0,k.1.cellAt _ (by omega)];exact h0
      · rw [addr0]
        have:=k.1.cellAt (i*2+1) (by omega)
        rw [this];exact h1
end
def DLine (B:Nat→Prop) (W:World) (v:Value) (t:Raw):Prop:=∃ r n f p,t=.mk 2 (r:Nat) n f []∧r<4∧n % widN r=0∧v=.agg #[.int .u8 r,.slice p n n]∧FVal W p n f∧∀ a,p=some a→B a.block
theorem DLine.dk:DK DLine where
  keep:=fun g ⟨r,n,f,p,e,hr,hm,ev,hf,hb⟩=>⟨r,n,f,p,e,hr,hm,ev,hf.keep g hb,hb⟩
  weak:=fun hl ⟨r,n,f,p,e,hr,hm,ev,hf,hb⟩=>⟨r,n,f,p,e,hr,hm,ev,hf,fun a ha=>hl _ (hb a ha)⟩
  one:=fun ⟨r,n,f,p,e,hr,hm,ev,hf,hb⟩=>⟨_,_,ev,rfl,rfl⟩
def DNode (k:Int) (D:(Nat→Prop)→World→Value→Raw→Prop) (B:Nat→Prop) (W:World) (v:Value) (t:Raw):Prop:=∃ r f kids p c,t=.mk k (r:Nat) 0 f kids∧r<4∧v=.agg #[.slice p kids.length c,.int .u8 r]∧kids.length≤c∧c≤maxLen∧RowD D B W p kids
theorem DNode.dk {k:Int} {D:(Nat→Prop)→World→Value→Raw→Prop} (K:DK D):DK (DNode k D) where
  keep:=fun g ⟨r,f,kids,p,c,e,hr,ev,h1,h2,h⟩=>⟨r,f,kids,p,c,e,hr,ev,h1,h2,h.keep K g⟩
  weak:=fun hl ⟨r,f,kids,p,c,e,hr,ev,h1,h2,h⟩=>⟨r,f,kids,p,c,e,hr,ev,h1,h2,h.weak K hl⟩
  one:=fun ⟨r,f,kids,p,c,e,hr,ev,h1,h2,h⟩=>⟨_,_,ev,rfl,rfl⟩
mutual
def okT:Raw→Prop
  | .mk _ _ n _ kids=>n≤2000∧kids.length≤2000∧okTs kids
def okTs:List Raw→Prop
  | []=>True
  | t::ts=>okT t∧okTs ts
end
theorem okTs_mem:∀ {ts:List Raw} {i:Nat} {t:Raw},okTs ts→ts[i]?=some t→okT t
  | [],_,_,_,h=>by simp at h
  | s::ts,0,t,h,hi=>by simp at hi;subst hi;exact h.1
  | s::ts,i+1,t,h,hi=>okTs_mem h.2 (by simpa using hi)
theorem dimsOf_take (ts:List Raw) (k:Nat) (t:Raw) (h:ts[k]?=some t):dimsOf (ts.take (k+1))=dimsOf (ts.take k) &&& dimR t:=by
  have key:∀ (l:List Raw) (t:Raw),dimsOf (l++[t])=dimsOf l &&& dimR t:=by
    intro l t
    induction l with
    | nil=>simp [dimsOf,Nat.and_comm]
    | cons s l ih=>simp only [List.cons_append,dimsOf,ih,Nat.and_assoc]
  obtain ⟨hlt,rfl⟩:=List.getElem?_eq_some_iff.1 h
  rw [List.take_succ_eq_append_getElem hlt,key]
theorem force_node (r' r:Nat) (k:Int) (f:Nat→Nat) (kids:List Raw):forceT r' (.mk k (r:Nat) 0 f kids)=.mk k (r':Nat) 0 (fF r r' f) (forceTs r' kids):=by
  unfold forceT
  rw [Nat.zero_div,Nat.zero_mul,Int.toNat_natCast]
theorem node_one (k:Int) (r:Nat) (f:Nat→Nat) (ks:List Raw):∃ f',nodeT k r f ks=.mk k ((if ks=[] then r else dimsOf ks:Nat):Nat) 0 f' (if ks=[] then [] else forceTs (dimsOf ks) ks):=by
  unfold nodeT
  by_cases h:ks=[]
  · rw [if_pos h,if_pos h,if_pos h];exact ⟨f,rfl⟩
  · rw [if_neg h,if_neg h,if_neg h,force_node];exact ⟨_,rfl⟩
def FPost (D:(Nat→Prop)→World→Value→Raw→Prop) (B:Nat→Prop) (W:World) (t:Raw) (e:Ending) (w':World):Prop:=∃ v',e=.returned v'∧D (fun b=>B b∨Fr W w' b) w' v' t∧W.grownBy w' none
def FC (D:(Nat→Prop)→World→Value→Raw→Prop) (fE:Nat):Prop:=∀ (B:Nat→Prop) (W:World) (v:Value) (t:Raw) (r':Nat),D B W v t→okT t→r'<4→(∀ b,B b→b<W.heap.size)→Calls Tryz.prog fE #[v,.int .u8 r'] W (FPost D B W (forceT r' t))
def CC (D:(Nat→Prop)→World→Value→Raw→Prop) (fE:Nat):Prop:=∀ (B:Nat→Prop) (W:World) (v:Value) (t:Raw),D B W v t→Calls Tryz.prog fE #[v] W fun e w'=>e=.returned (.int .u8 (dimR t:Nat))∧W.grownBy w' none
end
end Go.Proofs.YtlpaecafpbbbkaaGreatDoor
