/- The reference's numbers of places, and its place in GeoJSON. The reference's place in GeoJSON: the same text as the package's. Rows of geometries that a call appends to. The reference's place in GeoJSON, whole; its rows of places. The reference's places of a row of numbers. -/
import Derived.Test.YtlpaecafpbbbkaaGreatDoorBYT1
import Derived.Test.YtlpaecafpbbbkaaGreatDoorBYT2
set_option linter.unusedVariables false
set_option linter.unusedSimpArgs false
set_option maxRecDepth 100000
set_option maxHeartbeats 24000000
namespace Go.Proofs.YtlpaecafpbbbkaaGreatDoor
section
open Go.RowKit
structure PRow (W:World) (p:Option Addr) (n:Nat) (X Y Z M:Nat→Nat):Prop where
  some_:0<n→∃ a,p=some a
  at_:∀ a,p=some a→∀ i,i<n→W.cell? (a.add (i*4))=some (.float .f64 (X i))∧W.cell? ⟨(a.add (i*4)).block,(a.add (i*4)).off+1,none⟩=some (.float .f64 (Y i)) ∧
    W.cell? ⟨(a.add (i*4)).block,(a.add (i*4)).off+2,none⟩=some (.float .f64 (Z i))∧W.cell? ⟨(a.add (i*4)).block,(a.add (i*4)).off+3,none⟩=some (.float .f64 (M i))
theorem PRow.mono {W W':World} {p:Option Addr} {n:Nat} {X Y Z M:Nat→Nat} (h:PRow W p n X Y Z M) (hg:W.grownBy W' none):PRow W' p n X Y Z M :=
  ⟨h.some_,fun a ha i hi=>by obtain ⟨h0,h1,h2,h3⟩:=h.at_ a ha i hi;exact ⟨hg.cell h0 (by simp),hg.cell h1 (by simp),hg.cell h2 (by simp),hg.cell h3 (by simp)⟩⟩
def nTo (r:Nat) (X Y Z M:Nat→Nat):Nat→List Value
  | 0=>[]
  | k+1=>nTo r X Y Z M k++[.float .f64 (X k),.float .f64 (Y k)]++(if r % 2=1 then [.float .f64 (Z k)] else [])++(if r / 2=1 then [.float .f64 (M k)] else [])
theorem infoF:(Tryz.prog.info? 26).map (fun i=>(i.zero,i.size,i.bytes))=some (some (.float .f64 0),1,8):=by kernel_rfl
theorem Nums_0 (p:Option Addr) (n cap:Nat) (X Y Z M:Nat→Nat) (hn:n≤100000) (W:World) (hp:PRow W p n X Y Z M) :
    Calls Tryz.prog 90 #[.slice p n cap,.int .i64 0] W fun e w'=>∃ v,e=.returned v∧AppV 26 1 W.heap.size W (.slice none 0 0) w' v (n*2) (nTo 0 X Y Z M n):=by
  have hsf:=run_store_flt Tryz.prog
  have HP:=Lib.hid hp
  have HN:Hid (∀ k,nTo 0 X Y Z M (k+1)=nTo 0 X Y Z M k++[.float .f64 (X k),.float .f64 (Y k)]++[]++[]):=fun k=>rfl
  clear hp
  go_enter Tryz.func90,Tryz.ntmps90
  go_wp2_with fail
  go_loopw [5,10] (fun x i wr=>∃ k:Nat,k≤n∧i=.int .i64 k∧AppV 26 1 W.heap.size W (.slice none 0 0) wr x (k*2) (nTo 0 X Y Z M k)) (fun _ i _=>n - (intOf i).toNat)
  case atStart=>exact ⟨0,by omega,rfl,by simpa [nTo] using AppV.nil W 26 1 W.heap.size⟩
  case round =>
    obtain ⟨k,hk,rfl,H0⟩:=hrel
    rename World=>wr
    by_cases hkn:k<n
    · obtain ⟨a,rfl⟩:=HP.out.some_ (by omega)
      obtain ⟨q0,q1,q2,q3⟩:=(HP.out.mono H0.grown0).at_ a rfl k hkn
      have H:=AppV.start (H0.own.alloc (.cells #[.float .f64 (X k),.float .f64 (Y k),.float .f64 (Z k),.float .f64 (M k)] 209))
      have hlt:=H0.own.lt
      have hnb:u5.ownBlock≠some wr.heap.size:=fun e=>by have:=hlt _ e;omega
      have HC:Hid (∀ W' v' n' l',AppV 26 1 W.heap.size (wr.alloc (.cells #[.float .f64 (X k),.float .f64 (Y k),.float .f64 (Z k),.float .f64 (M k)] 209)) u5 W' v' n' l'→W'.cell? ⟨wr.heap.size,2,none⟩=some (.float .f64 (Z k))∧W'.cell? ⟨wr.heap.size,3,none⟩=some (.float .f64 (M k))):=by
        intro W' v' n' l' h
        refine ⟨?_,?_⟩ <;> (rw [h.cell (by simp) hnb];simp)
      have hbase:W.heap.size≤(wr.alloc (.cells #[.float .f64 (X k),.float .f64 (Y k),.float .f64 (Z k),.float .f64 (M k)] 209)).heap.size:=by have:=H0.grown0.size;simp;omega
      have HF:Hid (∀ W' v' n' l',AppV 26 1 W.heap.size (wr.alloc (.cells #[.float .f64 (X k),.float .f64 (Y k),.float .f64 (Z k),.float .f64 (M k)] 209)) u5 W' v' n' l'→AppV 26 1 W.heap.size W (.slice none 0 0) W' v' n' l'):=fun W' v' n' l' h=>(H0.beside (World.grownBy_alloc wr _ none)).trans h
      clear hlt hnb H0
      go_wp2_with (first
        | (at_builtin;refine app_cells rfl _ _ _ rfl Tryz.underlying30 (.float .f64 0) 8 infoF rfl (by omega) H rfl rfl (by first | rfl | simp) _ (by first | rfl | simp) (by simp [Value.oneCell']) hbase (by omega) (by omega) ?_;intro v1 w1 H1;clear H;have H:=H1;clear H1;clear q2 q3;obtain ⟨q2,q3⟩:=HC.out _ _ _ _ H))
      refine ⟨⟨k+1,by omega,by go_num,?_⟩,by simp [intOf];omega⟩
      have H2:=HF.out _ _ _ _ H
      rw [HN.out k,show (k+1)*2=k*2+2 by omega]
      simpa [List.append_assoc,Nat.add_assoc] using H2
    · obtain rfl:k=n:=by omega
      go_wp2_with fail
      go_wp2_with fail
      go_ret
      exact ⟨_,rfl,H0⟩
theorem Nums_1 (p:Option Addr) (n cap:Nat) (X Y Z M:Nat→Nat) (hn:n≤100000) (W:World) (hp:PRow W p n X Y Z M) :
    Calls Tryz.prog 90 #[.slice p n cap,.int .i64 1] W fun e w'=>∃ v,e=.returned v∧AppV 26 1 W.heap.size W (.slice none 0 0) w' v (n*3) (nTo 1 X Y Z M n):=by
  have hsf:=run_store_flt Tryz.prog
  have HP:=Lib.hid hp
  have HN:Hid (∀ k,nTo 1 X Y Z M (k+1)=nTo 1 X Y Z M k++[.float .f64 (X k),.float .f64 (Y k)]++[.float .f64 (Z k)]++[]):=fun k=>rfl
  clear hp
  go_enter Tryz.func90,Tryz.ntmps90
  go_wp2_with fail
  go_loopw [5,10] (fun x i wr=>∃ k:Nat,k≤n∧i=.int .i64 k∧AppV 26 1 W.heap.size W (.slice none 0 0) wr x (k*3) (nTo 1 X Y Z M k)) (fun _ i _=>n - (intOf i).toNat)
  case atStart=>exact ⟨0,by omega,rfl,by simpa [nTo] using AppV.nil W 26 1 W.heap.size⟩
  case round =>
    obtain ⟨k,hk,rfl,H0⟩:=hrel
    rename World=>wr
    by_cases hkn:k<n
    · obtain ⟨a,rfl⟩:=HP.out.some_ (by omega)
      obtain ⟨q0,q1,q2,q3⟩:=(HP.out.mono H0.grown0).at_ a rfl k hkn
      have H:=AppV.start (H0.own.alloc (.cells #[.float .f64 (X k),.float .f64 (Y k),.float .f64 (Z k),.float .f64 (M k)] 209))
      have hlt:=H0.own.lt
      have hnb:u5.ownBlock≠some wr.heap.size:=fun e=>by have:=hlt _ e;omega
      have HC:Hid (∀ W' v' n' l',AppV 26 1 W.heap.size (wr.alloc (.cells #[.float .f64 (X k),.float .f64 (Y k),.float .f64 (Z k),.float .f64 (M k)] 209)) u5 W' v' n' l'→W'.cell? ⟨wr.heap.size,2,none⟩=some (.float .f64 (Z k))∧W'.cell? ⟨wr.heap.size,3,none⟩=some (.float .f64 (M k))):=by
        intro W' v' n' l' h
        refine ⟨?_,?_⟩ <;> (rw [h.cell (by simp) hnb];simp)
      have hbase:W.heap.size≤(wr.alloc (.cells #[.float .f64 (X k),.float .f64 (Y k),.float .f64 (Z k),.float .f64 (M k)] 209)).heap.size:=by have:=H0.grown0.size;simp;omega
      have HF:Hid (∀ W' v' n' l',AppV 26 1 W.heap.size (wr.alloc (.cells #[.float .f64 (X k),.float .f64 (Y k),.float .f64 (Z k),.float .f64 (M k)] 209)) u5 W' v' n' l'→AppV 26 1 W.heap.size W (.slice none 0 0) W' v' n' l'):=fun W' v' n' l' h=>(H0.beside (World.grownBy_alloc wr _ none)).trans h
      clear hlt hnb H0
      go_wp2_with (first
        | (at_builtin;refine app_cells rfl _ _ _ rfl Tryz.underlying30 (.float .f64 0) 8 infoF rfl (by omega) H rfl rfl (by first | rfl | simp) _ (by first | rfl | simp) (by simp [Value.oneCell']) hbase (by omega) (by omega) ?_;intro v1 w1 H1;clear H;have H:=H1;clear H1;clear q2 q3;obtain ⟨q2,q3⟩:=HC.out _ _ _ _ H))
      refine ⟨⟨k+1,by omega,by go_num,?_⟩,by simp [intOf];omega⟩
      have H2:=HF.out _ _ _ _ H
      rw [HN.out k,show (k+1)*3=k*3+3 by omega]
      simpa [List.append_assoc,Nat.add_assoc] using H2
    · obtain rfl:k=n:=by omega
      go_wp2_with fail
      go_wp2_with fail
      go_ret
      exact ⟨_,rfl,H0⟩
theorem Nums_2 (p:Option Addr) (n cap:Nat) (X Y Z M:Nat→Nat) (hn:n≤100000) (W:World) (hp:PRow W p n X Y Z M) :
    Calls Tryz.prog 90 #[.slice p n cap,.int .i64 2] W fun e w'=>∃ v,e=.returned v∧AppV 26 1 W.heap.size W (.slice none 0 0) w' v (n*3) (nTo 2 X Y Z M n):=by
  have hsf:=run_store_flt Tryz.prog
  have HP:=Lib.hid hp
  have HN:Hid (∀ k,nTo 2 X Y Z M (k+1)=nTo 2 X Y Z M k++[.float .f64 (X k),.float .f64 (Y k)]++[]++[.float .f64 (M k)]):=fun k=>rfl
  clear hp
  go_enter Tryz.func90,Tryz.ntmps90
  go_wp2_with fail
  go_loopw [5,10] (fun x i wr=>∃ k:Nat,k≤n∧i=.int .i64 k∧AppV 26 1 W.heap.size W (.slice none 0 0) wr x (k*3) (nTo 2 X Y Z M k)) (fun _ i _=>n - (intOf i).toNat)
  case atStart=>exact ⟨0,by omega,rfl,by simpa [nTo] using AppV.nil W 26 1 W.heap.size⟩
  case round =>
    obtain ⟨k,hk,rfl,H0⟩:=hrel
    rename World=>wr
    by_cases hkn:k<n
    · obtain ⟨a,rfl⟩:=HP.out.some_ (by omega)
      obtain ⟨q0,q1,q2,q3⟩:=(HP.out.mono H0.grown0).at_ a rfl k hkn
      have H:=AppV.start (H0.own.alloc (.cells #[.float .f64 (X k),.float .f64 (Y k),.float .f64 (Z k),.float .f64 (M k)] 209))
      have hlt:=H0.own.lt
      have hnb:u5.ownBlock≠some wr.heap.size:=fun e=>by have:=hlt _ e;omega
      have HC:Hid (∀ W' v' n' l',AppV 26 1 W.heap.size (wr.alloc (.cells #[.float .f64 (X k),.float .f64 (Y k),.float .f64 (Z k),.float .f64 (M k)] 209)) u5 W' v' n' l'→W'.cell? ⟨wr.heap.size,2,none⟩=some (.float .f64 (Z k))∧W'.cell? ⟨wr.heap.size,3,none⟩=some (.float .f64 (M k))):=by
        intro W' v' n' l' h
        refine ⟨?_,?_⟩ <;> (rw [h.cell (by simp) hnb];simp)
      have hbase:W.heap.size≤(wr.alloc (.cells #[.float .f64 (X k),.float .f64 (Y k),.float .f64 (Z k),.float .f64 (M k)] 209)).heap.size:=by have:=H0.grown0.size;simp;omega
      have HF:Hid (∀ W' v' n' l',AppV 26 1 W.heap.size (wr.alloc (.cells #[.float .f64 (X k),.float .f64 (Y k),.float .f64 (Z k),.float .f64 (M k)] 209)) u5 W' v' n' l'→AppV 26 1 W.heap.size W (.slice none 0 0) W' v' n' l'):=fun W' v' n' l' h=>(H0.beside (World.grownBy_alloc wr _ none)).trans h
      clear hlt hnb H0
      go_wp2_with (first
        | (at_builtin;refine app_cells rfl _ _ _ rfl Tryz.underlying30 (.float .f64 0) 8 infoF rfl (by omega) H rfl rfl (by first | rfl | simp) _ (by first | rfl | simp) (by simp [Value.oneCell']) hbase (by omega) (by omega) ?_;intro v1 w1 H1;clear H;have H:=H1;clear H1;clear q2 q3;obtain ⟨q2,q3⟩:=HC.out _ _ _ _ H))
      refine ⟨⟨k+1,by omega,by go_num,?_⟩,by simp [intOf];omega⟩
      have H2:=HF.out _ _ _ _ H
      rw [HN.out k,show (k+1)*3=k*3+3 by omega]
      simpa [List.append_assoc,Nat.add_assoc] using H2
    · obtain rfl:k=n:=by omega
      go_wp2_with fail
      go_wp2_with fail
      go_ret
      exact ⟨_,rfl,H0⟩
theorem Nums_3 (p:Option Addr) (n cap:Nat) (X Y Z M:Nat→Nat) (hn:n≤100000) (W:World) (hp:PRow W p n X Y Z M) :
    Calls Tryz.prog 90 #[.slice p n cap,.int .i64 3] W fun e w'=>∃ v,e=.returned v∧AppV 26 1 W.heap.size W (.slice none 0 0) w' v (n*4) (nTo 3 X Y Z M n):=by
  have hsf:=run_store_flt Tryz.prog
  have HP:=Lib.hid hp
  have HN:Hid (∀ k,nTo 3 X Y Z M (k+1)=nTo 3 X Y Z M k++[.float .f64 (X k),.float .f64 (Y k)]++[.float .f64 (Z k)]++[.float .f64 (M k)]):=fun k=>rfl
  clear hp
  go_enter Tryz.func90,Tryz.ntmps90
  go_wp2_with fail
  go_loopw [5,10] (fun x i wr=>∃ k:Nat,k≤n∧i=.int .i64 k∧AppV 26 1 W.heap.size W (.slice none 0 0) wr x (k*4) (nTo 3 X Y Z M k)) (fun _ i _=>n - (intOf i).toNat)
  case atStart=>exact ⟨0,by omega,rfl,by simpa [nTo] using AppV.nil W 26 1 W.heap.size⟩
  case round =>
    obtain ⟨k,hk,rfl,H0⟩:=hrel
    rename World=>wr
    by_cases hkn:k<n
    · obtain ⟨a,rfl⟩:=HP.out.some_ (by omega)
      obtain ⟨q0,q1,q2,q3⟩:=(HP.out.mono H0.grown0).at_ a rfl k hkn
      have H:=AppV.start (H0.own.alloc (.cells #[.float .f64 (X k),.float .f64 (Y k),.float .f64 (Z k),.float .f64 (M k)] 209))
      have hlt:=H0.own.lt
      have hnb:u5.ownBlock≠some wr.heap.size:=fun e=>by have:=hlt _ e;omega
      have HC:Hid (∀ W' v' n' l',AppV 26 1 W.heap.size (wr.alloc (.cells #[.float .f64 (X k),.float .f64 (Y k),.float .f64 (Z k),.float .f64 (M k)] 209)) u5 W' v' n' l'→W'.cell? ⟨wr.heap.size,2,none⟩=some (.float .f64 (Z k))∧W'.cell? ⟨wr.heap.size,3,none⟩=some (.float .f64 (M k))):=by
        intro W' v' n' l' h
        refine ⟨?_,?_⟩ <;> (rw [h.cell (by simp) hnb];simp)
      have hbase:W.heap.size≤(wr.alloc (.cells #[.float .f64 (X k),.float .f64 (Y k),.float .f64 (Z k),.float .f64 (M k)] 209)).heap.size:=by have:=H0.grown0.size;simp;omega
      have HF:Hid (∀ W' v' n' l',AppV 26 1 W.heap.size (wr.alloc (.cells #[.float .f64 (X k),.float .f64 (Y k),.float .f64 (Z k),.float .f64 (M k)] 209)) u5 W' v' n' l'→AppV 26 1 W.heap.size W (.slice none 0 0) W' v' n' l'):=fun W' v' n' l' h=>(H0.beside (World.grownBy_alloc wr _ none)).trans h
      clear hlt hnb H0
      go_wp2_with (first
        | (at_builtin;refine app_cells rfl _ _ _ rfl Tryz.underlying30 (.float .f64 0) 8 infoF rfl (by omega) H rfl rfl (by first | rfl | simp) _ (by first | rfl | simp) (by simp [Value.oneCell']) hbase (by omega) (by omega) ?_;intro v1 w1 H1;clear H;have H:=H1;clear H1;clear q2 q3;obtain ⟨q2,q3⟩:=HC.out _ _ _ _ H))
      refine ⟨⟨k+1,by omega,by go_num,?_⟩,by simp [intOf];omega⟩
      have H2:=HF.out _ _ _ _ H
      rw [HN.out k,show (k+1)*4=k*4+4 by omega]
      simpa [List.append_assoc,Nat.add_assoc] using H2
    · obtain rfl:k=n:=by omega
      go_wp2_with fail
      go_wp2_with fail
      go_ret
      exact ⟨_,rfl,H0⟩
end
section
open Go.RowKit
theorem own_at {w:World} {base n c:Nat} {e:TypeId} {p:Option Addr} {xs:List Value} (h:w.ownsRow base e 1 (.slice p n c) n xs):(0<n→∃ a,p=some a)∧∀ a,p=some a→∀ i v,xs[i]?=some v→w.cell? (a.add i)=some v:=by
  refine ⟨fun hn=>?_,fun a ha i v hv=>?_⟩
  · rcases h.2 with h' | ⟨g,cap,cur,hv,_⟩
    · omega
    · injection hv with h1;exact ⟨_,h1⟩
  · rcases h.2 with h' | ⟨g,cap,cur,hv',_⟩
    · have:=h'.1;rw [ha] at this;cases this
    · injection hv' with h1 h2 h3
      subst h3
      rw [h1] at ha h
      injection ha with ha
      subst ha
      exact h.cells rfl i v hv
theorem AppV.fval {e base:Nat} {w0 w:World} {v0:Value} {p:Option Addr} {n c:Nat} {f:Nat→Nat} (hf:∀ i,f i<18446744073709551616) {xs:List Value} (hx:∀ i,i<n→xs[i]?=some (.float .f64 (f i))) (h:AppV e 1 base w0 v0 w (.slice p n c) n xs):FVal w p n f:=by
  obtain ⟨h1,h2⟩:=own_at h.own
  exact ⟨h1,fun a ha i hi=>h2 a ha i _ (hx i hi),hf⟩
end
section
open Go.RowKit
def Fr (W W':World) (b:Nat):Prop:=W.heap.size≤b∧b<W'.heap.size
theorem grown_set (W:World) (q:Addr) (x:Value):W.grownBy (W.setCell q x) (some q.block) :=
  ⟨rfl,rfl,rfl,by simp [World.setCell],fun i _ hne=>Below.heap_setCell W q x i (fun e=>hne (by rw [e]))⟩
theorem own_form {w:World} {base size n:Nat} {e:TypeId} {x:Value} {xs:List Value} (h:w.ownsRow base e size x n xs):∃ p c,x=.slice p n c∧n≤c∧c≤maxLen∧(p=none→c=0)∧∀ a,p=some a→x.ownBlock=some a.block:=by
  rcases h.2 with ⟨rfl,rfl⟩ | ⟨g,cap,cur,rfl,_,_,h1,h2,_⟩
  · exact ⟨none,0,rfl,Nat.le_refl _,by decide,fun _=>rfl,fun a ha=>by cases ha⟩
  · exact ⟨_,cap,rfl,h1,h2,(fun h=>by cases h),fun a ha=>by injection ha with ha;subst ha;rfl⟩
def KRow (base h:Nat) (W:World) (x:Value) (ts:List Raw) (cs:List Value):Prop :=
  W.ownsRow base 33 4 x ts.length cs∧∀ i t,ts[i]?=some t→∃ c0 c1 c2 c3,cs[i*4]?=some c0∧cs[i*4+1]?=some c1∧cs[i*4+2]?=some c2∧cs[i*4+3]?=some c3 ∧
    KD (fun b=>base≤b∧b<W.heap.size∧x.ownBlock≠some b) h W (.agg #[c0,c1,c2,c3]) t
theorem KRow.nil (base h:Nat) (W:World):KRow base h W (.slice none 0 0) [] []:=⟨World.ownsRow_nil _ _ _ _,fun i t h=>by simp at h⟩
theorem KRow.kept {base h:Nat} {W W':World} {x:Value} {ts:List Raw} {cs:List Value} (k:KRow base h W x ts cs) (g:W.grownBy W' none):KRow base h W' x ts cs :=
  ⟨k.1.kept g (by cases x.ownBlock <;> simp),fun i t hi=>by
    obtain ⟨c0,c1,c2,c3,h0,h1,h2,h3,hk⟩:=k.2 i t hi
    exact ⟨c0,c1,c2,c3,h0,h1,h2,h3,(hk.mono g).weak fun b hb=>⟨hb.1,Nat.lt_of_lt_of_le hb.2.1 g.size,hb.2.2⟩⟩⟩
theorem KRow.set {base h:Nat} {W:World} {x:Value} {ts:List Raw} {cs:List Value} (k:KRow base h W x ts cs) {q:Addr} (hq:q.block<base) (y:Value):KRow base h (W.setCell q y) x ts cs:=by
  have hlt:=k.1.lt
  refine ⟨k.1.kept (grown_set W q y) ?_,fun i t hi=>?_⟩
  · cases hx:x.ownBlock with
    | none=>exact .inl rfl
    | some b=>exact .inr fun e=>by injection e with e;have:=(hlt b hx).1;omega
  · obtain ⟨c0,c1,c2,c3,h0,h1,h2,h3,hk⟩:=k.2 i t hi
    refine ⟨c0,c1,c2,c3,h0,h1,h2,h3,?_⟩
    have:(W.setCell q y).heap.size=W.heap.size:=by simp [World.setCell]
    rw [this]
    exact hk.keep (.set (fun hb=>by have:=hb.1;omega) y)
theorem KRow.snoc {base h:Nat} {W W1 W2 W3 W4:World} {x:Value} {ts:List Raw} {cs:List Value} (k:KRow base h W x ts cs) (hb:base≤W.heap.size) (g1:W.grownBy W1 none) (g2:W1.grownBy W2 none) (g3:W2.grownBy W3 none)
    {c0 c1 c2 c3:Value} {t:Raw} (hk:KD (Fr W1 W2) h W2 (.agg #[c0,c1,c2,c3]) t) {g cap:Nat} (hown:W4.ownsRow base 33 4 (.slice (some ⟨g,0,none⟩) (ts.length+1) cap) (ts.length+1) (cs++[c0,c1,c2,c3]))
    (g4:W3.grownBy W4 x.ownBlock) (hg:x.ownBlock=some g∨g=W3.heap.size):KRow base h W4 (.slice (some ⟨g,0,none⟩) (ts.length+1) cap) (ts++[t]) (cs++[c0,c1,c2,c3]):=by
  have hlt:=k.1.lt
  have s1:=g1.size
  have s2:=g2.size
  have s3:=g3.size
  have s4:=g4.size
  have hcl:cs.length=ts.length*4:=k.1.1
  refine ⟨by simpa using hown,fun i t' hi=>?_⟩
  have hob:(Value.slice (some ⟨g,0,none⟩) (ts.length+1) cap).ownBlock=some g:=rfl
  rw [hob]
  by_cases hi':i<ts.length
  · rw [List.getElem?_append_left hi'] at hi
    obtain ⟨d0,d1,d2,d3,h0,h1,h2,h3,hd⟩:=k.2 i t' hi
    refine ⟨d0,d1,d2,d3,by rw [List.getElem?_append_left (by omega)];exact h0,by rw [List.getElem?_append_left (by omega)];exact h1,by rw [List.getElem?_append_left (by omega)];exact h2,by rw [List.getElem?_append_left (by omega)];exact h3,?_⟩
    have hd3:=hd.mono (gt_trans (gt_trans g1 g2 (.inl rfl)) g3 (.inl rfl))
    have hd4:=hd3.keep (.grownRow g4 (fun b hb' hB=>hB.2.2 hb'))
    refine hd4.weak fun b hB=>⟨hB.1,by have:=hB.2.1;omega,fun e=>?_⟩
    injection e with e
    subst e
    rcases hg with hg | hg
    · exact hB.2.2 hg
    · have:=hB.2.1;omega
  · rw [List.getElem?_append_right (by omega)] at hi
    obtain ⟨hz,he⟩:=List.getElem?_eq_some_iff.1 hi
    have hil:i=ts.length:=by simp at hz;omega
    subst hil
    simp at he
    subst he
    refine ⟨c0,c1,c2,c3,by rw [List.getElem?_append_right (by omega)];simp [hcl],by rw [List.getElem?_append_right (by omega),hcl];simp,by rw [List.getElem?_append_right (by omega),hcl];simp,by rw [List.getElem?_append_right (by omega),hcl];simp,?_⟩
    have hd4:=(hk.mono g3).keep (.grownRow g4 (fun b hb' hB=>by have:=(hlt b hb').2;have:=hB.1;omega))
    refine hd4.weak fun b hB=>⟨by have:=hB.1;omega,by have:=hB.2;omega,fun e=>?_⟩
    injection e with e
    subst e
    rcases hg with hg | hg
    · have:=(hlt _ hg).2;have:=hB.1;omega
    · have:=hB.2;omega
theorem KRow.kd {base h:Nat} {W:World} {B:Nat→Prop} {x:Value} {ts:List Raw} {cs:List Value} (kr:KRow base h W x ts cs) {k d:Int} {p:Option Addr} {n cap:Nat} {f:Nat→Nat} (hf:FVal W p n f) (h1:n≤cap) (h2:cap≤maxLen) (h3:p=none→cap=0)
    (hp:∀ a,p=some a→B a.block) (hB:∀ b,base≤b→b<W.heap.size→B b):KD B (h+1) W (.agg #[.int .i64 k,.int .i64 d,.slice p n cap,x]) (.mk k d n f ts):=by
  obtain ⟨q,c,rfl,hl1,hl2,hl3,hob⟩:=own_form kr.1
  have hlt:=kr.1.lt
  refine ⟨p,cap,q,c,rfl,hf,h1,h2,h3,hl1,hl2,hl3,fun a ha i t hi=>?_,hp,fun a ha=>?_⟩
  · obtain ⟨c0,c1,c2,c3,e0,e1,e2,e3,hk⟩:=kr.2 i t hi
    obtain ⟨_,hat⟩:=own_at4 kr.1
    exact ⟨c0,c1,c2,c3,hk.weak (fun b hb=>hB b hb.1 hb.2.1),hat a ha i 0 _ e0,hat a ha i 1 _ e1,hat a ha i 2 _ e2,hat a ha i 3 _ e3⟩
  · have:=hlt _ (hob a ha)
    exact hB _ this.1 this.2
theorem infoG:(Tryz.prog.info? 33).map (fun i=>(i.zero,i.size,i.bytes))=some (some (.agg #[.int .i64 0,.int .i64 0,.slice none 0 0,.slice none 0 0]),4,64):=by kernel_rfl
structure OutInv (W wr:World) (h:Nat) (k d:Int) (p:Option Addr) (n c:Nat) (f:Nat→Nat) (x:Value) (ts:List Raw) (cs:List Value):Prop where
  g:W.grownBy wr none
  big:W.heap.size+3≤wr.heap.size
  o0:wr.cell? ⟨W.heap.size+1+1,0,none⟩=some (.int .i64 k)
  o1:wr.cell? ⟨W.heap.size+1+1,1,none⟩=some (.int .i64 d)
  o2:wr.cell? ⟨W.heap.size+1+1,2,none⟩=some (.slice p n c)
  o3:wr.cell? ⟨W.heap.size+1+1,3,none⟩=some x
  of_:∀ j,wr.frozen? ⟨W.heap.size+1+1,j,none⟩=false
  r0:wr.cell? ⟨W.heap.size+1,0,none⟩=some (.int .i64 0)
  r1:wr.cell? ⟨W.heap.size+1,1,none⟩=some (.int .i64 0)
  r2:wr.cell? ⟨W.heap.size+1,2,none⟩=some (.slice none 0 0)
  r3:wr.cell? ⟨W.heap.size+1,3,none⟩=some (.slice none 0 0)
  rf:∀ j,wr.frozen? ⟨W.heap.size+1,j,none⟩=false
  nums:FVal wr p n f
  n1:n≤c
  n2:c≤maxLen
  n3:p=none→c=0
  nb:∀ a,p=some a→W.heap.size+3≤a.block∧a.block<wr.heap.size∧x.ownBlock≠some a.block
  kr:KRow (W.heap.size+3) h wr x ts cs
section
variable {W wr w':World} {h:Nat} {k d:Int} {p:Option Addr} {n c:Nat} {f:Nat→Nat} {x:Value} {ts:List Raw} {cs:List Value}
theorem OutInv.kept (i:OutInv W wr h k d p n c f x ts cs) (g:wr.grownBy w' none):OutInv W w' h k d p n c f x ts cs:=by
  have hb:=i.big
  have hf:∀ b j,b<wr.heap.size→w'.frozen? ⟨b,j,none⟩=wr.frozen? ⟨b,j,none⟩:=fun b j hlt=>World.frozen?_of_block (g.block b hlt (by simp))
  exact ⟨gt_trans i.g g (.inl rfl),Nat.le_trans i.big g.size,g.cell i.o0 (by simp),g.cell i.o1 (by simp),g.cell i.o2 (by simp),g.cell i.o3 (by simp),fun j=>by rw [hf _ _ (by omega)];exact i.of_ j,
    g.cell i.r0 (by simp),g.cell i.r1 (by simp),g.cell i.r2 (by simp),g.cell i.r3 (by simp),fun j=>by rw [hf _ _ (by omega)];exact i.rf j,i.nums.mono g,i.n1,i.n2,i.n3,
    fun a ha=>⟨(i.nb a ha).1,Nat.lt_of_lt_of_le (i.nb a ha).2.1 g.size,(i.nb a ha).2.2⟩,i.kr.kept g⟩
theorem OutInv.snoc {w1 w2 w3 w4:World} (i:OutInv W wr h k d p n c f x ts cs) (g1:wr.grownBy w1 none) (g2:w1.grownBy w2 none) (g3:w2.grownBy w3 none) {c0 c1 c2 c3:Value} {t:Raw} (hk:KD (Fr w1 w2) h w2 (.agg #[c0,c1,c2,c3]) t) {gg cap:Nat}
    (hown:w4.ownsRow (W.heap.size+3) 33 4 (.slice (some ⟨gg,0,none⟩) (ts.length+1) cap) (ts.length+1) (cs++[c0,c1,c2,c3])) (g4:w3.grownBy w4 x.ownBlock) (hg:x.ownBlock=some gg∨gg=w3.heap.size) :
    OutInv W (w4.setCell ⟨W.heap.size+1+1,3,none⟩ (.slice (some ⟨gg,0,none⟩) (ts.length+1) cap)) h k d p n c f (.slice (some ⟨gg,0,none⟩) (ts.length+1) cap) (ts++[t]) (cs++[c0,c1,c2,c3]):=by
  have hsn:=i.kr.snoc i.big g1 g2 g3 hk hown g4 hg
  have j:=((i.kept g1).kept g2).kept g3
  have hlt:=i.kr.1.lt
  have hb:=i.big
  have s1:=g1.size
  have s2:=g2.size
  have s3:=g3.size
  have s4:=g4.size
  have hne:∀ b,b<W.heap.size+3→x.ownBlock≠some b:=fun b hlt' e=>by have:=(hlt b e).1;omega
  have cell:∀ b o v,b<W.heap.size+3→w3.cell? ⟨b,o,none⟩=some v→w4.cell? ⟨b,o,none⟩=some v:=fun b o v hb' hv=>g4.cell hv (fun e=>hne b hb' e.symm)
  have fro:∀ b o,b<W.heap.size+3→w4.frozen? ⟨b,o,none⟩=w3.frozen? ⟨b,o,none⟩:=fun b o hb'=>World.frozen?_of_block (g4.block b (by omega) (fun e=>hne b hb' e.symm))
  have hsz:(w4.setCell ⟨W.heap.size+1+1,3,none⟩ (.slice (some ⟨gg,0,none⟩) (ts.length+1) cap)).heap.size=w4.heap.size:=by simp [World.setCell]
  have hgW:W.grownBy w4 none:=gt_trans j.g g4 (by
    cases hx:x.ownBlock with
    | none=>exact .inl rfl
    | some b=>exact .inr (.inr ⟨b,rfl,by have:=(hlt b hx).1;omega⟩))
  have z3:=World.cell?_setCell_same (v:=.slice (some ⟨gg,0,none⟩) (ts.length+1) cap) (h:=cell _ _ _ (by omega) j.o3)
  refine ⟨gt_set_r hgW _ _ (by show W.heap.size≤W.heap.size+1+1;omega),by rw [hsz];omega,?_,?_,?_,z3,fun l=>?_,?_,?_,?_,?_,fun l=>?_,?_,i.n1,i.n2,i.n3,?_,hsn.set (by show W.heap.size+1+1<W.heap.size+3;omega) _⟩
  · rw [World.cell?_setCell_other (h:=by simp)];exact cell _ _ _ (by omega) j.o0
  · rw [World.cell?_setCell_other (h:=by simp)];exact cell _ _ _ (by omega) j.o1
  · rw [World.cell?_setCell_other (h:=by simp)];exact cell _ _ _ (by omega) j.o2
  · rw [World.frozen?_setCell,fro _ _ (by omega)];exact j.of_ l
  · rw [World.cell?_setCell_other (h:=by simp)];exact cell _ _ _ (by omega) j.r0
  · rw [World.cell?_setCell_other (h:=by simp)];exact cell _ _ _ (by omega) j.r1
  · rw [World.cell?_setCell_other (h:=by simp)];exact cell _ _ _ (by omega) j.r2
  · rw [World.cell?_setCell_other (h:=by simp)];exact cell _ _ _ (by omega) j.r3
  · rw [World.frozen?_setCell,fro _ _ (by omega)];exact j.rf l
  · have h1:=j.nums.keep (B:=fun b=>W.heap.size+3≤b∧b<w3.heap.size∧x.ownBlock≠some b) (.grownRow g4 (fun b hb' hB=>hB.2.2 hb')) j.nb
    exact h1.keep (B:=fun b=>W.heap.size+3≤b∧b<w3.heap.size∧x.ownBlock≠some b) (.set (fun hB=>by have h2:W.heap.size+3≤W.heap.size+1+1:=hB.1;omega) _) j.nb
  · intro a ha
    obtain ⟨b1,b2,b3⟩:=j.nb a ha
    refine ⟨b1,by rw [hsz];omega,fun e=>?_⟩
    have e':gg=a.block:=by injection e
    rcases hg with hg | hg
    · exact b3 (by rw [hg,e'])
    · omega
end
theorem cell_new_at' (X:World) (cs:Array Value) (e b j:Nat) (hb:b=X.heap.size):(X.alloc (.cells cs e)).cell? ⟨b,j,none⟩=cs[j]?:=by
  subst hb
  exact World.cell?_alloc_new _ cs e j
theorem frozen_new_at' (X:World) (cs:Array Value) (e b j:Nat) (hb:b=X.heap.size):(X.alloc (.cells cs e)).frozen? ⟨b,j,none⟩=false:=by
  subst hb
  simp
def W3 (W:World) (g0 g1 g2 g3:Value) (k d:Int) (T:Nat):World:=((W.alloc (.cells #[g0,g1,g2,g3] T)).alloc (.cells #[.int .i64 0,.int .i64 0,.slice none 0 0,.slice none 0 0] T)).alloc (.cells #[.int .i64 k,.int .i64 d,.slice none 0 0,.slice none 0 0] T)
theorem W3_grown (W:World) (g0 g1 g2 g3:Value) (k d:Int) (T:Nat):W.grownBy (W3 W g0 g1 g2 g3 k d T) none:=gt_alloc_r (gt_alloc_r (World.grownBy_alloc W _ none) _) _
theorem W3_size (W:World) (g0 g1 g2 g3:Value) (k d:Int) (T:Nat):(W3 W g0 g1 g2 g3 k d T).heap.size=W.heap.size+3:=by simp [W3]
structure Pre (W w2:World) (g0 g1 g2 g3:Value) (k d:Int):Prop where
  g:W.grownBy w2 none
  big:W.heap.size+3≤w2.heap.size
  a0:w2.cell? ⟨W.heap.size,0,none⟩=some g0
  a1:w2.cell? ⟨W.heap.size,1,none⟩=some g1
  a2:w2.cell? ⟨W.heap.size,2,none⟩=some g2
  a3:w2.cell? ⟨W.heap.size,3,none⟩=some g3
  o0:w2.cell? ⟨W.heap.size+1+1,0,none⟩=some (.int .i64 k)
  o1:w2.cell? ⟨W.heap.size+1+1,1,none⟩=some (.int .i64 d)
  o2:w2.cell? ⟨W.heap.size+1+1,2,none⟩=some (.slice none 0 0)
  o3:w2.cell? ⟨W.heap.size+1+1,3,none⟩=some (.slice none 0 0)
  of_:∀ j,w2.frozen? ⟨W.heap.size+1+1,j,none⟩=false
  r0:w2.cell? ⟨W.heap.size+1,0,none⟩=some (.int .i64 0)
  r1:w2.cell? ⟨W.heap.size+1,1,none⟩=some (.int .i64 0)
  r2:w2.cell? ⟨W.heap.size+1,2,none⟩=some (.slice none 0 0)
  r3:w2.cell? ⟨W.heap.size+1,3,none⟩=some (.slice none 0 0)
  rf:∀ j,w2.frozen? ⟨W.heap.size+1,j,none⟩=false
theorem Pre.of (W w2:World) (g0 g1 g2 g3:Value) (k d:Int) (T:Nat) (g:(W3 W g0 g1 g2 g3 k d T).grownBy w2 none):Pre W w2 g0 g1 g2 g3 k d:=by
  have hs:=W3_size W g0 g1 g2 g3 k d T
  have ga:=gt_trans (gt_alloc_r (World.grownBy_alloc (W.alloc (.cells #[g0,g1,g2,g3] T)) (.cells #[.int .i64 0,.int .i64 0,.slice none 0 0,.slice none 0 0] T) none) (.cells #[.int .i64 k,.int .i64 d,.slice none 0 0,.slice none 0 0] T)) g (.inl rfl)
  have gr:=gt_trans (World.grownBy_alloc ((W.alloc (.cells #[g0,g1,g2,g3] T)).alloc (.cells #[.int .i64 0,.int .i64 0,.slice none 0 0,.slice none 0 0] T)) (.cells #[.int .i64 k,.int .i64 d,.slice none 0 0,.slice none 0 0] T) none) g (.inl rfl)
  have ca:∀ j v,#[g0,g1,g2,g3][j]?=some v→w2.cell? ⟨W.heap.size,j,none⟩=some v:=fun j v hv=>ga.cell ((cell_new_at' W #[g0,g1,g2,g3] T W.heap.size j rfl).trans hv) (by simp)
  have cr:∀ j v,#[Value.int .i64 0,.int .i64 0,.slice none 0 0,.slice none 0 0][j]?=some v→w2.cell? ⟨W.heap.size+1,j,none⟩=some v:=fun j v hv=>gr.cell ((cell_new_at' (W.alloc (.cells #[g0,g1,g2,g3] T)) _ T (W.heap.size+1) j (by simp)).trans hv) (by simp)
  have co:∀ j v,#[Value.int .i64 k,.int .i64 d,.slice none 0 0,.slice none 0 0][j]?=some v→w2.cell? ⟨W.heap.size+1+1,j,none⟩=some v:=fun j v hv=>g.cell ((cell_new_at' ((W.alloc (.cells #[g0,g1,g2,g3] T)).alloc (.cells #[.int .i64 0,.int .i64 0,.slice none 0 0,.slice none 0 0] T)) _ T (W.heap.size+1+1) j (by simp)).trans hv) (by simp)
  refine ⟨gt_trans (W3_grown ..) g (.inl rfl),by have:=g.size;omega,ca 0 _ rfl,ca 1 _ rfl,ca 2 _ rfl,ca 3 _ rfl,co 0 _ rfl,co 1 _ rfl,co 2 _ rfl,co 3 _ rfl,fun j=>?_,cr 0 _ rfl,cr 1 _ rfl,cr 2 _ rfl,cr 3 _ rfl,fun j=>?_⟩
  · rw [World.frozen?_of_block (g.block (W.heap.size+1+1) (by omega) (by simp))]
    exact frozen_new_at' _ _ _ _ j (by simp)
  · rw [World.frozen?_of_block (gr.block (W.heap.size+1) (by simp) (by simp))]
    exact frozen_new_at' _ _ _ _ j (by simp)
theorem Pre.kept {W w w':World} {g0 g1 g2 g3:Value} {k d:Int} (i:Pre W w g0 g1 g2 g3 k d) (g:w.grownBy w' none):Pre W w' g0 g1 g2 g3 k d:=by
  have hb:=i.big
  have hf:∀ b j,b<w.heap.size→w'.frozen? ⟨b,j,none⟩=w.frozen? ⟨b,j,none⟩:=fun b j hlt=>World.frozen?_of_block (g.block b hlt (by simp))
  exact ⟨gt_trans i.g g (.inl rfl),Nat.le_trans i.big g.size,g.cell i.a0 (by simp),g.cell i.a1 (by simp),g.cell i.a2 (by simp),g.cell i.a3 (by simp),g.cell i.o0 (by simp),g.cell i.o1 (by simp),g.cell i.o2 (by simp),g.cell i.o3 (by simp),fun j=>by rw [hf _ _ (by omega)];exact i.of_ j,
    g.cell i.r0 (by simp),g.cell i.r1 (by simp),g.cell i.r2 (by simp),g.cell i.r3 (by simp),fun j=>by rw [hf _ _ (by omega)];exact i.rf j⟩
theorem Pre.start {W w2:World} {g0 g1 g2 g3:Value} {k d:Int} (i:Pre W w2 g0 g1 g2 g3 k d) (h:Nat) {p:Option Addr} {n c:Nat} {f:Nat→Nat} (hf:FVal w2 p n f) (n1:n≤c) (n2:c≤maxLen) (n3:p=none→c=0) (nb:∀ a,p=some a→W.heap.size+3≤a.block∧a.block<w2.heap.size) :
    OutInv W (w2.setCell ⟨W.heap.size+1+1,2,none⟩ (.slice p n c)) h k d p n c f (.slice none 0 0) [] []:=by
  have hsz:(w2.setCell ⟨W.heap.size+1+1,2,none⟩ (.slice p n c)).heap.size=w2.heap.size:=by simp [World.setCell]
  have hb:=i.big
  refine ⟨gt_set_r i.g _ _ (by show W.heap.size≤W.heap.size+1+1;omega),by rw [hsz];omega,?_,?_,World.cell?_setCell_same (v:=.slice p n c) (h:=i.o2),?_,fun l=>?_,?_,?_,?_,?_,fun l=>?_,?_,n1,n2,n3,fun a ha=>⟨(nb a ha).1,by rw [hsz];exact (nb a ha).2,by simp [Value.ownBlock]⟩,KRow.nil _ _ _⟩
  · rw [World.cell?_setCell_other (h:=by simp)];exact i.o0
  · rw [World.cell?_setCell_other (h:=by simp)];exact i.o1
  · rw [World.cell?_setCell_other (h:=by simp)];exact i.o3
  · rw [World.frozen?_setCell];exact i.of_ l
  · rw [World.cell?_setCell_other (h:=by simp)];exact i.r0
  · rw [World.cell?_setCell_other (h:=by simp)];exact i.r1
  · rw [World.cell?_setCell_other (h:=by simp)];exact i.r2
  · rw [World.cell?_setCell_other (h:=by simp)];exact i.r3
  · rw [World.frozen?_setCell];exact i.rf l
  · exact hf.keep (B:=fun b=>W.heap.size+3≤b) (.set (fun hB=>by have h2:W.heap.size+3≤W.heap.size+1+1:=hB;omega) _) (fun a ha=>(nb a ha).1)
theorem Pre.start0 {W w2:World} {g0 g1 g2 g3:Value} {k d:Int} (i:Pre W w2 g0 g1 g2 g3 k d) (h:Nat) {f:Nat→Nat} (hf:∀ i,f i<18446744073709551616):OutInv W w2 h k d none 0 0 f (.slice none 0 0) [] [] :=
  ⟨i.g,i.big,i.o0,i.o1,i.o2,i.o3,i.of_,i.r0,i.r1,i.r2,i.r3,i.rf,⟨fun h=>by omega,(fun a ha=>by cases ha),hf⟩,Nat.le_refl _,by decide,fun _=>rfl,(fun a ha=>by cases ha),KRow.nil _ _ _⟩
theorem OutInv.kd {W wr:World} {h:Nat} {k d:Int} {p:Option Addr} {n c:Nat} {f:Nat→Nat} {x:Value} {ts:List Raw} {cs:List Value} (i:OutInv W wr h k d p n c f x ts cs):KD (fun b=>W.heap.size+3≤b∧b<wr.heap.size) (h+1) wr (.agg #[.int .i64 k,.int .i64 d,.slice p n c,x]) (.mk k d n f ts) :=
  i.kr.kd i.nums i.n1 i.n2 i.n3 (fun a ha=>⟨(i.nb a ha).1,(i.nb a ha).2.1⟩) (fun _ h1 h2=>⟨h1,h2⟩)
theorem OutInv.end_ {W wr:World} {h:Nat} {k d:Int} {p:Option Addr} {n c:Nat} {f:Nat→Nat} {x:Value} {ts:List Raw} {cs:List Value} (i:OutInv W wr h k d p n c f x ts cs) :
    KD (Fr W ((((wr.setCell ⟨W.heap.size+1,0,none⟩ (.int .i64 k)).setCell ⟨W.heap.size+1,1,none⟩ (.int .i64 d)).setCell ⟨W.heap.size+1,2,none⟩ (.slice p n c)).setCell ⟨W.heap.size+1,3,none⟩ x)) (h+1) ((((wr.setCell ⟨W.heap.size+1,0,none⟩ (.int .i64 k)).setCell ⟨W.heap.size+1,1,none⟩ (.int .i64 d)).setCell ⟨W.heap.size+1,2,none⟩ (.slice p n c)).setCell ⟨W.heap.size+1,3,none⟩ x) (.agg #[.int .i64 k,.int .i64 d,.slice p n c,x]) (.mk k d n f ts) ∧
    W.grownBy ((((wr.setCell ⟨W.heap.size+1,0,none⟩ (.int .i64 k)).setCell ⟨W.heap.size+1,1,none⟩ (.int .i64 d)).setCell ⟨W.heap.size+1,2,none⟩ (.slice p n c)).setCell ⟨W.heap.size+1,3,none⟩ x) none:=by
  have ks:∀ (w:World) (j:Nat) (y:Value),Kept (fun b=>W.heap.size+3≤b∧b<wr.heap.size) w (w.setCell ⟨W.heap.size+1,j,none⟩ y):=fun w j y=>.set (fun hB=>by have h2:W.heap.size+3≤W.heap.size+1:=hB.1;omega) y
  have gs:∀ (w:World) (j:Nat) (y:Value),W.grownBy w none→W.grownBy (w.setCell ⟨W.heap.size+1,j,none⟩ y) none:=fun w j y g=>gt_set_r g _ _ (Nat.le_succ _)
  refine ⟨((((i.kd.keep (ks _ _ _)).keep (ks _ _ _)).keep (ks _ _ _)).keep (ks _ _ _)).weak fun b hb=>⟨by have:=hb.1;omega,by simp [World.setCell];exact hb.2⟩,gs _ _ _ (gs _ _ _ (gs _ _ _ (gs _ _ _ i.g)))⟩
theorem one4 (a b:Int) (p q:Option Addr) (n c m c2:Nat):∀ u ∈ (#[.int .i64 a,.int .i64 b,.slice p n c,.slice q m c2]:Array Value).toList,u.oneCell'=true:=by
  intro u hu
  simp at hu
  rcases hu with rfl | rfl | rfl | rfl <;> rfl
end
section
open Go.RowKit
theorem Width_lit (x y:Int) (h:(x=0∧y=2)∨(x=1∧y=3)∨(x=2∧y=3)∨(x=3∧y=4)) (w:World) :
    Calls Tryz.prog 42 #[.int .i64 x] w fun e w'=>e=.returned (.int .i64 y)∧w'=w:=by
  rcases h with ⟨rfl,rfl⟩ | ⟨rfl,rfl⟩ | ⟨rfl,rfl⟩ | ⟨rfl,rfl⟩
  all_goals
    go_enter Tryz.func42,Tryz.ntmps42
    have b0:bits .and .i64 0 1=0:=by kernel_rfl
    have b1:bits .and .i64 1 1=1:=by kernel_rfl
    have b2:bits .and .i64 2 1=0:=by kernel_rfl
    have b3:bits .and .i64 3 1=1:=by kernel_rfl
    go_wp2_with fail
    go_ret
    exact ⟨by first | rfl | kernel_rfl,rfl⟩
theorem Width_any (r:Nat) (hr:r<4) (w:World):Calls Tryz.prog 42 #[.int .i64 r] w fun e w'=>e=.returned (.int .i64 (widN r:Nat))∧w'=w :=
  Width_lit r (widN r:Nat) (by unfold widN;omega) w
end
section
open Go.RowKit
def pCells (r:Nat) (f:Nat→Nat):Nat→List Value
  | 0=>[]
  | k+1=>pCells r f k++[.float .f64 (plX r f k),.float .f64 (plY r f k),.float .f64 (plZ r f k),.float .f64 (plM r f k)]
theorem pCells_len (r:Nat) (f:Nat→Nat):∀ k,(pCells r f k).length=k*4
  | 0=>rfl
  | k+1=>by simp only [pCells,List.length_append,List.length_cons,List.length_nil,pCells_len r f k];omega
theorem pCells_at (r:Nat) (f:Nat→Nat):∀ n k,k<n→∀ j,j<4→(pCells r f n)[k*4+j]?=[Value.float .f64 (plX r f k),.float .f64 (plY r f k),.float .f64 (plZ r f k),.float .f64 (plM r f k)][j]?
  | 0,k,h,_,_=>by omega
  | n+1,k,h,j,hj=>by
    have hl:=pCells_len r f n
    by_cases hk:k=n
    · subst hk
      rw [pCells,List.getElem?_append_right (by omega)]
      congr 1
      omega
    · rw [pCells,List.getElem?_append_left (by omega)]
      exact pCells_at r f n k (by omega) j hj
section
variable {e size base:Nat} {w0 W:World} {v0 v:Value} {n:Nat} {xs:List Value}
variable {P:Program} {ops:Array Oper} {rest:List Oper} {o:Oper} {a:Act} {Q:Exit→Act→World→Prop}
theorem app_cells_d (hgd:o.guard=none) (s x:Operand) (t:TypeId) (ho:o.op=.call { callee:=.builtin .append,args:=#[s,x],argTypes:=#[t,t] })
    (ht:P.underlying t=some (.slice e)) (z:Value) (bytes:Nat) (hinfo:(P.info? e).map (fun i=>(i.zero,i.size,i.bytes))=some (some z,size,bytes)) (hzs:z.cells.size=size) (hsz:0<size)
    (H:AppV e size base w0 v0 W v n xs) (hs:a.eval s=v) {k m c:Nat} (hx:a.eval x=.slice (some ⟨k,0,none⟩) m c) (hk:k=W.heap.size) (cs:Array Value) (hcl:cs.size=m*size) (h1:∀ u ∈ cs.toList,u.oneCell'=true)
    (hbase:base≤w0.heap.size) (hl:(n+m)*bytes≤140737488355328) (hl2:n+m≤140737488355328)
    (h:∀ v1 w1,AppV e size base w0 v0 w1 v1 (n+m) (xs++cs.toList)→wpList P ops Q rest (a.put o.dst v1) w1) :
    wpList P ops Q (o::rest) a (W.alloc (.cells cs e)).drew :=
  app_cells (W:=W.drew) hgd s x t ho ht z bytes hinfo hzs hsz (H.beside (gt_drew_r (gt_refl _ _))) hs hx hk cs hcl h1 hbase hl hl2 h
end
theorem infoP:(Tryz.prog.info? 209).map (fun i=>(i.zero,i.size,i.bytes))=some (some (.agg #[.float .f64 0,.float .f64 0,.float .f64 0,.float .f64 0]),4,32):=by kernel_rfl
theorem Places_0 (p:Option Addr) (n cap:Nat) (f:Nat→Nat) (hn:n≤100000) (W:World) (hf:FVal W p n f) :
    Calls Tryz.prog 91 #[.slice p n cap,.int .i64 0] W fun e w'=>∃ v,e=.returned v∧AppV 209 4 W.heap.size W (.slice none 0 0) w' v (n / 2) (pCells 0 f (n / 2)):=by
  have hsf:=run_store_flt Tryz.prog
  have HF:=Lib.hid hf
  have HN:Hid (∀ k,pCells 0 f (k+1)=pCells 0 f k++[.float .f64 (f (k*2)),.float .f64 (f (k*2+1)),.float .f64 0,.float .f64 0]):=fun k=>rfl
  have HWd:=Lib.hid (fun w=>Width_lit 0 2 (by omega) w)
  have bt1:bits .and .i64 0 1=0:=by kernel_rfl
  have bt2:bits .and .i64 0 2=0:=by kernel_rfl
  clear hf
  go_enter Tryz.func91,Tryz.ntmps91
  go_wp2_with (first | (go_at_call 42;refine (HWd.out _).mono ?_;rintro e w' ⟨rfl,hw⟩;obtain rfl:=hw.symm))
  go_loopw [5,7] (fun x i wr=>∃ k:Nat,k≤n / 2∧i=.int .i64 ((k*2:Nat):Int)∧AppV 209 4 W.heap.size W (.slice none 0 0) wr x k (pCells 0 f k)) (fun _ i _=>n - (intOf i).toNat)
  case atStart=>exact ⟨0,by omega,rfl,AppV.nil _ _ _ _⟩
  case round =>
    obtain ⟨k,hk,rfl,H0⟩:=hrel
    rename World=>wr
    have HN1:=Lib.hid (HN.out k)
    obtain ⟨j0,e0⟩ : ∃ j0,j0=k*2:=⟨_,rfl⟩
    rw [←e0] at HN1 ⊢
    obtain ⟨jw,ew⟩ : ∃ jw:Nat,jw=j0+2:=⟨_,rfl⟩
    have hww:IntKind.i64.wrap ((j0:Int)+2)=(jw:Int):=by rw [IntKind.wrap_i64];omega
    by_cases hkn:k<n / 2
    · have hjn:(jw:Int)≤(n:Int):=by omega
      obtain ⟨a,rfl⟩:=HF.out.some_ (by omega)
      obtain ⟨j1,e1⟩ : ∃ j1,j1=j0+1:=⟨_,rfl⟩
      rw [←e1] at HN1
      have q0:=(HF.out.mono H0.grown0).at_ a rfl j0 (by omega)
      have q1:=(HF.out.mono H0.grown0).at_ a rfl j1 (by omega)
      have hw1:IntKind.i64.wrap ((j0:Int)+1)=(j1:Int):=by rw [IntKind.wrap_i64];omega
      have b00:(0:Int)≤(j0:Int):=by omega
      have b01:(j0:Int)<(n:Int):=by omega
      have b10:(0:Int)≤(j1:Int):=by omega
      have b11:(j1:Int)<(n:Int):=by omega
      have HK:Hid (jw=(k+1)*2∧k+1≤n / 2∧j0<jw∧jw≤n):=⟨by omega,by omega,by omega,by omega⟩
      clear e0 e1 ew
      have HB:Hid (∀ W',wr.grownBy W' none→AppV 209 4 W.heap.size W (.slice none 0 0) W' u5 k (pCells 0 f k)):=fun W' g=>H0.beside g
      have HS:Hid (∀ w',wr.grownBy w' none→w'.cell? (a.add j0)=some (.float .f64 (f j0))∧w'.cell? (a.add j1)=some (.float .f64 (f j1))):=fun w' g=>⟨g.cell q0 (by simp),g.cell q1 (by simp)⟩
      clear H0
      go_wp2_with fail
      go_region_held3 (fun w'=>w'.cell? (a.add j0)=some (.float .f64 (f j0))∧w'.cell? (a.add j1)=some (.float .f64 (f j1))) (first | exact HS.out _ (gt_below (by go_grown) none))
        (first | (fail))
      rename_i hHeld
      obtain ⟨p0,p1⟩:=hHeld
      clear q0 q1
      go_wp2_with (first
        | (at_builtin;refine app_cells_d rfl _ _ _ rfl Tryz.underlying156 (.agg #[.float .f64 0,.float .f64 0,.float .f64 0,.float .f64 0]) 32 infoP rfl (by omega) (HB.out _ (gt_below (by go_grown) none)) rfl rfl (by first | rfl | simp) _ (by first | rfl | simp) (by simp [Value.oneCell']) (Nat.le_refl _) (by omega) (by omega) ?_;intro v1 w1 H1))
      have H2:AppV 209 4 W.heap.size W (.slice none 0 0) w1 v1 (k+1) (pCells 0 f (k+1)):=by rw [HN1.out];exact H1
      obtain ⟨k1,k2,k3,k4⟩:=HK.out
      refine ⟨⟨k+1,k2,by rw [←k1],H2⟩,by simp [intOf];omega⟩
    · have hjn:¬ (jw:Int)≤(n:Int):=by omega
      obtain rfl:k=n / 2:=by omega
      go_wp2_with fail
      go_wp2_with fail
      go_ret
      exact ⟨_,rfl,H0⟩
theorem Places_1 (p:Option Addr) (n cap:Nat) (f:Nat→Nat) (hn:n≤100000) (W:World) (hf:FVal W p n f) :
    Calls Tryz.prog 91 #[.slice p n cap,.int .i64 1] W fun e w'=>∃ v,e=.returned v∧AppV 209 4 W.heap.size W (.slice none 0 0) w' v (n / 3) (pCells 1 f (n / 3)):=by
  have hsf:=run_store_flt Tryz.prog
  have HF:=Lib.hid hf
  have HN:Hid (∀ k,pCells 1 f (k+1)=pCells 1 f k++[.float .f64 (f (k*3)),.float .f64 (f (k*3+1)),.float .f64 (f (k*3+2)),.float .f64 0]):=fun k=>rfl
  have HWd:=Lib.hid (fun w=>Width_lit 1 3 (by omega) w)
  have bt1:bits .and .i64 1 1=1:=by kernel_rfl
  have bt2:bits .and .i64 1 2=0:=by kernel_rfl
  clear hf
  go_enter Tryz.func91,Tryz.ntmps91
  go_wp2_with (first | (go_at_call 42;refine (HWd.out _).mono ?_;rintro e w' ⟨rfl,hw⟩;obtain rfl:=hw.symm))
  go_loopw [5,7] (fun x i wr=>∃ k:Nat,k≤n / 3∧i=.int .i64 ((k*3:Nat):Int)∧AppV 209 4 W.heap.size W (.slice none 0 0) wr x k (pCells 1 f k)) (fun _ i _=>n - (intOf i).toNat)
  case atStart=>exact ⟨0,by omega,rfl,AppV.nil _ _ _ _⟩
  case round =>
    obtain ⟨k,hk,rfl,H0⟩:=hrel
    rename World=>wr
    have HN1:=Lib.hid (HN.out k)
    obtain ⟨j0,e0⟩ : ∃ j0,j0=k*3:=⟨_,rfl⟩
    rw [←e0] at HN1 ⊢
    obtain ⟨jw,ew⟩ : ∃ jw:Nat,jw=j0+3:=⟨_,rfl⟩
    have hww:IntKind.i64.wrap ((j0:Int)+3)=(jw:Int):=by rw [IntKind.wrap_i64];omega
    by_cases hkn:k<n / 3
    · have hjn:(jw:Int)≤(n:Int):=by omega
      obtain ⟨a,rfl⟩:=HF.out.some_ (by omega)
      obtain ⟨j1,e1⟩ : ∃ j1,j1=j0+1:=⟨_,rfl⟩
      obtain ⟨j2,e2⟩ : ∃ j2,j2=j0+2:=⟨_,rfl⟩
      rw [←e1,←e2] at HN1
      have q0:=(HF.out.mono H0.grown0).at_ a rfl j0 (by omega)
      have q1:=(HF.out.mono H0.grown0).at_ a rfl j1 (by omega)
      have q2:=(HF.out.mono H0.grown0).at_ a rfl j2 (by omega)
      have hw1:IntKind.i64.wrap ((j0:Int)+1)=(j1:Int):=by rw [IntKind.wrap_i64];omega
      have hw2:IntKind.i64.wrap ((j0:Int)+2)=(j2:Int):=by rw [IntKind.wrap_i64];omega
      have b00:(0:Int)≤(j0:Int):=by omega
      have b01:(j0:Int)<(n:Int):=by omega
      have b10:(0:Int)≤(j1:Int):=by omega
      have b11:(j1:Int)<(n:Int):=by omega
      have b20:(0:Int)≤(j2:Int):=by omega
      have b21:(j2:Int)<(n:Int):=by omega
      have HK:Hid (jw=(k+1)*3∧k+1≤n / 3∧j0<jw∧jw≤n):=⟨by omega,by omega,by omega,by omega⟩
      clear e0 e1 e2 ew
      have HB:Hid (∀ W',wr.grownBy W' none→AppV 209 4 W.heap.size W (.slice none 0 0) W' u5 k (pCells 1 f k)):=fun W' g=>H0.beside g
      have HS:Hid (∀ w',wr.grownBy w' none→w'.cell? (a.add j0)=some (.float .f64 (f j0))∧w'.cell? (a.add j1)=some (.float .f64 (f j1))∧w'.cell? (a.add j2)=some (.float .f64 (f j2))):=fun w' g=>⟨g.cell q0 (by simp),g.cell q1 (by simp),g.cell q2 (by simp)⟩
      clear H0
      go_wp2_with fail
      go_region_held3 (fun w'=>w'.cell? (a.add j0)=some (.float .f64 (f j0))∧w'.cell? (a.add j1)=some (.float .f64 (f j1))∧w'.cell? (a.add j2)=some (.float .f64 (f j2))) (first | exact HS.out _ (gt_below (by go_grown) none))
        (first | (fail))
      rename_i hHeld
      obtain ⟨p0,p1,p2⟩:=hHeld
      clear q0 q1 q2
      have pa2:∀ O:Obj,((wr.alloc O).drew).cell? (a.add j2)=some (.float .f64 (f j2)):=fun O=>(HS.out _ (gt_below (by go_grown) none)).2.2
      go_wp2_with (first
        | (at_builtin;refine app_cells_d rfl _ _ _ rfl Tryz.underlying156 (.agg #[.float .f64 0,.float .f64 0,.float .f64 0,.float .f64 0]) 32 infoP rfl (by omega) (HB.out _ (gt_below (by go_grown) none)) rfl rfl (by first | rfl | simp) _ (by first | rfl | simp) (by simp [Value.oneCell']) (Nat.le_refl _) (by omega) (by omega) ?_;intro v1 w1 H1))
      have H2:AppV 209 4 W.heap.size W (.slice none 0 0) w1 v1 (k+1) (pCells 1 f (k+1)):=by rw [HN1.out];exact H1
      obtain ⟨k1,k2,k3,k4⟩:=HK.out
      refine ⟨⟨k+1,k2,by rw [←k1],H2⟩,by simp [intOf];omega⟩
    · have hjn:¬ (jw:Int)≤(n:Int):=by omega
      obtain rfl:k=n / 3:=by omega
      go_wp2_with fail
      go_wp2_with fail
      go_ret
      exact ⟨_,rfl,H0⟩
theorem Places_2 (p:Option Addr) (n cap:Nat) (f:Nat→Nat) (hn:n≤100000) (W:World) (hf:FVal W p n f) :
    Calls Tryz.prog 91 #[.slice p n cap,.int .i64 2] W fun e w'=>∃ v,e=.returned v∧AppV 209 4 W.heap.size W (.slice none 0 0) w' v (n / 3) (pCells 2 f (n / 3)):=by
  have hsf:=run_store_flt Tryz.prog
  have HF:=Lib.hid hf
  have HN:Hid (∀ k,pCells 2 f (k+1)=pCells 2 f k++[.float .f64 (f (k*3)),.float .f64 (f (k*3+1)),.float .f64 0,.float .f64 (f (k*3+2))]):=fun k=>rfl
  have HWd:=Lib.hid (fun w=>Width_lit 2 3 (by omega) w)
  have bt1:bits .and .i64 2 1=0:=by kernel_rfl
  have bt2:bits .and .i64 2 2=2:=by kernel_rfl
  clear hf
  go_enter Tryz.func91,Tryz.ntmps91
  go_wp2_with (first | (go_at_call 42;refine (HWd.out _).mono ?_;rintro e w' ⟨rfl,hw⟩;obtain rfl:=hw.symm))
  go_loopw [5,7] (fun x i wr=>∃ k:Nat,k≤n / 3∧i=.int .i64 ((k*3:Nat):Int)∧AppV 209 4 W.heap.size W (.slice none 0 0) wr x k (pCells 2 f k)) (fun _ i _=>n - (intOf i).toNat)
  case atStart=>exact ⟨0,by omega,rfl,AppV.nil _ _ _ _⟩
  case round =>
    obtain ⟨k,hk,rfl,H0⟩:=hrel
    rename World=>wr
    have HN1:=Lib.hid (HN.out k)
    obtain ⟨j0,e0⟩ : ∃ j0,j0=k*3:=⟨_,rfl⟩
    rw [←e0] at HN1 ⊢
    obtain ⟨jw,ew⟩ : ∃ jw:Nat,jw=j0+3:=⟨_,rfl⟩
    have hww:IntKind.i64.wrap ((j0:Int)+3)=(jw:Int):=by rw [IntKind.wrap_i64];omega
    by_cases hkn:k<n / 3
    · have hjn:(jw:Int)≤(n:Int):=by omega
      obtain ⟨a,rfl⟩:=HF.out.some_ (by omega)
      obtain ⟨j1,e1⟩ : ∃ j1,j1=j0+1:=⟨_,rfl⟩
      obtain ⟨j2,e2⟩ : ∃ j2,j2=j0+2:=⟨_,rfl⟩
      rw [←e1,←e2] at HN1
      have q0:=(HF.out.mono H0.grown0).at_ a rfl j0 (by omega)
      have q1:=(HF.out.mono H0.grown0).at_ a rfl j1 (by omega)
      have q2:=(HF.out.mono H0.grown0).at_ a rfl j2 (by omega)
      have hw1:IntKind.i64.wrap ((j0:Int)+1)=(j1:Int):=by rw [IntKind.wrap_i64];omega
      have hw2:IntKind.i64.wrap ((j0:Int)+2)=(j2:Int):=by rw [IntKind.wrap_i64];omega
      have hwm:IntKind.i64.wrap ((jw:Int) - 1)=(j2:Int):=by rw [IntKind.wrap_i64];omega
      have b00:(0:Int)≤(j0:Int):=by omega
      have b01:(j0:Int)<(n:Int):=by omega
      have b10:(0:Int)≤(j1:Int):=by omega
      have b11:(j1:Int)<(n:Int):=by omega
      have b20:(0:Int)≤(j2:Int):=by omega
      have b21:(j2:Int)<(n:Int):=by omega
      have HK:Hid (jw=(k+1)*3∧k+1≤n / 3∧j0<jw∧jw≤n):=⟨by omega,by omega,by omega,by omega⟩
      clear e0 e1 e2 ew
      have HB:Hid (∀ W',wr.grownBy W' none→AppV 209 4 W.heap.size W (.slice none 0 0) W' u5 k (pCells 2 f k)):=fun W' g=>H0.beside g
      have HS:Hid (∀ w',wr.grownBy w' none→w'.cell? (a.add j0)=some (.float .f64 (f j0))∧w'.cell? (a.add j1)=some (.float .f64 (f j1))∧w'.cell? (a.add j2)=some (.float .f64 (f j2))):=fun w' g=>⟨g.cell q0 (by simp),g.cell q1 (by simp),g.cell q2 (by simp)⟩
      clear H0
      go_wp2_with fail
      go_region_held3 (fun w'=>w'.cell? (a.add j0)=some (.float .f64 (f j0))∧w'.cell? (a.add j1)=some (.float .f64 (f j1))∧w'.cell? (a.add j2)=some (.float .f64 (f j2))) (first | exact HS.out _ (gt_below (by go_grown) none))
        (first | (fail))
      rename_i hHeld
      obtain ⟨p0,p1,p2⟩:=hHeld
      clear q0 q1 q2
      have pa2:∀ O:Obj,((wr.alloc O).drew).cell? (a.add j2)=some (.float .f64 (f j2)):=fun O=>(HS.out _ (gt_below (by go_grown) none)).2.2
      go_wp2_with (first
        | (at_builtin;refine app_cells_d rfl _ _ _ rfl Tryz.underlying156 (.agg #[.float .f64 0,.float .f64 0,.float .f64 0,.float .f64 0]) 32 infoP rfl (by omega) (HB.out _ (gt_below (by go_grown) none)) rfl rfl (by first | rfl | simp) _ (by first | rfl | simp) (by simp [Value.oneCell']) (Nat.le_refl _) (by omega) (by omega) ?_;intro v1 w1 H1))
      have H2:AppV 209 4 W.heap.size W (.slice none 0 0) w1 v1 (k+1) (pCells 2 f (k+1)):=by rw [HN1.out];exact H1
      obtain ⟨k1,k2,k3,k4⟩:=HK.out
      refine ⟨⟨k+1,k2,by rw [←k1],H2⟩,by simp [intOf];omega⟩
    · have hjn:¬ (jw:Int)≤(n:Int):=by omega
      obtain rfl:k=n / 3:=by omega
      go_wp2_with fail
      go_wp2_with fail
      go_ret
      exact ⟨_,rfl,H0⟩
theorem Places_3 (p:Option Addr) (n cap:Nat) (f:Nat→Nat) (hn:n≤100000) (W:World) (hf:FVal W p n f) :
    Calls Tryz.prog 91 #[.slice p n cap,.int .i64 3] W fun e w'=>∃ v,e=.returned v∧AppV 209 4 W.heap.size W (.slice none 0 0) w' v (n / 4) (pCells 3 f (n / 4)):=by
  have hsf:=run_store_flt Tryz.prog
  have HF:=Lib.hid hf
  have HN:Hid (∀ k,pCells 3 f (k+1)=pCells 3 f k++[.float .f64 (f (k*4)),.float .f64 (f (k*4+1)),.float .f64 (f (k*4+2)),.float .f64 (f (k*4+3))]):=fun k=>rfl
  have HWd:=Lib.hid (fun w=>Width_lit 3 4 (by omega) w)
  have bt1:bits .and .i64 3 1=1:=by kernel_rfl
  have bt2:bits .and .i64 3 2=2:=by kernel_rfl
  clear hf
  go_enter Tryz.func91,Tryz.ntmps91
  go_wp2_with (first | (go_at_call 42;refine (HWd.out _).mono ?_;rintro e w' ⟨rfl,hw⟩;obtain rfl:=hw.symm))
  go_loopw [5,7] (fun x i wr=>∃ k:Nat,k≤n / 4∧i=.int .i64 ((k*4:Nat):Int)∧AppV 209 4 W.heap.size W (.slice none 0 0) wr x k (pCells 3 f k)) (fun _ i _=>n - (intOf i).toNat)
  case atStart=>exact ⟨0,by omega,rfl,AppV.nil _ _ _ _⟩
  case round =>
    obtain ⟨k,hk,rfl,H0⟩:=hrel
    rename World=>wr
    have HN1:=Lib.hid (HN.out k)
    obtain ⟨j0,e0⟩ : ∃ j0,j0=k*4:=⟨_,rfl⟩
    rw [←e0] at HN1 ⊢
    obtain ⟨jw,ew⟩ : ∃ jw:Nat,jw=j0+4:=⟨_,rfl⟩
    have hww:IntKind.i64.wrap ((j0:Int)+4)=(jw:Int):=by rw [IntKind.wrap_i64];omega
    by_cases hkn:k<n / 4
    · have hjn:(jw:Int)≤(n:Int):=by omega
      obtain ⟨a,rfl⟩:=HF.out.some_ (by omega)
      obtain ⟨j1,e1⟩ : ∃ j1,j1=j0+1:=⟨_,rfl⟩
      obtain ⟨j2,e2⟩ : ∃ j2,j2=j0+2:=⟨_,rfl⟩
      obtain ⟨j3,e3⟩ : ∃ j3,j3=j0+3:=⟨_,rfl⟩
      rw [←e1,←e2,←e3] at HN1
      have q0:=(HF.out.mono H0.grown0).at_ a rfl j0 (by omega)
      have q1:=(HF.out.mono H0.grown0).at_ a rfl j1 (by omega)
      have q2:=(HF.out.mono H0.grown0).at_ a rfl j2 (by omega)
      have q3:=(HF.out.mono H0.grown0).at_ a rfl j3 (by omega)
      have hw1:IntKind.i64.wrap ((j0:Int)+1)=(j1:Int):=by rw [IntKind.wrap_i64];omega
      have hw2:IntKind.i64.wrap ((j0:Int)+2)=(j2:Int):=by rw [IntKind.wrap_i64];omega
      have hw3:IntKind.i64.wrap ((j0:Int)+3)=(j3:Int):=by rw [IntKind.wrap_i64];omega
      have hwm:IntKind.i64.wrap ((jw:Int) - 1)=(j3:Int):=by rw [IntKind.wrap_i64];omega
      have b00:(0:Int)≤(j0:Int):=by omega
      have b01:(j0:Int)<(n:Int):=by omega
      have b10:(0:Int)≤(j1:Int):=by omega
      have b11:(j1:Int)<(n:Int):=by omega
      have b20:(0:Int)≤(j2:Int):=by omega
      have b21:(j2:Int)<(n:Int):=by omega
      have b30:(0:Int)≤(j3:Int):=by omega
      have b31:(j3:Int)<(n:Int):=by omega
      have HK:Hid (jw=(k+1)*4∧k+1≤n / 4∧j0<jw∧jw≤n):=⟨by omega,by omega,by omega,by omega⟩
      clear e0 e1 e2 e3 ew
      have HB:Hid (∀ W',wr.grownBy W' none→AppV 209 4 W.heap.size W (.slice none 0 0) W' u5 k (pCells 3 f k)):=fun W' g=>H0.beside g
      have HS:Hid (∀ w',wr.grownBy w' none→w'.cell? (a.add j0)=some (.float .f64 (f j0))∧w'.cell? (a.add j1)=some (.float .f64 (f j1))∧w'.cell? (a.add j2)=some (.float .f64 (f j2))∧w'.cell? (a.add j3)=some (.float .f64 (f j3))):=fun w' g=>⟨g.cell q0 (by simp),g.cell q1 (by simp),g.cell q2 (by simp),g.cell q3 (by simp)⟩
      clear H0
      go_wp2_with fail
      go_region_held3 (fun w'=>w'.cell? (a.add j0)=some (.float .f64 (f j0))∧w'.cell? (a.add j1)=some (.float .f64 (f j1))∧w'.cell? (a.add j2)=some (.float .f64 (f j2))∧w'.cell? (a.add j3)=some (.float .f64 (f j3))) (first | exact HS.out _ (gt_below (by go_grown) none))
        (first | (fail))
      rename_i hHeld
      obtain ⟨p0,p1,p2,p3⟩:=hHeld
      clear q0 q1 q2 q3
      have pa2:∀ O:Obj,((wr.alloc O).drew).cell? (a.add j2)=some (.float .f64 (f j2)):=fun O=>(HS.out _ (gt_below (by go_grown) none)).2.2.1
      have pa3:∀ O:Obj,((wr.alloc O).drew).cell? (a.add j3)=some (.float .f64 (f j3)):=fun O=>(HS.out _ (gt_below (by go_grown) none)).2.2.2
      go_wp2_with (first
        | (at_builtin;refine app_cells_d rfl _ _ _ rfl Tryz.underlying156 (.agg #[.float .f64 0,.float .f64 0,.float .f64 0,.float .f64 0]) 32 infoP rfl (by omega) (HB.out _ (gt_below (by go_grown) none)) rfl rfl (by first | rfl | simp) _ (by first | rfl | simp) (by simp [Value.oneCell']) (Nat.le_refl _) (by omega) (by omega) ?_;intro v1 w1 H1))
      have H2:AppV 209 4 W.heap.size W (.slice none 0 0) w1 v1 (k+1) (pCells 3 f (k+1)):=by rw [HN1.out];exact H1
      obtain ⟨k1,k2,k3,k4⟩:=HK.out
      refine ⟨⟨k+1,k2,by rw [←k1],H2⟩,by simp [intOf];omega⟩
    · have hjn:¬ (jw:Int)≤(n:Int):=by omega
      obtain rfl:k=n / 4:=by omega
      go_wp2_with fail
      go_wp2_with fail
      go_ret
      exact ⟨_,rfl,H0⟩
end
end Go.Proofs.YtlpaecafpbbbkaaGreatDoor
