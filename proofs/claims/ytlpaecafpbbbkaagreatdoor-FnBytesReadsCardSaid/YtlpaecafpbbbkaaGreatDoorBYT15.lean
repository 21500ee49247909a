/- The reference's reader of well known binary: counts and rows of numbers. The reference's reader of well known binary: a geometry whose head is none. -/
import Derived.Test.YtlpaecafpbbbkaaGreatDoorBYT13
import Derived.Test.YtlpaecafpbbbkaaGreatDoorBYT14
set_option linter.unusedVariables false
set_option linter.unusedSimpArgs false
set_option maxRecDepth 100000
set_option maxHeartbeats 24000000
namespace Go.Proofs.YtlpaecafpbbbkaaGreatDoor
section
open Go.RowKit
def CntPost (V W:World) (rb:Nat) (any:Bool) (R:Rd Nat) (e:Ending) (w':World):Prop:=W.grownBy w' (some rb)∧match R with
  | .ok n l=>e=.returned (.int .i64 n)∧RS V w' rb l any false false
  | .bad g=>e=.returned (.int .i64 0)∧∃ l,RS V w' rb l any true g
theorem count_any (V W:World) (rb:Nat) (any big:Bool) (l:List UInt8) (h:RS V W rb l any false false):Calls Tryz.prog 86 #[.pointer (some ⟨rb,0,none⟩),.bool big] W (CntPost V W rb any (rdC big l)):=by
  by_cases h4:l.length<4
  · have HU:=Lib.hid (uint_bad V W rb 4 any false false big l (.inr h4) h)
    have hR:rdC big l=.bad false:=by unfold rdC rdN;rw [if_pos h4];rfl
    rw [hR]
    clear h h4 hR
    go_enter Tryz.func86,Tryz.ntmps86
    go_wp2_with (first
      | (go_at_call 84;refine HU.out.mono ?_;rintro e w1 ⟨rfl,hr1,hg1⟩))
    go_ret
    exact ⟨hg1,rfl,_,hr1⟩
  · have HU:=Lib.hid (uint_ok V W rb 4 any false big l (by omega) (by omega) h)
    have hR:rdC big l=if 4096<numL big (l.take 4) then .bad true else .ok (numL big (l.take 4)) (l.drop 4):=by unfold rdC rdN;rw [if_neg h4];rfl
    have hlt:numL big (l.take 4)<4294967296:=by
      have:=numL_lt big (l.take 4) 4 (by rw [List.length_take];omega)
      have e:256 ^ 4=4294967296:=by decide
      omega
    rw [hR]
    generalize numL big (l.take 4)=c at HU hlt ⊢
    by_cases hc:4096<c
    · rw [if_pos hc]
      have hci:(4096:Int)<(c:Int):=by omega
      clear h h4 hR hc
      go_enter Tryz.func86,Tryz.ntmps86
      go_wp2_with (first
        | (go_at_call 84;refine HU.out.mono ?_;rintro e w1 ⟨rfl,hr1,hg1⟩;have c2:=hr1.c2;have c3:=hr1.c3;have f2:=hr1.fz 2;have f3:=hr1.fz 3;have HT:=Lib.hid hr1.tooBig;clear hr1))
      go_ret
      exact ⟨gt_trans hg1 HT.out.2 (.inl rfl),rfl,_,HT.out.1⟩
    · rw [if_neg hc]
      have hci:¬ (4096:Int)<(c:Int):=by omega
      clear h h4 hR hc
      go_enter Tryz.func86,Tryz.ntmps86
      go_wp2_with (first
        | (go_at_call 84;refine HU.out.mono ?_;rintro e w1 ⟨rfl,hr1,hg1⟩;have HR:=Lib.hid hr1;clear hr1))
      go_ret
      exact ⟨hg1,rfl,HR.out⟩
def fIn (big:Bool) (l:List UInt8) (i:Nat):Nat:=if 8*i+8≤l.length then numL big ((l.drop (8*i)).take 8) else 0
theorem fIn_lt (big:Bool) (l:List UInt8) (i:Nat):fIn big l i<18446744073709551616:=by
  unfold fIn
  split
  · exact numL_lt8 _ _
  · exact Nat.zero_lt_succ _
theorem fIn_eq (big:Bool) (n:Nat) (l:List UInt8) (h:8*n≤l.length) (i:Nat) (hi:i<n):fIn big l i=fOf (numsOf big n l) i:=by
  rw [fOf_at big n l i hi]
  unfold fIn
  rw [if_pos (by omega)]
def NumPost (V W:World) (rb:Nat) (any big:Bool) (n:Nat) (l:List UInt8) (e:Ending) (w':World):Prop:=W.grownBy w' (some rb)∧∃ p m c,e=.returned (.slice p m c)∧m≤c∧c≤maxLen∧(p=none→c=0)∧FVal w' p m (fIn big l)∧(∀ a,p=some a→W.heap.size≤a.block∧a.block<w'.heap.size) ∧
  (8*n≤l.length∧m=n∧RS V w' rb (l.drop (8*n)) any false false∨l.length<8*n∧8*m≤l.length+8∧∃ l',RS V w' rb l' any true false)
theorem nums_bad (V W:World) (rb n:Nat) (any big g:Bool) (l:List UInt8) (h:RS V W rb l any true g):Calls Tryz.prog 85 #[.pointer (some ⟨rb,0,none⟩),.int .i64 n,.bool big] W fun e w'=>e=.returned (.slice none 0 0)∧w'=W:=by
  have c2:=h.c2
  clear h
  by_cases h0:0<n
  · have h0i:(0:Int)<(n:Int):=by omega
    clear h0
    go_enter Tryz.func85,Tryz.ntmps85
    go_wp2_with fail
    go_loopw [7,8] (fun x i wr=>x=.slice none 0 0∧i=.int .i64 0∧wr=W) (fun _ _ _=>1)
    case atStart=>exact ⟨rfl,rfl,rfl⟩
    case round =>
      obtain ⟨rfl,rfl,rfl⟩:=hrel
      go_wp2_with fail
      go_wp2_with fail
      go_ret
      exact ⟨rfl,rfl⟩
  · have h0i:¬ (0:Int)<(n:Int):=by omega
    clear h0
    go_enter Tryz.func85,Tryz.ntmps85
    go_wp2_with fail
    go_loopw [7,8] (fun x i wr=>x=.slice none 0 0∧i=.int .i64 0∧wr=W) (fun _ _ _=>1)
    case atStart=>exact ⟨rfl,rfl,rfl⟩
    case round =>
      obtain ⟨rfl,rfl,rfl⟩:=hrel
      go_wp2_with fail
      go_wp2_with fail
      go_ret
      exact ⟨rfl,rfl⟩
theorem nums_any (V W:World) (rb n:Nat) (any big:Bool) (l:List UInt8) (hn:n≤20000) (h:RS V W rb l any false false):Calls Tryz.prog 85 #[.pointer (some ⟨rb,0,none⟩),.int .i64 n,.bool big] W (NumPost V W rb any big n l):=by
  have hrb:=h.lt
  have hVW:V.heap.size≤W.heap.size:=h.g.size
  have HVW:=Lib.hid hVW
  have HR0:=Lib.hid h
  have HOk:=Lib.hid (fun w k (hk:8*k+8≤l.length) (hr:RS V w rb (l.drop (8*k)) any false false)=>(uint_ok V w rb 8 any false big (l.drop (8*k)) (by omega) (by rw [List.length_drop];omega) hr))
  have HBad:=Lib.hid (fun w k (hk:l.length<8*k+8) (hr:RS V w rb (l.drop (8*k)) any false false)=>(uint_bad V w rb 8 any false false big (l.drop (8*k)) (.inr (by rw [List.length_drop];omega)) hr))
  have HF1:Hid (∀ k,8*k+8≤l.length→fIn big l k=numL big ((l.drop (8*k)).take 8)):=fun k hk=>by unfold fIn;rw [if_pos hk]
  have HF2:Hid (∀ k,l.length<8*k+8→fIn big l k=0):=fun k hk=>by unfold fIn;rw [if_neg (by omega)]
  have HDr:Hid (∀ k,(l.drop (8*k)).drop 8=l.drop (8*(k+1))):=fun k=>by rw [List.drop_drop];congr 1
  have HLt:=Lib.hid (fIn_lt big l)
  obtain ⟨m,hm⟩ : ∃ m,m=l.length:=⟨_,rfl⟩
  rw [←hm] at HOk HBad HF1 HF2
  have HM:=Lib.hid hm
  have hff:∀ (w:World) (n:Nat),(callFunc 153 #[.int .u64 n]).run Tryz.prog w=.ok (.value (.float .f64 n)) w:=fun w n=>by kernel_rfl
  have hff0:∀ (w:World),(callFunc 153 #[.int .u64 0]).run Tryz.prog w=.ok (.value (.float .f64 0)) w:=fun w=>by kernel_rfl
  clear h hm hVW
  go_enter Tryz.func85,Tryz.ntmps85
  go_wp2_with fail
  go_loopw [7,8] (fun x i wr=>∃ k:Nat,k≤n∧i=.int .i64 k∧W.grownBy wr (some rb)∧wr.ownsRow W.heap.size 26 1 x k (flC (fIn big l) k)∧(8*k≤m∧RS V wr rb (l.drop (8*k)) any false false∨m<8*k∧8*k≤m+8∧∃ l',RS V wr rb l' any true false)) (fun _ i _=>n - (intOf i).toNat)
  case atStart=>exact ⟨0,by omega,rfl,gt_refl _ _,World.ownsRow_nil _ _ _ _,.inl ⟨by omega,by simpa using HR0.out⟩⟩
  case round =>
    obtain ⟨k,hk,rfl,Gr,hown,hst⟩:=hrel
    rename World=>wr
    obtain ⟨px,cx,rfl,_⟩:=own_form hown
    have HRow:Hid (∀ (wa wb:World) (gg cap:Nat) (w:Nat),wr.grownBy wa (some rb)→wa.grownBy wb (Value.slice px k cx).ownBlock→W.grownBy wb (some rb)):=fun wa wb gg cap w g g'=>by
      refine gt_trans (gt_trans Gr g (.inl rfl)) g' ?_
      cases hx:(Value.slice px k cx).ownBlock with
      | none=>exact .inr (.inl rfl)
      | some b=>exact .inr (.inr ⟨b,rfl,(hown.lt b hx).1⟩)
    have HKeep:Hid (∀ (wa wb:World) (l':List UInt8) (bd:Bool),RS V wa rb l' any bd false→∀ O,(wa.alloc O).grownBy wb (Value.slice px k cx).ownBlock→RS V wb rb l' any bd false):=fun wa wb l' bd hr O g=>(hr.kept (World.grownBy_alloc wa O none)).keptR g (fun b e=>Nat.le_trans HVW.out (hown.lt b e).1)
    have HOwn:Hid (∀ wa O,wr.grownBy wa (some rb)→(wa.alloc O).ownsRow W.heap.size 26 1 (.slice px k cx) k (flC (fIn big l) k)):=fun wa O g=>(hown.kept g (by
      cases hx:(Value.slice px k cx).ownBlock with
      | none=>exact .inl rfl
      | some b=>exact .inr fun e=>by injection e with e;have:=(hown.lt b hx).1;omega)).kept (World.grownBy_alloc wa O none) (by cases (Value.slice px k cx).ownBlock <;> simp)
    have hWr:=Gr.size
    have hEnd:Hid (∀ q:(8*n≤m∧k=n∧RS V wr rb (l.drop (8*n)) any false false∨m<8*n∧8*k≤m+8∧∃ l',RS V wr rb l' any true false),NumPost V W rb any big n l (.returned (.slice px k cx)) wr):=fun q=>by
      obtain ⟨q',c',e,h1,h2,h3,h4⟩:=own_form hown
      injection e with e1 e2 e3
      subst e1 e3
      obtain ⟨s1,s2⟩:=own_at hown
      rw [HM.out] at q
      exact ⟨Gr,_,_,_,rfl,h1,h2,h3,⟨s1,fun a ha j hj=>s2 a ha j _ (flC_at _ k j hj),HLt.out⟩,fun a ha=>hown.lt a.block (h4 a ha),q⟩
    clear hown
    rcases hst with ⟨hkm,hr⟩ | ⟨hkm,hkm2,l',hr⟩
    · have c2:=hr.c2
      by_cases hkn:k<n
      · by_cases h8:8*k+8≤m
        · have HU:=Lib.hid (HOk.out wr k h8 hr)
          have hF:=Lib.hid (HF1.out k h8)
          have hD:=Lib.hid (HDr.out k)
          clear hr
          go_wp2_with (first
            | (go_at_call 84;refine HU.out.mono ?_;rintro e w2 ⟨rfl,hr2,hg2⟩;have HR2:=Lib.hid hr2;clear hr2;have hs2:=hg2.size)
            | (at_builtin;go_loud (refine app_cells2 (size:=1) (n:=k) (xs:=flC (fIn big l) k) (base:=W.heap.size) rfl _ _ _ rfl Tryz.underlying30 (.float .f64 0) 8 infoFlt rfl (Nat.succ_pos 0) rfl rfl (by simp) _ (HOwn.out _ _ hg2) rfl (by simp [Value.oneCell']) (Nat.succ_pos 0) (by simp;omega) (by omega) (by omega) ?_;intro gg cap w3 hown3 hg3 hat3;have HO3:=Lib.hid hown3;have HR3:=Lib.hid (HKeep.out _ _ _ _ HR2.out _ hg3);have HG3:=Lib.hid (HRow.out _ _ 0 0 0 (gt_trans hg2 (World.grownBy_alloc _ _ none) (.inr (.inl rfl))) hg3);clear hown3 hat3 hg3)))
          have hO:=HO3.out
          have e9:flC (fIn big l) (k+1)=flC (fIn big l) k++[.float .f64 (numL big ((l.drop (8*k)).take 8))]:=by rw [flC_1,hF.out]
          refine ⟨⟨k+1,by omega,by go_num,HG3.out,by rw [e9];exact hO,.inl ⟨by omega,?_⟩⟩,by simp [intOf];omega⟩
          rw [←hD.out];exact HR3.out
        · have HU:=Lib.hid (HBad.out wr k (by omega) hr)
          have hF:=Lib.hid (HF2.out k (by omega))
          clear hr
          go_wp2_with (first
            | (go_at_call 84;refine HU.out.mono ?_;rintro e w2 ⟨rfl,hr2,hg2⟩;have HR2:=Lib.hid hr2;clear hr2;have hs2:=hg2.size)
            | (at_builtin;go_loud (refine app_cells2 (size:=1) (n:=k) (xs:=flC (fIn big l) k) (base:=W.heap.size) rfl _ _ _ rfl Tryz.underlying30 (.float .f64 0) 8 infoFlt rfl (Nat.succ_pos 0) rfl rfl (by simp) _ (HOwn.out _ _ hg2) rfl (by simp [Value.oneCell']) (Nat.succ_pos 0) (by simp;omega) (by omega) (by omega) ?_;intro gg cap w3 hown3 hg3 hat3;have HO3:=Lib.hid hown3;have HR3:=Lib.hid (HKeep.out _ _ _ _ HR2.out _ hg3);have HG3:=Lib.hid (HRow.out _ _ 0 0 0 (gt_trans hg2 (World.grownBy_alloc _ _ none) (.inr (.inl rfl))) hg3);clear hown3 hat3 hg3)))
          have hO:=HO3.out
          have e9:flC (fIn big l) (k+1)=flC (fIn big l) k++[.float .f64 0]:=by rw [flC_1,hF.out]
          exact ⟨⟨k+1,by omega,by go_num,HG3.out,by rw [e9];exact hO,.inr ⟨by omega,by omega,_,HR3.out⟩⟩,by simp [intOf];omega⟩
      · obtain rfl:k=n:=by omega
        have HE:=Lib.hid (hEnd.out (.inl ⟨hkm,rfl,hr⟩))
        clear hr hEnd
        go_wp2_with fail
        go_wp2_with fail
        go_ret
        exact HE.out
    · have c2:=hr.c2
      have HE:=Lib.hid (hEnd.out (.inr ⟨by omega,hkm2,l',hr⟩))
      clear hr hEnd
      by_cases hkn:k<n
      · go_wp2_with fail
        go_wp2_with fail
        go_ret
        exact HE.out
      · obtain rfl:k=n:=by omega
        go_wp2_with fail
        go_wp2_with fail
        go_ret
        exact HE.out
end
section
open Go.RowKit
def GPost (h:Nat) (V W:World) (rb:Nat) (any:Bool) (R:Rd Raw) (len:Nat) (e:Ending) (w':World):Prop:=W.grownBy w' (some rb)∧∃ v t,e=.returned v∧KD (Fr W w') h w' v t∧match R with
  | .ok t0 l=>t=t0∧RS V w' rb l any false false
  | .bad g=>4*wt t≤len+4∧∃ l',RS V w' rb l' any true g
def zG:Value:=.agg #[.int .i64 0,.int .i64 0,.slice none 0 0,.slice none 0 0]
theorem KD.zero (B:Nat→Prop) (h:Nat) (W:World):KD B (h+1) W zG (.mk 0 0 0 (fun _=>0) []) :=
  ⟨none,0,none,0,rfl,⟨fun h=>absurd h (by omega),(fun a ha=>by cases ha),fun _=>Nat.zero_lt_succ _⟩,Nat.le_refl _,by decide,fun _=>rfl,Nat.le_refl _,by decide,fun _=>rfl,(fun a ha=>by cases ha),(fun a ha=>by cases ha),fun a ha=>by cases ha⟩
theorem GPost.none {h:Nat} {V W w':World} {rb:Nat} {any g:Bool} {len:Nat} {l':List UInt8} (hg:W.grownBy w' (some rb)) (hr:RS V w' rb l' any true g):GPost (h+1) V W rb any (.bad g) len (.returned zG) w' :=
  ⟨hg,zG,_,rfl,KD.zero _ h w',by unfold wt wts;show 4*(1+0+0)≤len+4;omega,l',hr⟩
def KdOk (kk kind:Int) (any:Bool):Prop:=(¬ (0:Int)≤kind)∨kind=kk∨((0:Int)≤kind∧¬ kk=kind∧¬ kind=kk∧(kk==kind)=false∧any=true)
theorem kd_or (kk kind:Int) (any:Bool):KdOk kk kind any∨((0:Int)≤kind∧¬ kk=kind∧¬ kind=kk∧(kk==kind)=false∧any=false):=by
  unfold KdOk
  by_cases h0:(0:Int)≤kind
  · by_cases h1:kind=kk
    · exact .inl (.inr (.inl h1))
    · have h2:¬ kk=kind:=fun e=>h1 e.symm
      have h3:(kk==kind)=false:=by rw [beq_eq_false_iff_ne];exact h2
      cases any
      · exact .inr ⟨h0,h2,h1,h3,rfl⟩
      · exact .inl (.inr (.inr ⟨h0,h2,h1,h3,rfl⟩))
  · exact .inl (.inl h0)
theorem u1_bad (V W:World) (rb:Nat) (any bad great big:Bool) (l:List UInt8) (hb:bad=true∨l.length<1) (h:RS V W rb l any bad great):Calls Tryz.prog 84 #[.pointer (some ⟨rb,0,none⟩),.int .i64 1,.bool big] W fun e w'=>e=.returned (.int .u64 0)∧RS V w' rb l any true great∧W.grownBy w' (some rb):=uint_bad V W rb 1 any bad great big l hb h
theorem u1_ok (V W:World) (rb:Nat) (any great big:Bool) (l:List UInt8) (hl:1≤l.length) (h:RS V W rb l any false great):Calls Tryz.prog 84 #[.pointer (some ⟨rb,0,none⟩),.int .i64 1,.bool big] W fun e w'=>e=.returned (.int .u64 (numL big (l.take 1)))∧RS V w' rb (l.drop 1) any false great∧W.grownBy w' (some rb):=uint_ok V W rb 1 any great big l (by omega) hl h
theorem u4_bad (V W:World) (rb:Nat) (any bad great big:Bool) (l:List UInt8) (hb:bad=true∨l.length<4) (h:RS V W rb l any bad great):Calls Tryz.prog 84 #[.pointer (some ⟨rb,0,none⟩),.int .i64 4,.bool big] W fun e w'=>e=.returned (.int .u64 0)∧RS V w' rb l any true great∧W.grownBy w' (some rb):=uint_bad V W rb 4 any bad great big l hb h
theorem u4_ok (V W:World) (rb:Nat) (any great big:Bool) (l:List UInt8) (hl:4≤l.length) (h:RS V W rb l any false great):Calls Tryz.prog 84 #[.pointer (some ⟨rb,0,none⟩),.int .i64 4,.bool big] W fun e w'=>e=.returned (.int .u64 (numL big (l.take 4)))∧RS V w' rb (l.drop 4) any false great∧W.grownBy w' (some rb):=uint_ok V W rb 4 any great big l (by omega) hl h
structure RW (V W w:World) (rb:Nat) (l:List UInt8) (any bad great:Bool):Prop where
  g:W.grownBy w (some rb)
  r:RS V w rb l any bad great
theorem RW.fail {V W w:World} {rb:Nat} {l:List UInt8} {any bad great:Bool} (h:RW V W w rb l any bad great):RW V W (w.setCell ⟨rb,2,none⟩ (.bool true)) rb l any true great:=⟨gt_trans h.g h.r.fail.2 (.inl rfl),h.r.fail.1⟩
theorem RW.put {V W w:World} {rb:Nat} {l:List UInt8} {any bad great:Bool} (h:RW V W w rb l any bad great) (q:Addr) (y:Value) (hV:V.heap.size≤W.heap.size) (hq:W.heap.size≤q.block):RW V W (w.setCell q y) rb l any bad great:=⟨gt_set_r h.g _ _ hq,h.r.put _ _ (Nat.le_trans hV hq)⟩
theorem RW.kept {V W w w':World} {rb:Nat} {l:List UInt8} {any bad great:Bool} (h:RW V W w rb l any bad great) (g:w.grownBy w' none):RW V W w' rb l any bad great:=⟨gt_trans h.g g (.inr (.inl rfl)),h.r.kept g⟩
theorem geom_box (W:World) (rb:Nat) (hrb:rb<W.heap.size) (w:World) (g:(W.alloc (.cells #[.int .i64 0,.int .i64 0,.slice none 0 0,.slice none 0 0] 33)).grownBy w (some rb)):(w.cell? ⟨W.heap.size,0,none⟩=some (.int .i64 0)∧w.cell? ⟨W.heap.size,1,none⟩=some (.int .i64 0)∧w.cell? ⟨W.heap.size,2,none⟩=some (.slice none 0 0)∧w.cell? ⟨W.heap.size,3,none⟩=some (.slice none 0 0))∧(∀ j,w.frozen? ⟨W.heap.size,j,none⟩=false)∧W.heap.size<w.heap.size∧W.grownBy w (some rb):=by
  have hn:some W.heap.size≠some rb:=fun e=>by injection e with e;omega
  have hb:=g.block W.heap.size (by simp) hn
  have hs:=g.size
  simp at hs
  exact ⟨⟨g.cell (by simp) hn,g.cell (by simp) hn,g.cell (by simp) hn,g.cell (by simp) hn⟩,fun j=>by rw [World.frozen?_of_block hb];simp,by omega,gt_trans (gt_trans (gt_refl W (some rb)) (World.grownBy_alloc W _ none) (.inr (.inl rfl))) g (.inl rfl)⟩
end
end Go.Proofs.YtlpaecafpbbbkaaGreatDoor
