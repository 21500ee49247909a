/- The reference's writer of well known binary: a geometry. -/
import Derived.Test.YtlpaecafpbbbkaaGreatDoorBYT42
import Derived.Test.YtlpaecafpbbbkaaGreatDoorBYT43
set_option linter.unusedVariables false
set_option linter.unusedSimpArgs false
set_option maxRecDepth 100000
set_option maxHeartbeats 24000000
namespace Go.Proofs.YtlpaecafpbbbkaaGreatDoor
section
open Go.RowKit
theorem wrTs_append (b:Bool):∀ (x y:List Raw),wrTs b (x++y)=wrTs b x++wrTs b y
  | [],y=>by simp [wrTs]
  | t::x,y=>by simp only [List.cons_append,wrTs,wrTs_append b x y,List.append_assoc]
theorem wrTs_take (b:Bool) (kids:List Raw) (j:Nat) (t:Raw) (h:kids[j]?=some t):wrTs b (kids.take (j+1))=wrTs b (kids.take j)++(if b=true then bLine t else wrT t):=by
  obtain ⟨hlt,rfl⟩:=List.getElem?_eq_some_iff.1 h
  rw [List.take_succ_eq_append_getElem hlt,wrTs_append]
  simp [wrTs]
theorem wts_take_le (kids:List Raw) (j:Nat):wts (kids.take j)≤wts kids:=by
  have h:=wts_append (kids.take j) (kids.drop j)
  rw [List.take_append_drop] at h
  omega
theorem wkbCode_0 (w:World):Calls Tryz.prog 162 #[.int .i64 0] w fun e w'=>e=.returned (.int .i64 7)∧w'=w:=by
  go_enter Tryz.func162,Tryz.ntmps162
  go_wp2_with fail
  go_ret
  exact ⟨rfl,rfl⟩
theorem wkbCode_1 (w:World):Calls Tryz.prog 162 #[.int .i64 1] w fun e w'=>e=.returned (.int .i64 1)∧w'=w:=by
  go_enter Tryz.func162,Tryz.ntmps162
  go_wp2_with fail
  go_ret
  exact ⟨rfl,rfl⟩
theorem wkbCode_2 (w:World):Calls Tryz.prog 162 #[.int .i64 2] w fun e w'=>e=.returned (.int .i64 2)∧w'=w:=by
  go_enter Tryz.func162,Tryz.ntmps162
  go_wp2_with fail
  go_ret
  exact ⟨rfl,rfl⟩
theorem wkbCode_3 (w:World):Calls Tryz.prog 162 #[.int .i64 3] w fun e w'=>e=.returned (.int .i64 3)∧w'=w:=by
  go_enter Tryz.func162,Tryz.ntmps162
  go_wp2_with fail
  go_ret
  exact ⟨rfl,rfl⟩
theorem wkbCode_4 (w:World):Calls Tryz.prog 162 #[.int .i64 4] w fun e w'=>e=.returned (.int .i64 4)∧w'=w:=by
  go_enter Tryz.func162,Tryz.ntmps162
  go_wp2_with fail
  go_ret
  exact ⟨rfl,rfl⟩
theorem wkbCode_5 (w:World):Calls Tryz.prog 162 #[.int .i64 5] w fun e w'=>e=.returned (.int .i64 5)∧w'=w:=by
  go_enter Tryz.func162,Tryz.ntmps162
  go_wp2_with fail
  go_ret
  exact ⟨rfl,rfl⟩
theorem wkbCode_6 (w:World):Calls Tryz.prog 162 #[.int .i64 6] w fun e w'=>e=.returned (.int .i64 6)∧w'=w:=by
  go_enter Tryz.func162,Tryz.ntmps162
  go_wp2_with fail
  go_ret
  exact ⟨rfl,rfl⟩
theorem wpt0 (V W:World) (rb:Nat) (x:Value) (l L:List UInt8) (dm:Nat) (hd:dm<4) (p q:Option Addr) (c m c2:Nat) (hL:L=l++[1]++Lib.leBytes 4 (1+1000*dm)) (hl:L.length+100≤1000000) (h:WS V W rb x l) :
    Calls Tryz.prog 89 #[.pointer (some ⟨rb,0,none⟩),.agg #[.int .i64 1,.int .i64 dm,.slice p 0 c,.slice q m c2]] W fun e w'=>e=.returned (.tuple #[])∧∃ x',WT V W w' rb x x' (L++numsW (widN dm) (fun _=>emptyN)):=by
  have hlen:l.length≤1000000:=by rw [hL] at hl;simp only [List.length_append,leB_len] at hl;omega
  have G1:=World.grownBy_alloc W (.cells #[.int .i64 1,.int .i64 dm,.slice p 0 c,.slice q m c2] 33) none
  have hs1:=h.kept G1
  have H1:=Lib.hid hs1
  have H0:=Lib.hid h
  have hnew:=h.new (Nat.le_refl _)
  have c0:=h.c0
  have c1:=h.c1
  have hrb:=h.lt
  have HB:Hid (∀ w x1 l1,WT V (W.alloc (.cells #[.int .i64 1,.int .i64 dm,.slice p 0 c,.slice q m c2] 33)) w rb x x1 l1→(w.cell? ⟨W.heap.size,0,none⟩=some (.int .i64 1)∧w.cell? ⟨W.heap.size,1,none⟩=some (.int .i64 dm)∧w.cell? ⟨W.heap.size,2,none⟩=some (.slice p 0 c)∧w.cell? ⟨W.heap.size,3,none⟩=some (.slice q m c2))∧W.heap.size<w.heap.size):=fun w x1 l1 I=>⟨⟨I.cell hnew.1 hnew.2 (by simp),I.cell hnew.1 hnew.2 (by simp),I.cell hnew.1 hnew.2 (by simp),I.cell hnew.1 hnew.2 (by simp)⟩,by have:=I.t.size;simp at this;omega⟩
  obtain ⟨px,cx,rfl,_⟩:=own_form h.own
  obtain ⟨M,hM⟩ : ∃ M,M=l.length:=⟨_,rfl⟩
  rw [←hM] at c0
  have hM6:M≤1000000:=by omega
  have HOw:Hid (∀ w,(W.alloc (.cells #[.int .i64 1,.int .i64 dm,.slice p 0 c,.slice q m c2] 33)).grownBy w none→w.ownsRow V.heap.size 5 1 (.slice px M cx) M (Bs l)):=fun w g=>by
    have hh:=(H1.out.kept g).own
    rw [←hM] at hh
    exact hh
  have HX:Hid (∀ w6 w7,(W.alloc (.cells #[.int .i64 1,.int .i64 dm,.slice p 0 c,.slice q m c2] 33)).grownBy w6 none→w6.grownBy w7 (Value.slice px M cx).ownBlock→w7.cell? ⟨rb,0,none⟩=some (.slice px M cx)∧w7.frozen? ⟨rb,0,none⟩=false∧rb<w7.heap.size):=fun w6 w7 g g'=>by
    have hs:=H1.out.kept g
    have hne:some rb≠(Value.slice px M cx).ownBlock:=fun e=>H1.out.ne (by rw [←hM,←e])
    have c0:=hs.c0
    rw [←hM] at c0
    have:=g'.size
    have:=hs.lt
    exact ⟨g'.cell c0 hne,by rw [World.frozen?_of_block (g'.block rb (by omega) hne)];exact hs.fz 0,by omega⟩
  have HAp:Hid (∀ w6 w7 gg cap,(W.alloc (.cells #[.int .i64 1,.int .i64 dm,.slice p 0 c,.slice q m c2] 33)).grownBy w6 none→w7.ownsRow V.heap.size 5 1 (.slice (some ⟨gg,0,none⟩) (M+1) cap) (M+1) (Bs l++[.int .u8 1])→w6.grownBy w7 (Value.slice px M cx).ownBlock→((Value.slice px M cx).ownBlock=some gg∨gg=w6.heap.size)→WT V (W.alloc (.cells #[.int .i64 1,.int .i64 dm,.slice p 0 c,.slice q m c2] 33)) (w7.setCell ⟨rb,0,none⟩ (.slice (some ⟨gg,0,none⟩) (M+1) cap)) rb (.slice px M cx) (.slice (some ⟨gg,0,none⟩) (M+1) cap) (l++[1])):=fun w6 w7 gg cap g1 hown hg hat=>by
    have hh:=H1.out.app g1 (m:=1) (gg:=gg) (cap:=cap) (cs:=[1]) (w2:=w7) (by rw [←hM];exact hown) rfl (by rw [←hM];exact hg) (by rw [←hM];exact hat)
    rw [←hM] at hh
    exact hh
  have hbV:V.heap.size≤W.heap.size:=h.g.size
  have hz0:¬ W.heap.size=rb:=hnew.1
  have hz1:¬ rb=W.heap.size:=fun e=>hnew.1 e.symm
  rw [←hM] at HB
  have H00:=H0.out
  rw [←hM] at H00
  have H0:=Lib.hid H00
  have HWc:=Lib.hid (fun w=>wkbCode_1 w)
  obtain ⟨T,hT⟩ : ∃ T,T=1000*dm:=⟨_,rfl⟩
  obtain ⟨C,hC⟩ : ∃ C,C=1+T:=⟨_,rfl⟩
  have hcT:IntKind.i64.wrap (1000*(dm:Int))=(T:Int):=by rw [IntKind.wrap_i64];omega
  have hcS:IntKind.i64.wrap (1+(T:Int))=(C:Int):=by rw [IntKind.wrap_i64];omega
  have hcU:IntKind.u64.wrap (C:Int)=(C:Int):=by rw [IntKind.wrap_u64];omega
  have hC6:C<18446744073709551616:=by omega
  rw [←hT,←hC] at hL
  have HU:=Lib.hid (fun w x1 (hs:WS V w rb x1 (l++[1]))=>wuint4 V w rb C x1 (l++[1]) hC6 (by rw [List.length_append];simp;omega) hs)
  rw [←hL] at HU
  have HM:=Lib.hid hM
  have hfz:(W.alloc (.cells #[.int .i64 1,.int .i64 dm,.slice p 0 c,.slice q m c2] 33)).frozen? ⟨rb,0,none⟩=false:=hs1.fz 0
  clear h hnew H00 hT hC hL hM hlen hs1
  have hw2:=widN_le dm hd
  have HWi:=Lib.hid (fun w=>Width_any dm hd w)
  have HN9:=Lib.hid (fun (w:World) j x1 (hj:j≤4) (hs:WS V w rb x1 (L++numsW j (fun _=>emptyN)))=>wuint8 V w rb emptyN x1 (L++numsW j (fun _=>emptyN)) (by decide) (by rw [List.length_append,numsW_len];omega) hs)
  have he9:((emptyN:Nat):Int)=9221120237041090561:=rfl
  rw [he9] at HN9
  clear he9
  obtain ⟨wd,hwd⟩ : ∃ wd,wd=widN dm:=⟨_,rfl⟩
  rw [←hwd] at HWi hw2 ⊢
  clear hwd
  go_enter Tryz.func89,Tryz.ntmps89
  go_wp2_with (first
    | (at_builtin;go_loud (refine app_cells2 (size:=1) (n:=M) (xs:=Bs l) (base:=V.heap.size) rfl _ _ _ rfl Tryz.underlying39 (.int .u8 0) 1 infoW8 rfl (Nat.succ_pos 0) rfl rfl (by simp) _ (HOw.out _ (World.grownBy_alloc _ _ _)) rfl (by simp [Value.oneCell']) (Nat.succ_pos 0) (by simp;omega) (by omega) (by omega) ?_;intro gg cap7 w7 hown7 hg7 hat7;obtain ⟨u0,uf,uz⟩:=HX.out _ _ (World.grownBy_alloc _ _ _) hg7;have HA:=Lib.hid (HAp.out _ _ _ _ (World.grownBy_alloc _ _ _) hown7 hg7 hat7);obtain ⟨⟨e0,e1,e2,e3⟩,ez⟩:=HB.out _ _ _ HA.out;clear hown7 hg7 hat7)))
  go_region_law (first
    | (rw [if_pos (by simp [Region.wanted])];go_simp;go_at_call 162;go_loud (refine (HWc.out _).mono ?_;rintro e wx ⟨rfl,rfl⟩))
    | (rw [if_pos (by simp [Region.wanted])];go_simp;go_at_call 161;go_loud (refine (HU.out _ _ (HA.out.s.kept (gt_drew_r (gt_refl _ _)))).mono ?_;rintro e w2 ⟨rfl,x2,hx2⟩;have HX2:=Lib.hid (HA.out.trans (WT.ahead HA.out.s (gt_drew_r (gt_refl _ _)) hx2));obtain ⟨⟨g0,g1,g2,g3⟩,gz⟩:=HB.out _ _ _ HX2.out;clear hx2)))
  all_goals
    go_wp2_with (first
      | (go_at_call 42;refine (HWi.out _).mono ?_;rintro e wx ⟨rfl,rfl⟩))
    go_loopw [88] (fun i wr=>∃ (j:Nat) (x3:Value),j≤wd∧i=.int .i64 j∧WT V (W.alloc (.cells #[.int .i64 1,.int .i64 dm,.slice p 0 c,.slice q m c2] 33)) wr rb (.slice px M cx) x3 (L++numsW j (fun _=>emptyN))) (fun i _=>wd - (intOf i).toNat)
    case atStart=>exact ⟨0,_,by omega,rfl,by simpa [numsW] using HX2.out⟩
    case round =>
      obtain ⟨j,x3,hj,rfl,I⟩:=hrel
      rename World=>wr
      have HI:=Lib.hid I
      have HJ:=Lib.hid (HN9.out wr j x3 (by omega) I.s)
      have HSn:=Lib.hid (numsW_snoc j (fun _=>emptyN))
      clear I
      by_cases hjw:j<wd
      · go_wp2_with (first
          | (go_at_call 161;refine HJ.out.mono ?_;rintro e w4 ⟨rfl,x4,hx4⟩;have HX4:=Lib.hid hx4;clear hx4))
        exact ⟨⟨j+1,_,by omega,by go_num,by rw [HSn.out,←List.append_assoc];exact HI.out.trans HX4.out⟩,by simp [intOf];omega⟩
      · obtain rfl:j=wd:=by omega
        go_wp2_with fail
        go_wp2_with fail
        go_returns
        exact ⟨rfl,_,by rw [←HM.out];exact WT.ahead H0.out G1 HI.out⟩
theorem wpt1 (V W:World) (rb:Nat) (x:Value) (l L:List UInt8) (dm:Nat) (hd:dm<4) (p q:Option Addr) (n c m c2:Nat) (f:Nat→Nat) (hL:L=l++[1]++Lib.leBytes 4 (1+1000*dm)) (hl:L.length+8*n≤1000000) (hn:¬ n=0) (hf:FVal V p n f) (h:WS V W rb x l) :
    Calls Tryz.prog 89 #[.pointer (some ⟨rb,0,none⟩),.agg #[.int .i64 1,.int .i64 dm,.slice p n c,.slice q m c2]] W fun e w'=>e=.returned (.tuple #[])∧∃ x',WT V W w' rb x x' (L++numsW n f):=by
  have hlen:l.length≤1000000:=by rw [hL] at hl;simp only [List.length_append,leB_len] at hl;omega
  have G1:=World.grownBy_alloc W (.cells #[.int .i64 1,.int .i64 dm,.slice p n c,.slice q m c2] 33) none
  have hs1:=h.kept G1
  have H1:=Lib.hid hs1
  have H0:=Lib.hid h
  have hnew:=h.new (Nat.le_refl _)
  have c0:=h.c0
  have c1:=h.c1
  have hrb:=h.lt
  have HB:Hid (∀ w x1 l1,WT V (W.alloc (.cells #[.int .i64 1,.int .i64 dm,.slice p n c,.slice q m c2] 33)) w rb x x1 l1→(w.cell? ⟨W.heap.size,0,none⟩=some (.int .i64 1)∧w.cell? ⟨W.heap.size,1,none⟩=some (.int .i64 dm)∧w.cell? ⟨W.heap.size,2,none⟩=some (.slice p n c)∧w.cell? ⟨W.heap.size,3,none⟩=some (.slice q m c2))∧W.heap.size<w.heap.size):=fun w x1 l1 I=>⟨⟨I.cell hnew.1 hnew.2 (by simp),I.cell hnew.1 hnew.2 (by simp),I.cell hnew.1 hnew.2 (by simp),I.cell hnew.1 hnew.2 (by simp)⟩,by have:=I.t.size;simp at this;omega⟩
  obtain ⟨px,cx,rfl,_⟩:=own_form h.own
  obtain ⟨M,hM⟩ : ∃ M,M=l.length:=⟨_,rfl⟩
  rw [←hM] at c0
  have hM6:M≤1000000:=by omega
  have HOw:Hid (∀ w,(W.alloc (.cells #[.int .i64 1,.int .i64 dm,.slice p n c,.slice q m c2] 33)).grownBy w none→w.ownsRow V.heap.size 5 1 (.slice px M cx) M (Bs l)):=fun w g=>by
    have hh:=(H1.out.kept g).own
    rw [←hM] at hh
    exact hh
  have HX:Hid (∀ w6 w7,(W.alloc (.cells #[.int .i64 1,.int .i64 dm,.slice p n c,.slice q m c2] 33)).grownBy w6 none→w6.grownBy w7 (Value.slice px M cx).ownBlock→w7.cell? ⟨rb,0,none⟩=some (.slice px M cx)∧w7.frozen? ⟨rb,0,none⟩=false∧rb<w7.heap.size):=fun w6 w7 g g'=>by
    have hs:=H1.out.kept g
    have hne:some rb≠(Value.slice px M cx).ownBlock:=fun e=>H1.out.ne (by rw [←hM,←e])
    have c0:=hs.c0
    rw [←hM] at c0
    have:=g'.size
    have:=hs.lt
    exact ⟨g'.cell c0 hne,by rw [World.frozen?_of_block (g'.block rb (by omega) hne)];exact hs.fz 0,by omega⟩
  have HAp:Hid (∀ w6 w7 gg cap,(W.alloc (.cells #[.int .i64 1,.int .i64 dm,.slice p n c,.slice q m c2] 33)).grownBy w6 none→w7.ownsRow V.heap.size 5 1 (.slice (some ⟨gg,0,none⟩) (M+1) cap) (M+1) (Bs l++[.int .u8 1])→w6.grownBy w7 (Value.slice px M cx).ownBlock→((Value.slice px M cx).ownBlock=some gg∨gg=w6.heap.size)→WT V (W.alloc (.cells #[.int .i64 1,.int .i64 dm,.slice p n c,.slice q m c2] 33)) (w7.setCell ⟨rb,0,none⟩ (.slice (some ⟨gg,0,none⟩) (M+1) cap)) rb (.slice px M cx) (.slice (some ⟨gg,0,none⟩) (M+1) cap) (l++[1])):=fun w6 w7 gg cap g1 hown hg hat=>by
    have hh:=H1.out.app g1 (m:=1) (gg:=gg) (cap:=cap) (cs:=[1]) (w2:=w7) (by rw [←hM];exact hown) rfl (by rw [←hM];exact hg) (by rw [←hM];exact hat)
    rw [←hM] at hh
    exact hh
  have hbV:V.heap.size≤W.heap.size:=h.g.size
  have hz0:¬ W.heap.size=rb:=hnew.1
  have hz1:¬ rb=W.heap.size:=fun e=>hnew.1 e.symm
  rw [←hM] at HB
  have H00:=H0.out
  rw [←hM] at H00
  have H0:=Lib.hid H00
  have HWc:=Lib.hid (fun w=>wkbCode_1 w)
  obtain ⟨T,hT⟩ : ∃ T,T=1000*dm:=⟨_,rfl⟩
  obtain ⟨C,hC⟩ : ∃ C,C=1+T:=⟨_,rfl⟩
  have hcT:IntKind.i64.wrap (1000*(dm:Int))=(T:Int):=by rw [IntKind.wrap_i64];omega
  have hcS:IntKind.i64.wrap (1+(T:Int))=(C:Int):=by rw [IntKind.wrap_i64];omega
  have hcU:IntKind.u64.wrap (C:Int)=(C:Int):=by rw [IntKind.wrap_u64];omega
  have hC6:C<18446744073709551616:=by omega
  rw [←hT,←hC] at hL
  have HU:=Lib.hid (fun w x1 (hs:WS V w rb x1 (l++[1]))=>wuint4 V w rb C x1 (l++[1]) hC6 (by rw [List.length_append];simp;omega) hs)
  rw [←hL] at HU
  have HM:=Lib.hid hM
  have hfz:(W.alloc (.cells #[.int .i64 1,.int .i64 dm,.slice p n c,.slice q m c2] 33)).frozen? ⟨rb,0,none⟩=false:=hs1.fz 0
  clear h hnew H00 hT hC hL hM hlen hs1
  have hni:¬ ((n:Int)=0):=by omega
  have HNm:=Lib.hid (fun (w:World) x1 (hs:WS V w rb x1 L)=>wnums_any V w rb x1 L p n c f (by omega) hf hs)
  clear hf
  go_enter Tryz.func89,Tryz.ntmps89
  go_wp2_with (first
    | (at_builtin;go_loud (refine app_cells2 (size:=1) (n:=M) (xs:=Bs l) (base:=V.heap.size) rfl _ _ _ rfl Tryz.underlying39 (.int .u8 0) 1 infoW8 rfl (Nat.succ_pos 0) rfl rfl (by simp) _ (HOw.out _ (World.grownBy_alloc _ _ _)) rfl (by simp [Value.oneCell']) (Nat.succ_pos 0) (by simp;omega) (by omega) (by omega) ?_;intro gg cap7 w7 hown7 hg7 hat7;obtain ⟨u0,uf,uz⟩:=HX.out _ _ (World.grownBy_alloc _ _ _) hg7;have HA:=Lib.hid (HAp.out _ _ _ _ (World.grownBy_alloc _ _ _) hown7 hg7 hat7);obtain ⟨⟨e0,e1,e2,e3⟩,ez⟩:=HB.out _ _ _ HA.out;clear hown7 hg7 hat7)))
  go_region_law (first
    | (rw [if_pos (by simp [Region.wanted])];go_simp;go_at_call 162;go_loud (refine (HWc.out _).mono ?_;rintro e wx ⟨rfl,rfl⟩))
    | (rw [if_pos (by simp [Region.wanted])];go_simp;go_at_call 161;go_loud (refine (HU.out _ _ (HA.out.s.kept (gt_drew_r (gt_refl _ _)))).mono ?_;rintro e w2 ⟨rfl,x2,hx2⟩;have HX2:=Lib.hid (HA.out.trans (WT.ahead HA.out.s (gt_drew_r (gt_refl _ _)) hx2));obtain ⟨⟨g0,g1,g2,g3⟩,gz⟩:=HB.out _ _ _ HX2.out;clear hx2)))
  all_goals
    go_wp2_with (first
      | (go_at_call 163;refine (HNm.out _ _ HX2.out.s).mono ?_;rintro e w4 ⟨rfl,x4,hx4⟩;have HX4:=Lib.hid hx4;clear hx4))
    go_returns
    exact ⟨rfl,_,by rw [←HM.out];exact WT.ahead H0.out G1 (HX2.out.trans HX4.out)⟩
theorem wln (V W:World) (rb:Nat) (x:Value) (l L:List UInt8) (dm:Nat) (hd:dm<4) (p q:Option Addr) (n c m c2:Nat) (f:Nat→Nat) (kids:List Raw) (hL:L=l++[1]++Lib.leBytes 4 (2+1000*dm)) (hl:L.length+8*n≤1000000) (hf:FVal V p n f) (h:WS V W rb x l) :
    Calls Tryz.prog 89 #[.pointer (some ⟨rb,0,none⟩),.agg #[.int .i64 2,.int .i64 dm,.slice p n c,.slice q m c2]] W fun e w'=>e=.returned (.tuple #[])∧∃ x',WT V W w' rb x x' (L++bLine (.mk 2 dm n f kids)):=by
  have hlen:l.length≤1000000:=by rw [hL] at hl;simp only [List.length_append,leB_len] at hl;omega
  have G1:=World.grownBy_alloc W (.cells #[.int .i64 2,.int .i64 dm,.slice p n c,.slice q m c2] 33) none
  have hs1:=h.kept G1
  have H1:=Lib.hid hs1
  have H0:=Lib.hid h
  have hnew:=h.new (Nat.le_refl _)
  have c0:=h.c0
  have c1:=h.c1
  have hrb:=h.lt
  have HB:Hid (∀ w x1 l1,WT V (W.alloc (.cells #[.int .i64 2,.int .i64 dm,.slice p n c,.slice q m c2] 33)) w rb x x1 l1→(w.cell? ⟨W.heap.size,0,none⟩=some (.int .i64 2)∧w.cell? ⟨W.heap.size,1,none⟩=some (.int .i64 dm)∧w.cell? ⟨W.heap.size,2,none⟩=some (.slice p n c)∧w.cell? ⟨W.heap.size,3,none⟩=some (.slice q m c2))∧W.heap.size<w.heap.size):=fun w x1 l1 I=>⟨⟨I.cell hnew.1 hnew.2 (by simp),I.cell hnew.1 hnew.2 (by simp),I.cell hnew.1 hnew.2 (by simp),I.cell hnew.1 hnew.2 (by simp)⟩,by have:=I.t.size;simp at this;omega⟩
  obtain ⟨px,cx,rfl,_⟩:=own_form h.own
  obtain ⟨M,hM⟩ : ∃ M,M=l.length:=⟨_,rfl⟩
  rw [←hM] at c0
  have hM6:M≤1000000:=by omega
  have HOw:Hid (∀ w,(W.alloc (.cells #[.int .i64 2,.int .i64 dm,.slice p n c,.slice q m c2] 33)).grownBy w none→w.ownsRow V.heap.size 5 1 (.slice px M cx) M (Bs l)):=fun w g=>by
    have hh:=(H1.out.kept g).own
    rw [←hM] at hh
    exact hh
  have HX:Hid (∀ w6 w7,(W.alloc (.cells #[.int .i64 2,.int .i64 dm,.slice p n c,.slice q m c2] 33)).grownBy w6 none→w6.grownBy w7 (Value.slice px M cx).ownBlock→w7.cell? ⟨rb,0,none⟩=some (.slice px M cx)∧w7.frozen? ⟨rb,0,none⟩=false∧rb<w7.heap.size):=fun w6 w7 g g'=>by
    have hs:=H1.out.kept g
    have hne:some rb≠(Value.slice px M cx).ownBlock:=fun e=>H1.out.ne (by rw [←hM,←e])
    have c0:=hs.c0
    rw [←hM] at c0
    have:=g'.size
    have:=hs.lt
    exact ⟨g'.cell c0 hne,by rw [World.frozen?_of_block (g'.block rb (by omega) hne)];exact hs.fz 0,by omega⟩
  have HAp:Hid (∀ w6 w7 gg cap,(W.alloc (.cells #[.int .i64 2,.int .i64 dm,.slice p n c,.slice q m c2] 33)).grownBy w6 none→w7.ownsRow V.heap.size 5 1 (.slice (some ⟨gg,0,none⟩) (M+1) cap) (M+1) (Bs l++[.int .u8 1])→w6.grownBy w7 (Value.slice px M cx).ownBlock→((Value.slice px M cx).ownBlock=some gg∨gg=w6.heap.size)→WT V (W.alloc (.cells #[.int .i64 2,.int .i64 dm,.slice p n c,.slice q m c2] 33)) (w7.setCell ⟨rb,0,none⟩ (.slice (some ⟨gg,0,none⟩) (M+1) cap)) rb (.slice px M cx) (.slice (some ⟨gg,0,none⟩) (M+1) cap) (l++[1])):=fun w6 w7 gg cap g1 hown hg hat=>by
    have hh:=H1.out.app g1 (m:=1) (gg:=gg) (cap:=cap) (cs:=[1]) (w2:=w7) (by rw [←hM];exact hown) rfl (by rw [←hM];exact hg) (by rw [←hM];exact hat)
    rw [←hM] at hh
    exact hh
  have hbV:V.heap.size≤W.heap.size:=h.g.size
  have hz0:¬ W.heap.size=rb:=hnew.1
  have hz1:¬ rb=W.heap.size:=fun e=>hnew.1 e.symm
  rw [←hM] at HB
  have H00:=H0.out
  rw [←hM] at H00
  have H0:=Lib.hid H00
  have HWc:=Lib.hid (fun w=>wkbCode_2 w)
  obtain ⟨T,hT⟩ : ∃ T,T=1000*dm:=⟨_,rfl⟩
  obtain ⟨C,hC⟩ : ∃ C,C=2+T:=⟨_,rfl⟩
  have hcT:IntKind.i64.wrap (1000*(dm:Int))=(T:Int):=by rw [IntKind.wrap_i64];omega
  have hcS:IntKind.i64.wrap (2+(T:Int))=(C:Int):=by rw [IntKind.wrap_i64];omega
  have hcU:IntKind.u64.wrap (C:Int)=(C:Int):=by rw [IntKind.wrap_u64];omega
  have hC6:C<18446744073709551616:=by omega
  rw [←hT,←hC] at hL
  have HU:=Lib.hid (fun w x1 (hs:WS V w rb x1 (l++[1]))=>wuint4 V w rb C x1 (l++[1]) hC6 (by rw [List.length_append];simp;omega) hs)
  rw [←hL] at HU
  have HM:=Lib.hid hM
  have hfz:(W.alloc (.cells #[.int .i64 2,.int .i64 dm,.slice p n c,.slice q m c2] 33)).frozen? ⟨rb,0,none⟩=false:=hs1.fz 0
  clear h hnew H00 hT hC hL hM hlen hs1
  have HNm:=Lib.hid (fun (w:World) x1 (hs:WS V w rb x1 L)=>wline_any V w rb x1 L 2 dm hd p q n c m c2 f kids (by omega) hf hs)
  clear hf
  go_enter Tryz.func89,Tryz.ntmps89
  go_wp2_with (first
    | (at_builtin;go_loud (refine app_cells2 (size:=1) (n:=M) (xs:=Bs l) (base:=V.heap.size) rfl _ _ _ rfl Tryz.underlying39 (.int .u8 0) 1 infoW8 rfl (Nat.succ_pos 0) rfl rfl (by simp) _ (HOw.out _ (World.grownBy_alloc _ _ _)) rfl (by simp [Value.oneCell']) (Nat.succ_pos 0) (by simp;omega) (by omega) (by omega) ?_;intro gg cap7 w7 hown7 hg7 hat7;obtain ⟨u0,uf,uz⟩:=HX.out _ _ (World.grownBy_alloc _ _ _) hg7;have HA:=Lib.hid (HAp.out _ _ _ _ (World.grownBy_alloc _ _ _) hown7 hg7 hat7);obtain ⟨⟨e0,e1,e2,e3⟩,ez⟩:=HB.out _ _ _ HA.out;clear hown7 hg7 hat7)))
  go_region_law (first
    | (rw [if_pos (by simp [Region.wanted])];go_simp;go_at_call 162;go_loud (refine (HWc.out _).mono ?_;rintro e wx ⟨rfl,rfl⟩))
    | (rw [if_pos (by simp [Region.wanted])];go_simp;go_at_call 161;go_loud (refine (HU.out _ _ (HA.out.s.kept (gt_drew_r (gt_refl _ _)))).mono ?_;rintro e w2 ⟨rfl,x2,hx2⟩;have HX2:=Lib.hid (HA.out.trans (WT.ahead HA.out.s (gt_drew_r (gt_refl _ _)) hx2));obtain ⟨⟨g0,g1,g2,g3⟩,gz⟩:=HB.out _ _ _ HX2.out;clear hx2)))
  all_goals
    go_wp2_with (first
      | (go_at_call 164;refine (HNm.out _ _ HX2.out.s).mono ?_;rintro e w4 ⟨rfl,x4,hx4⟩;have HX4:=Lib.hid hx4;clear hx4))
    go_returns
    exact ⟨rfl,_,by rw [←HM.out];exact WT.ahead H0.out G1 (HX2.out.trans HX4.out)⟩
theorem wco3 (V W:World) (rb:Nat) (x:Value) (l L:List UInt8) (dm:Nat) (hd:dm<4) (p q:Option Addr) (n c m c2:Nat) (kids:List Raw) (hL:L=l++[1]++Lib.leBytes 4 (3+1000*dm)) (hl:L.length+50*wts kids+4≤999000) (hm:kids.length=m) (hm9:m≤4096)
    (hk:∀ (j:Nat) (t:Raw),kids[j]?=some t→∃ a k6 d6 p6 n6 c6 q6 m6 c7,q=some a∧V.cell? (a.add (j*4))=some (.int .i64 k6)∧V.cell? ⟨(a.add (j*4)).block,(a.add (j*4)).off+1,none⟩=some (.int .i64 d6)∧V.cell? ⟨(a.add (j*4)).block,(a.add (j*4)).off+2,none⟩=some (.slice p6 n6 c6)∧V.cell? ⟨(a.add (j*4)).block,(a.add (j*4)).off+3,none⟩=some (.slice q6 m6 c7)∧(bLine t).length≤50*wt t ∧
      ∀ w x1 l1,WS V w rb x1 l1→l1.length+50*wt t≤999000→Calls Tryz.prog 164 #[.pointer (some ⟨rb,0,none⟩),.agg #[.int .i64 k6,.int .i64 d6,.slice p6 n6 c6,.slice q6 m6 c7],.bool false] w fun e w'=>e=.returned (.tuple #[])∧∃ x',WT V w w' rb x1 x' (l1++bLine t)) (h:WS V W rb x l) :
    Calls Tryz.prog 89 #[.pointer (some ⟨rb,0,none⟩),.agg #[.int .i64 3,.int .i64 dm,.slice p n c,.slice q m c2]] W fun e w'=>e=.returned (.tuple #[])∧∃ x',WT V W w' rb x x' (L++Lib.leBytes 4 kids.length++wrTs true kids):=by
  have hlen:l.length≤1000000:=by rw [hL] at hl;simp only [List.length_append,leB_len] at hl;omega
  have G1:=World.grownBy_alloc W (.cells #[.int .i64 3,.int .i64 dm,.slice p n c,.slice q m c2] 33) none
  have hs1:=h.kept G1
  have H1:=Lib.hid hs1
  have H0:=Lib.hid h
  have hnew:=h.new (Nat.le_refl _)
  have c0:=h.c0
  have c1:=h.c1
  have hrb:=h.lt
  have HB:Hid (∀ w x1 l1,WT V (W.alloc (.cells #[.int .i64 3,.int .i64 dm,.slice p n c,.slice q m c2] 33)) w rb x x1 l1→(w.cell? ⟨W.heap.size,0,none⟩=some (.int .i64 3)∧w.cell? ⟨W.heap.size,1,none⟩=some (.int .i64 dm)∧w.cell? ⟨W.heap.size,2,none⟩=some (.slice p n c)∧w.cell? ⟨W.heap.size,3,none⟩=some (.slice q m c2))∧W.heap.size<w.heap.size):=fun w x1 l1 I=>⟨⟨I.cell hnew.1 hnew.2 (by simp),I.cell hnew.1 hnew.2 (by simp),I.cell hnew.1 hnew.2 (by simp),I.cell hnew.1 hnew.2 (by simp)⟩,by have:=I.t.size;simp at this;omega⟩
  obtain ⟨px,cx,rfl,_⟩:=own_form h.own
  obtain ⟨M,hM⟩ : ∃ M,M=l.length:=⟨_,rfl⟩
  rw [←hM] at c0
  have hM6:M≤1000000:=by omega
  have HOw:Hid (∀ w,(W.alloc (.cells #[.int .i64 3,.int .i64 dm,.slice p n c,.slice q m c2] 33)).grownBy w none→w.ownsRow V.heap.size 5 1 (.slice px M cx) M (Bs l)):=fun w g=>by
    have hh:=(H1.out.kept g).own
    rw [←hM] at hh
    exact hh
  have HX:Hid (∀ w6 w7,(W.alloc (.cells #[.int .i64 3,.int .i64 dm,.slice p n c,.slice q m c2] 33)).grownBy w6 none→w6.grownBy w7 (Value.slice px M cx).ownBlock→w7.cell? ⟨rb,0,none⟩=some (.slice px M cx)∧w7.frozen? ⟨rb,0,none⟩=false∧rb<w7.heap.size):=fun w6 w7 g g'=>by
    have hs:=H1.out.kept g
    have hne:some rb≠(Value.slice px M cx).ownBlock:=fun e=>H1.out.ne (by rw [←hM,←e])
    have c0:=hs.c0
    rw [←hM] at c0
    have:=g'.size
    have:=hs.lt
    exact ⟨g'.cell c0 hne,by rw [World.frozen?_of_block (g'.block rb (by omega) hne)];exact hs.fz 0,by omega⟩
  have HAp:Hid (∀ w6 w7 gg cap,(W.alloc (.cells #[.int .i64 3,.int .i64 dm,.slice p n c,.slice q m c2] 33)).grownBy w6 none→w7.ownsRow V.heap.size 5 1 (.slice (some ⟨gg,0,none⟩) (M+1) cap) (M+1) (Bs l++[.int .u8 1])→w6.grownBy w7 (Value.slice px M cx).ownBlock→((Value.slice px M cx).ownBlock=some gg∨gg=w6.heap.size)→WT V (W.alloc (.cells #[.int .i64 3,.int .i64 dm,.slice p n c,.slice q m c2] 33)) (w7.setCell ⟨rb,0,none⟩ (.slice (some ⟨gg,0,none⟩) (M+1) cap)) rb (.slice px M cx) (.slice (some ⟨gg,0,none⟩) (M+1) cap) (l++[1])):=fun w6 w7 gg cap g1 hown hg hat=>by
    have hh:=H1.out.app g1 (m:=1) (gg:=gg) (cap:=cap) (cs:=[1]) (w2:=w7) (by rw [←hM];exact hown) rfl (by rw [←hM];exact hg) (by rw [←hM];exact hat)
    rw [←hM] at hh
    exact hh
  have hbV:V.heap.size≤W.heap.size:=h.g.size
  have hz0:¬ W.heap.size=rb:=hnew.1
  have hz1:¬ rb=W.heap.size:=fun e=>hnew.1 e.symm
  rw [←hM] at HB
  have H00:=H0.out
  rw [←hM] at H00
  have H0:=Lib.hid H00
  have HWc:=Lib.hid (fun w=>wkbCode_3 w)
  obtain ⟨T,hT⟩ : ∃ T,T=1000*dm:=⟨_,rfl⟩
  obtain ⟨C,hC⟩ : ∃ C,C=3+T:=⟨_,rfl⟩
  have hcT:IntKind.i64.wrap (1000*(dm:Int))=(T:Int):=by rw [IntKind.wrap_i64];omega
  have hcS:IntKind.i64.wrap (3+(T:Int))=(C:Int):=by rw [IntKind.wrap_i64];omega
  have hcU:IntKind.u64.wrap (C:Int)=(C:Int):=by rw [IntKind.wrap_u64];omega
  have hC6:C<18446744073709551616:=by omega
  rw [←hT,←hC] at hL
  have HU:=Lib.hid (fun w x1 (hs:WS V w rb x1 (l++[1]))=>wuint4 V w rb C x1 (l++[1]) hC6 (by rw [List.length_append];simp;omega) hs)
  rw [←hL] at HU
  have HM:=Lib.hid hM
  have hfz:(W.alloc (.cells #[.int .i64 3,.int .i64 dm,.slice p n c,.slice q m c2] 33)).frozen? ⟨rb,0,none⟩=false:=hs1.fz 0
  clear h hnew H00 hT hC hL hM hlen hs1
  have HK:=Lib.hid hk
  have hmi:IntKind.u64.wrap (m:Int)=(m:Int):=by rw [IntKind.wrap_u64];omega
  have hmi2:IntKind.i64.wrap (m:Int)=(m:Int):=by rw [IntKind.wrap_i64];omega
  have HU4:=Lib.hid (fun w x1 (hs:WS V w rb x1 L)=>wuint4 V w rb m x1 L (by omega) (by omega) hs)
  have HTk:Hid (∀ j t,kids[j]?=some t→wrTs true (kids.take (j+1))=wrTs true (kids.take j)++bLine t):=fun j t hj=>wrTs_take true kids j t hj
  have HTl:Hid (wrTs true (kids.take m)=wrTs true kids):=by show wrTs true (kids.take m)=_;rw [←hm,List.take_length]
  have HG:Hid (∀ j,j<m→∃ t,kids[j]?=some t):=fun j hj=>⟨kids[j]'(by omega),List.getElem?_eq_getElem (by omega)⟩
  have HLn:Hid (∀ j,wts (kids.take j)≤wts kids):=fun j=>wts_take_le kids j
  have HWm:Hid (∀ j t,kids[j]?=some t→wts (kids.take j)+wt t≤wts kids):=fun j t hj=>by
    have h1:=wts_take_succ kids j t hj
    have h2:=wts_take_le kids (j+1)
    omega
  rw [hm]
  have HLL:=Lib.hid hl
  clear hk hm hl
  go_enter Tryz.func89,Tryz.ntmps89
  go_wp2_with (first
    | (at_builtin;go_loud (refine app_cells2 (size:=1) (n:=M) (xs:=Bs l) (base:=V.heap.size) rfl _ _ _ rfl Tryz.underlying39 (.int .u8 0) 1 infoW8 rfl (Nat.succ_pos 0) rfl rfl (by simp) _ (HOw.out _ (World.grownBy_alloc _ _ _)) rfl (by simp [Value.oneCell']) (Nat.succ_pos 0) (by simp;omega) (by omega) (by omega) ?_;intro gg cap7 w7 hown7 hg7 hat7;obtain ⟨u0,uf,uz⟩:=HX.out _ _ (World.grownBy_alloc _ _ _) hg7;have HA:=Lib.hid (HAp.out _ _ _ _ (World.grownBy_alloc _ _ _) hown7 hg7 hat7);obtain ⟨⟨e0,e1,e2,e3⟩,ez⟩:=HB.out _ _ _ HA.out;clear hown7 hg7 hat7)))
  go_region_law (first
    | (rw [if_pos (by simp [Region.wanted])];go_simp;go_at_call 162;go_loud (refine (HWc.out _).mono ?_;rintro e wx ⟨rfl,rfl⟩))
    | (rw [if_pos (by simp [Region.wanted])];go_simp;go_at_call 161;go_loud (refine (HU.out _ _ (HA.out.s.kept (gt_drew_r (gt_refl _ _)))).mono ?_;rintro e w2 ⟨rfl,x2,hx2⟩;have HX2:=Lib.hid (HA.out.trans (WT.ahead HA.out.s (gt_drew_r (gt_refl _ _)) hx2));obtain ⟨⟨g0,g1,g2,g3⟩,gz⟩:=HB.out _ _ _ HX2.out;clear hx2)))
  all_goals
    go_wp2_with (first
      | (go_at_call 161;refine (HU4.out _ _ HX2.out.s).mono ?_;rintro e w3 ⟨rfl,x3,hx3⟩;have HX3:=Lib.hid (HX2.out.trans hx3);obtain ⟨⟨h0,h1,h2,h3⟩,hz⟩:=HB.out _ _ _ HX3.out;clear hx3))
    go_loopw [60] (fun i wr=>∃ (j:Nat) (x4:Value),j≤m∧i=.int .i64 j∧(wrTs true (kids.take j)).length≤50*wts (kids.take j)∧WT V (W.alloc (.cells #[.int .i64 3,.int .i64 dm,.slice p n c,.slice q m c2] 33)) wr rb (.slice px M cx) x4 (L++Lib.leBytes 4 m++wrTs true (kids.take j))) (fun i _=>m - (intOf i).toNat)
    case atStart=>exact ⟨0,_,by omega,rfl,by simp [wrTs],by rw [List.take_zero,wrTs,List.append_nil];exact HX3.out⟩
    case round =>
      obtain ⟨j,x4,hj,rfl,hjl,I⟩:=hrel
      rename World=>wr
      have HI:=Lib.hid I
      obtain ⟨⟨i0,i1,i2,i3⟩,iz⟩:=HB.out _ _ _ I
      have HJl:=Lib.hid hjl
      by_cases hjm:j<m
      · obtain ⟨t,ht⟩:=HG.out j hjm
        obtain ⟨a,k6,d6,p6,n6,c6,q6,m6,c7,rfl,v0,v1,v2,v3,hbl,hck⟩:=HK.out j t ht
        have y0:=I.s.g.cell v0 (by simp)
        have y1:=I.s.g.cell v1 (by simp)
        have y2:=I.s.g.cell v2 (by simp)
        have y3:=I.s.g.cell v3 (by simp)
        have HTj:=Lib.hid (HTk.out j t ht)
        have hlk:(L++Lib.leBytes 4 m++wrTs true (kids.take j)).length+50*wt t≤999000:=by
          have e1:=HWm.out j t ht
          have e2:=HLL.out
          rw [List.length_append,List.length_append,leB_len]
          omega
        have HWj:=Lib.hid (wts_take_succ kids j t ht)
        have HBl:=Lib.hid hbl
        have HCk:=Lib.hid hck
        have hrbw:=I.s.lt
        clear I v0 v1 v2 v3 hck hbl ht hjl
        go_wp2_with (first
          | (go_at_call 164;go_loud (refine (HCk.out _ _ _ ((HI.out.s.kept (World.grownBy_alloc _ _ _)))  hlk).mono ?_;rintro e w4 ⟨rfl,x4,hx4⟩;have HX4:=Lib.hid (WT.ahead HI.out.s (World.grownBy_alloc _ _ _) hx4);clear hx4)))
        exact ⟨⟨j+1,_,by omega,by go_num,by rw [HTj.out,List.length_append,HWj.out];have:=HJl.out;have:=HBl.out;omega,by rw [HTj.out,←List.append_assoc];exact HI.out.trans HX4.out⟩,by simp [intOf];omega⟩
      · obtain rfl:j=m:=by omega
        clear I hjl
        go_wp2_with fail
        go_wp2_with fail
        go_returns
        exact ⟨rfl,_,by rw [←HM.out,←HTl.out];exact WT.ahead H0.out G1 HI.out⟩
theorem wco0 (V W:World) (rb:Nat) (x:Value) (l L:List UInt8) (dm:Nat) (hd:dm<4) (kk:Int) (code:Nat) (HW9:∀ w,Calls Tryz.prog 162 #[.int .i64 kk] w fun e w'=>e=.returned (.int .i64 code)∧w'=w) (hc9:code≤7) (b1:(kk==1)=false) (b2:(kk==2)=false) (b3:(kk==3)=false) (n1:¬ kk=1) (n2:¬ kk=2) (n3:¬ kk=3) (p q:Option Addr) (n c m c2:Nat) (kids:List Raw) (hL:L=l++[1]++Lib.leBytes 4 (code+1000*dm)) (hl:L.length+50*wts kids+4≤999000) (hm:kids.length=m) (hm9:m≤4096)
    (hk:∀ (j:Nat) (t:Raw),kids[j]?=some t→∃ a k6 d6 p6 n6 c6 q6 m6 c7,q=some a∧V.cell? (a.add (j*4))=some (.int .i64 k6)∧V.cell? ⟨(a.add (j*4)).block,(a.add (j*4)).off+1,none⟩=some (.int .i64 d6)∧V.cell? ⟨(a.add (j*4)).block,(a.add (j*4)).off+2,none⟩=some (.slice p6 n6 c6)∧V.cell? ⟨(a.add (j*4)).block,(a.add (j*4)).off+3,none⟩=some (.slice q6 m6 c7)∧(wrT t).length≤50*wt t ∧
      ∀ w x1 l1,WS V w rb x1 l1→l1.length+50*wt t≤999000→Calls Tryz.prog 89 #[.pointer (some ⟨rb,0,none⟩),.agg #[.int .i64 k6,.int .i64 d6,.slice p6 n6 c6,.slice q6 m6 c7]] w fun e w'=>e=.returned (.tuple #[])∧∃ x',WT V w w' rb x1 x' (l1++wrT t)) (h:WS V W rb x l) :
    Calls Tryz.prog 89 #[.pointer (some ⟨rb,0,none⟩),.agg #[.int .i64 kk,.int .i64 dm,.slice p n c,.slice q m c2]] W fun e w'=>e=.returned (.tuple #[])∧∃ x',WT V W w' rb x x' (L++Lib.leBytes 4 kids.length++wrTs false kids):=by
  have hlen:l.length≤1000000:=by rw [hL] at hl;simp only [List.length_append,leB_len] at hl;omega
  have G1:=World.grownBy_alloc W (.cells #[.int .i64 kk,.int .i64 dm,.slice p n c,.slice q m c2] 33) none
  have hs1:=h.kept G1
  have H1:=Lib.hid hs1
  have H0:=Lib.hid h
  have hnew:=h.new (Nat.le_refl _)
  have c0:=h.c0
  have c1:=h.c1
  have hrb:=h.lt
  have HB:Hid (∀ w x1 l1,WT V (W.alloc (.cells #[.int .i64 kk,.int .i64 dm,.slice p n c,.slice q m c2] 33)) w rb x x1 l1→(w.cell? ⟨W.heap.size,0,none⟩=some (.int .i64 kk)∧w.cell? ⟨W.heap.size,1,none⟩=some (.int .i64 dm)∧w.cell? ⟨W.heap.size,2,none⟩=some (.slice p n c)∧w.cell? ⟨W.heap.size,3,none⟩=some (.slice q m c2))∧W.heap.size<w.heap.size):=fun w x1 l1 I=>⟨⟨I.cell hnew.1 hnew.2 (by simp),I.cell hnew.1 hnew.2 (by simp),I.cell hnew.1 hnew.2 (by simp),I.cell hnew.1 hnew.2 (by simp)⟩,by have:=I.t.size;simp at this;omega⟩
  obtain ⟨px,cx,rfl,_⟩:=own_form h.own
  obtain ⟨M,hM⟩ : ∃ M,M=l.length:=⟨_,rfl⟩
  rw [←hM] at c0
  have hM6:M≤1000000:=by omega
  have HOw:Hid (∀ w,(W.alloc (.cells #[.int .i64 kk,.int .i64 dm,.slice p n c,.slice q m c2] 33)).grownBy w none→w.ownsRow V.heap.size 5 1 (.slice px M cx) M (Bs l)):=fun w g=>by
    have hh:=(H1.out.kept g).own
    rw [←hM] at hh
    exact hh
  have HX:Hid (∀ w6 w7,(W.alloc (.cells #[.int .i64 kk,.int .i64 dm,.slice p n c,.slice q m c2] 33)).grownBy w6 none→w6.grownBy w7 (Value.slice px M cx).ownBlock→w7.cell? ⟨rb,0,none⟩=some (.slice px M cx)∧w7.frozen? ⟨rb,0,none⟩=false∧rb<w7.heap.size):=fun w6 w7 g g'=>by
    have hs:=H1.out.kept g
    have hne:some rb≠(Value.slice px M cx).ownBlock:=fun e=>H1.out.ne (by rw [←hM,←e])
    have c0:=hs.c0
    rw [←hM] at c0
    have:=g'.size
    have:=hs.lt
    exact ⟨g'.cell c0 hne,by rw [World.frozen?_of_block (g'.block rb (by omega) hne)];exact hs.fz 0,by omega⟩
  have HAp:Hid (∀ w6 w7 gg cap,(W.alloc (.cells #[.int .i64 kk,.int .i64 dm,.slice p n c,.slice q m c2] 33)).grownBy w6 none→w7.ownsRow V.heap.size 5 1 (.slice (some ⟨gg,0,none⟩) (M+1) cap) (M+1) (Bs l++[.int .u8 1])→w6.grownBy w7 (Value.slice px M cx).ownBlock→((Value.slice px M cx).ownBlock=some gg∨gg=w6.heap.size)→WT V (W.alloc (.cells #[.int .i64 kk,.int .i64 dm,.slice p n c,.slice q m c2] 33)) (w7.setCell ⟨rb,0,none⟩ (.slice (some ⟨gg,0,none⟩) (M+1) cap)) rb (.slice px M cx) (.slice (some ⟨gg,0,none⟩) (M+1) cap) (l++[1])):=fun w6 w7 gg cap g1 hown hg hat=>by
    have hh:=H1.out.app g1 (m:=1) (gg:=gg) (cap:=cap) (cs:=[1]) (w2:=w7) (by rw [←hM];exact hown) rfl (by rw [←hM];exact hg) (by rw [←hM];exact hat)
    rw [←hM] at hh
    exact hh
  have hbV:V.heap.size≤W.heap.size:=h.g.size
  have hz0:¬ W.heap.size=rb:=hnew.1
  have hz1:¬ rb=W.heap.size:=fun e=>hnew.1 e.symm
  rw [←hM] at HB
  have H00:=H0.out
  rw [←hM] at H00
  have H0:=Lib.hid H00
  have HWc:=Lib.hid (HW9)
  obtain ⟨T,hT⟩ : ∃ T,T=1000*dm:=⟨_,rfl⟩
  obtain ⟨C,hC⟩ : ∃ C,C=code+T:=⟨_,rfl⟩
  have hcT:IntKind.i64.wrap (1000*(dm:Int))=(T:Int):=by rw [IntKind.wrap_i64];omega
  have hcS:IntKind.i64.wrap ((code:Int)+(T:Int))=(C:Int):=by rw [IntKind.wrap_i64];omega
  have hcU:IntKind.u64.wrap (C:Int)=(C:Int):=by rw [IntKind.wrap_u64];omega
  have hC6:C<18446744073709551616:=by omega
  rw [←hT,←hC] at hL
  have HU:=Lib.hid (fun w x1 (hs:WS V w rb x1 (l++[1]))=>wuint4 V w rb C x1 (l++[1]) hC6 (by rw [List.length_append];simp;omega) hs)
  rw [←hL] at HU
  have HM:=Lib.hid hM
  have hfz:(W.alloc (.cells #[.int .i64 kk,.int .i64 dm,.slice p n c,.slice q m c2] 33)).frozen? ⟨rb,0,none⟩=false:=hs1.fz 0
  clear h hnew H00 hT hC hL hM hlen hs1
  have HK:=Lib.hid hk
  have hmi:IntKind.u64.wrap (m:Int)=(m:Int):=by rw [IntKind.wrap_u64];omega
  have hmi2:IntKind.i64.wrap (m:Int)=(m:Int):=by rw [IntKind.wrap_i64];omega
  have HU4:=Lib.hid (fun w x1 (hs:WS V w rb x1 L)=>wuint4 V w rb m x1 L (by omega) (by omega) hs)
  have HTk:Hid (∀ j t,kids[j]?=some t→wrTs false (kids.take (j+1))=wrTs false (kids.take j)++wrT t):=fun j t hj=>wrTs_take false kids j t hj
  have HTl:Hid (wrTs false (kids.take m)=wrTs false kids):=by show wrTs false (kids.take m)=_;rw [←hm,List.take_length]
  have HG:Hid (∀ j,j<m→∃ t,kids[j]?=some t):=fun j hj=>⟨kids[j]'(by omega),List.getElem?_eq_getElem (by omega)⟩
  have HLn:Hid (∀ j,wts (kids.take j)≤wts kids):=fun j=>wts_take_le kids j
  have HWm:Hid (∀ j t,kids[j]?=some t→wts (kids.take j)+wt t≤wts kids):=fun j t hj=>by
    have h1:=wts_take_succ kids j t hj
    have h2:=wts_take_le kids (j+1)
    omega
  rw [hm]
  have HLL:=Lib.hid hl
  clear hk hm hl
  go_enter Tryz.func89,Tryz.ntmps89
  go_wp2_with (first
    | (at_builtin;go_loud (refine app_cells2 (size:=1) (n:=M) (xs:=Bs l) (base:=V.heap.size) rfl _ _ _ rfl Tryz.underlying39 (.int .u8 0) 1 infoW8 rfl (Nat.succ_pos 0) rfl rfl (by simp) _ (HOw.out _ (World.grownBy_alloc _ _ _)) rfl (by simp [Value.oneCell']) (Nat.succ_pos 0) (by simp;omega) (by omega) (by omega) ?_;intro gg cap7 w7 hown7 hg7 hat7;obtain ⟨u0,uf,uz⟩:=HX.out _ _ (World.grownBy_alloc _ _ _) hg7;have HA:=Lib.hid (HAp.out _ _ _ _ (World.grownBy_alloc _ _ _) hown7 hg7 hat7);obtain ⟨⟨e0,e1,e2,e3⟩,ez⟩:=HB.out _ _ _ HA.out;clear hown7 hg7 hat7)))
  go_region_law (first
    | (rw [if_pos (by simp [Region.wanted])];go_simp;go_at_call 162;go_loud (refine (HWc.out _).mono ?_;rintro e wx ⟨rfl,rfl⟩))
    | (rw [if_pos (by simp [Region.wanted])];go_simp;go_at_call 161;go_loud (refine (HU.out _ _ (HA.out.s.kept (gt_drew_r (gt_refl _ _)))).mono ?_;rintro e w2 ⟨rfl,x2,hx2⟩;have HX2:=Lib.hid (HA.out.trans (WT.ahead HA.out.s (gt_drew_r (gt_refl _ _)) hx2));obtain ⟨⟨g0,g1,g2,g3⟩,gz⟩:=HB.out _ _ _ HX2.out;clear hx2)))
  all_goals
    go_wp2_with (first
      | (go_at_call 161;refine (HU4.out _ _ HX2.out.s).mono ?_;rintro e w3 ⟨rfl,x3,hx3⟩;have HX3:=Lib.hid (HX2.out.trans hx3);obtain ⟨⟨h0,h1,h2,h3⟩,hz⟩:=HB.out _ _ _ HX3.out;clear hx3))
    go_loopw [60] (fun i wr=>∃ (j:Nat) (x4:Value),j≤m∧i=.int .i64 j∧(wrTs false (kids.take j)).length≤50*wts (kids.take j)∧WT V (W.alloc (.cells #[.int .i64 kk,.int .i64 dm,.slice p n c,.slice q m c2] 33)) wr rb (.slice px M cx) x4 (L++Lib.leBytes 4 m++wrTs false (kids.take j))) (fun i _=>m - (intOf i).toNat)
    case atStart=>exact ⟨0,_,by omega,rfl,by simp [wrTs],by rw [List.take_zero,wrTs,List.append_nil];exact HX3.out⟩
    case round =>
      obtain ⟨j,x4,hj,rfl,hjl,I⟩:=hrel
      rename World=>wr
      have HI:=Lib.hid I
      obtain ⟨⟨i0,i1,i2,i3⟩,iz⟩:=HB.out _ _ _ I
      have HJl:=Lib.hid hjl
      by_cases hjm:j<m
      · obtain ⟨t,ht⟩:=HG.out j hjm
        obtain ⟨a,k6,d6,p6,n6,c6,q6,m6,c7,rfl,v0,v1,v2,v3,hbl,hck⟩:=HK.out j t ht
        have y0:=I.s.g.cell v0 (by simp)
        have y1:=I.s.g.cell v1 (by simp)
        have y2:=I.s.g.cell v2 (by simp)
        have y3:=I.s.g.cell v3 (by simp)
        have HTj:=Lib.hid (HTk.out j t ht)
        have hlk:(L++Lib.leBytes 4 m++wrTs false (kids.take j)).length+50*wt t≤999000:=by
          have e1:=HWm.out j t ht
          have e2:=HLL.out
          rw [List.length_append,List.length_append,leB_len]
          omega
        have HWj:=Lib.hid (wts_take_succ kids j t ht)
        have HBl:=Lib.hid hbl
        have HCk:=Lib.hid hck
        have hrbw:=I.s.lt
        clear I v0 v1 v2 v3 hck hbl ht hjl
        go_wp2_with (first
          | (go_at_call 89;go_loud (refine (HCk.out _ _ _ ((HI.out.s.kept (World.grownBy_alloc _ _ _)))  hlk).mono ?_;rintro e w4 ⟨rfl,x4,hx4⟩;have HX4:=Lib.hid (WT.ahead HI.out.s (World.grownBy_alloc _ _ _) hx4);clear hx4)))
        exact ⟨⟨j+1,_,by omega,by go_num,by rw [HTj.out,List.length_append,HWj.out];have:=HJl.out;have:=HBl.out;omega,by rw [HTj.out,←List.append_assoc];exact HI.out.trans HX4.out⟩,by simp [intOf];omega⟩
      · obtain rfl:j=m:=by omega
        clear I hjl
        go_wp2_with fail
        go_wp2_with fail
        go_returns
        exact ⟨rfl,_,by rw [←HM.out,←HTl.out];exact WT.ahead H0.out G1 HI.out⟩
end
end Go.Proofs.YtlpaecafpbbbkaaGreatDoor
