/- The package's reader of well known binary: the order of bytes, numbers, the head. The package's reader of well known binary: floats, the head of a geometry. -/
import Derived.RegionTactic
import Derived.Test.YtlpaecafpbbbkaaGreatDoorBYT13
set_option linter.unusedVariables false
set_option linter.unusedSimpArgs false
set_option maxRecDepth 100000
set_option maxHeartbeats 24000000
namespace Go.Proofs.YtlpaecafpbbbkaaGreatDoor
section
open Go.RowKit
theorem WP.order {V W:World} {pb:Nat} {l:List UInt8} {o:Nat} {no:Bool} (h:WP V W pb l o no) (o':Nat) (no':Bool) :
    WP V ((W.setCell ⟨pb,1,none⟩ (.int .u8 o')).setCell ⟨pb,2,none⟩ (.bool no')) pb l o' no'∧W.grownBy ((W.setCell ⟨pb,1,none⟩ (.int .u8 o')).setCell ⟨pb,2,none⟩ (.bool no')) (some pb):=by
  obtain ⟨x,hx,hv⟩:=h.x
  have g1:=grown_set W ⟨pb,1,none⟩ (.int .u8 o')
  have g2:=grown_set (W.setCell ⟨pb,1,none⟩ (.int .u8 o')) ⟨pb,2,none⟩ (.bool no')
  refine ⟨⟨gt_trans h.g (gt_trans g1 g2 (.inl rfl)) (.inl rfl),h.blt,⟨x,?_,hv⟩,?_,?_,fun j=>?_⟩,gt_trans g1 g2 (.inl rfl)⟩
  · rw [World.cell?_setCell_other (h:=by simp),World.cell?_setCell_other (h:=by simp)];exact hx
  · rw [World.cell?_setCell_other (h:=by simp)];exact World.cell?_setCell_same (v:=.int .u8 o') (h:=h.c1)
  · exact World.cell?_setCell_same (v:=.bool no') (h:=by rw [World.cell?_setCell_other (h:=by simp)];exact h.c2)
  · rw [World.frozen?_setCell,World.frozen?_setCell];exact h.fz j
theorem parseBO_nil (V W:World) (pb o:Nat) (no:Bool) (h:WP V W pb [] o no):Calls Tryz.prog 154 #[.pointer (some ⟨pb,0,none⟩)] W fun e w'=>(∃ ty x,e=.returned (.iface ty x))∧W.grownBy w' (some pb):=by
  have H:=Lib.hid (readByte_nil V W pb o no h)
  clear h
  go_enter Tryz.func154,Tryz.ntmps154
  go_wp2_with (first
    | (go_at_call 197;refine H.out.mono ?_;rintro e w1 ⟨⟨ty,x,rfl⟩,hg1⟩))
  go_ret
  exact ⟨⟨_,_,rfl⟩,hg1⟩
theorem parseBO_bad (V W:World) (pb o:Nat) (no:Bool) (b:UInt8) (l:List UInt8) (hb:1<b.toNat) (h:WP V W pb (b::l) o no):Calls Tryz.prog 154 #[.pointer (some ⟨pb,0,none⟩)] W fun e w'=>(∃ ty x,e=.returned (.iface ty x))∧W.grownBy w' (some pb):=by
  have H:=Lib.hid (readByte_cons V W pb o no b l h)
  clear h
  have hz:((b.toNat:Int)==0)=false:=by rw [beq_eq_false_iff_ne];omega
  have hz1:((b.toNat:Int)==1)=false:=by rw [beq_eq_false_iff_ne];omega
  go_enter Tryz.func154,Tryz.ntmps154
  go_wp2_with (first
    | (go_at_call 197;refine H.out.mono ?_;rintro e w1 ⟨rfl,hw1,hg1⟩;have c1:=hw1.c1;have f1:=hw1.fz 1;clear hw1))
  go_ret
  exact ⟨⟨_,_,rfl⟩,gt_trans hg1 (grown_set w1 ⟨pb,1,none⟩ _) (.inl rfl)⟩
theorem parseBO_ok (V W:World) (pb o:Nat) (no:Bool) (b:UInt8) (l:List UInt8) (big:Bool) (hb:b.toNat=if big=true then 0 else 1) (h:WP V W pb (b::l) o no):Calls Tryz.prog 154 #[.pointer (some ⟨pb,0,none⟩)] W fun e w'=>e=.returned .nilIface∧WP V w' pb l (if big=true then 0 else 1) (!big)∧W.grownBy w' (some pb):=by
  have H:=Lib.hid (readByte_cons V W pb o no b l h)
  clear h
  cases big
  all_goals
    simp only [if_true,if_false,Bool.false_eq_true,Bool.not_true,Bool.not_false] at hb ⊢
    rw [hb] at H
    clear hb
    go_enter Tryz.func154,Tryz.ntmps154
    go_wp2_with (first
      | (go_at_call 197;refine H.out.mono ?_;rintro e w1 ⟨rfl,hw1,hg1⟩;have c1:=hw1.c1;have c2:=hw1.c2;have f1:=hw1.fz 1;have f2:=hw1.fz 2;have HO:=Lib.hid (fun o' no'=>hw1.order o' no');clear hw1))
    go_ret
    exact ⟨rfl,(HO.out _ _).1,gt_trans hg1 (HO.out _ _).2 (.inl rfl)⟩
theorem take_four {l:List UInt8} (h:4≤l.length):∃ b0 b1 b2 b3 r,l=b0::b1::b2::b3::r:=by
  match l,h with
  | b0::b1::b2::b3::r,_=>exact ⟨b0,b1,b2,b3,r,rfl⟩
theorem take_eight {l:List UInt8} (h:8≤l.length):∃ b0 b1 b2 b3 b4 b5 b6 b7 r,l=b0::b1::b2::b3::b4::b5::b6::b7::r:=by
  match l,h with
  | b0::b1::b2::b3::b4::b5::b6::b7::r,_=>exact ⟨b0,b1,b2,b3,b4,b5,b6,b7,r,rfl⟩
theorem be32 (W:World) (pb:Nat) (p:Option Addr) (n c:Nat) (l:List UInt8) (h:BV W pb (.slice p n c) l) (hl:4≤l.length):Calls Tryz.prog 241 #[.agg #[],.slice p n c] W fun e w'=>e=.returned (.int .u32 (numL true (l.take 4)))∧W.grownBy w' none:=by
  obtain ⟨en,b,o,rfl,hc⟩:=h.cells (by omega)
  obtain ⟨b0,b1,b2,b3,r,rfl⟩:=take_four hl
  exact (Tryz.binary_BE_Uint32 b o n c b0 b1 b2 b3 W (by omega) (hc 0 _ rfl) (hc 1 _ rfl) (hc 2 _ rfl) (hc 3 _ rfl)).mono fun e w' ⟨he,hb⟩=>⟨he,gt_below hb none⟩
theorem le32 (W:World) (pb:Nat) (p:Option Addr) (n c:Nat) (l:List UInt8) (h:BV W pb (.slice p n c) l) (hl:4≤l.length):Calls Tryz.prog 242 #[.agg #[],.slice p n c] W fun e w'=>e=.returned (.int .u32 (numL false (l.take 4)))∧W.grownBy w' none:=by
  obtain ⟨en,b,o,rfl,hc⟩:=h.cells (by omega)
  obtain ⟨b0,b1,b2,b3,r,rfl⟩:=take_four hl
  exact (Tryz.binary_LE_Uint32 b o n c b0 b1 b2 b3 W (by omega) (hc 0 _ rfl) (hc 1 _ rfl) (hc 2 _ rfl) (hc 3 _ rfl)).mono fun e w' ⟨he,hb⟩=>⟨he,gt_below hb none⟩
theorem be64 (W:World) (pb:Nat) (p:Option Addr) (n c:Nat) (l:List UInt8) (h:BV W pb (.slice p n c) l) (hl:8≤l.length):Calls Tryz.prog 292 #[.agg #[],.slice p n c] W fun e w'=>e=.returned (.int .u64 (numL true (l.take 8)))∧W.grownBy w' none:=by
  obtain ⟨en,b,o,rfl,hc⟩:=h.cells (by omega)
  obtain ⟨b0,b1,b2,b3,b4,b5,b6,b7,r,rfl⟩:=take_eight hl
  exact (Tryz.binary_BE_Uint64 b o n c b0 b1 b2 b3 b4 b5 b6 b7 W (by omega) (hc 0 _ rfl) (hc 1 _ rfl) (hc 2 _ rfl) (hc 3 _ rfl) (hc 4 _ rfl) (hc 5 _ rfl) (hc 6 _ rfl) (hc 7 _ rfl)).mono fun e w' ⟨he,hb⟩=>⟨he,gt_below hb none⟩
theorem le64 (W:World) (pb:Nat) (p:Option Addr) (n c:Nat) (l:List UInt8) (h:BV W pb (.slice p n c) l) (hl:8≤l.length):Calls Tryz.prog 293 #[.agg #[],.slice p n c] W fun e w'=>e=.returned (.int .u64 (numL false (l.take 8)))∧W.grownBy w' none:=by
  obtain ⟨en,b,o,rfl,hc⟩:=h.cells (by omega)
  obtain ⟨b0,b1,b2,b3,b4,b5,b6,b7,r,rfl⟩:=take_eight hl
  exact (Tryz.binary_LE_Uint64 b o n c b0 b1 b2 b3 b4 b5 b6 b7 W (by omega) (hc 0 _ rfl) (hc 1 _ rfl) (hc 2 _ rfl) (hc 3 _ rfl) (hc 4 _ rfl) (hc 5 _ rfl) (hc 6 _ rfl) (hc 7 _ rfl)).mono fun e w' ⟨he,hb⟩=>⟨he,gt_below hb none⟩
theorem parseU32_bad (V W:World) (pb o:Nat) (no:Bool) (l:List UInt8) (hl:l.length<4) (h:WP V W pb l o no):Calls Tryz.prog 198 #[.pointer (some ⟨pb,0,none⟩)] W fun e w'=>(∃ ty x,e=.returned (.tuple #[.int .u32 0,.iface ty x]))∧W.grownBy w' (some pb):=by
  obtain ⟨x,hx,hv⟩:=h.x
  obtain ⟨p,c,rfl,_⟩:=hv.ex
  have hli:(l.length:Int)<4:=by omega
  generalize l.length=n at hx hli
  clear hv h hl
  go_enter Tryz.func198,Tryz.ntmps198
  go_wp2_with fail
  go_ret2
  exact ⟨⟨_,_,rfl⟩,gt_refl _ _⟩
theorem parseU32_ok (V W:World) (pb:Nat) (big no:Bool) (l:List UInt8) (hl:4≤l.length) (h:WP V W pb l (if big=true then 0 else 1) no):Calls Tryz.prog 198 #[.pointer (some ⟨pb,0,none⟩)] W fun e w'=>e=.returned (.tuple #[.int .u32 (numL big (l.take 4)),.nilIface])∧WP V w' pb (l.drop 4) (if big=true then 0 else 1) no∧W.grownBy w' (some pb):=by
  obtain ⟨x,hx,hv⟩:=h.x
  obtain ⟨p,c,rfl,h1,_⟩:=hv.ex
  have hd:=hv.drop 4 hl
  obtain ⟨pd,nd,cd,hxd⟩ : ∃ pd nd cd,sliced p 4 l.length c 1=.slice pd nd cd:=⟨_,_,_,rfl⟩
  rw [hxd] at hd
  have HN:Hid (∀ w,W.grownBy w none→w.cell? ⟨pb,0,none⟩=some (.slice p l.length c)∧w.frozen? ⟨pb,0,none⟩=false∧WP V (w.setCell ⟨pb,0,none⟩ (.slice pd nd cd)) pb (l.drop 4) (if big=true then 0 else 1) no∧W.grownBy (w.setCell ⟨pb,0,none⟩ (.slice pd nd cd)) (some pb)):=fun w g=>by
    have k:=h.kept g
    obtain ⟨a,b⟩:=k.set hd
    exact ⟨g.cell hx (by simp),k.fz 0,a,gt_trans (gt_some g pb) b (.inl rfl)⟩
  have hsl:∀ w,(Instr.slice 39 (.slice p l.length c) (some (.int .i64 4)) none none).run Tryz.prog w=.ok (.slice pd nd cd) w:=fun w=>by
    rw [run_slice_l _ _ _ _ _ Tryz.underlying39 .i64 4 (by decide) (by omega),←hxd]
    rfl
  have HB:=Lib.hid (fun w (g:W.grownBy w none)=>be32 w pb p l.length c l (hv.grow (gt_trans h.g g (.inr (.inl rfl))) (.inr rfl)) hl)
  have HL:=Lib.hid (fun w (g:W.grownBy w none)=>le32 w pb p l.length c l (hv.grow (gt_trans h.g g (.inr (.inl rfl))) (.inr rfl)) hl)
  have hli:¬ (l.length:Int)<4:=by omega
  have c1:=h.c1
  clear hv hxd hd h
  have hgd:W.grownBy W.drew none:=gt_drew_r (gt_refl _ _)
  cases big
  all_goals
    simp only [if_true,if_false,Bool.false_eq_true] at c1 HN ⊢
    go_enter Tryz.func198,Tryz.ntmps198
    go_wp2_with fail
    go_region_with (first
      | (go_at_call 241;refine (HB.out _ ?_).mono ?_;assumption;rintro e w1 ⟨rfl,hg1⟩;have hg2:=gt_trans hgd hg1 (.inl rfl);obtain ⟨x0,f0,_⟩:=HN.out _ hg2)
      | (go_at_call 242;refine (HL.out _ ?_).mono ?_;assumption;rintro e w1 ⟨rfl,hg1⟩;have hg2:=gt_trans hgd hg1 (.inl rfl);obtain ⟨x0,f0,_⟩:=HN.out _ hg2))
    all_goals
      go_wp2_with fail
      go_ret2
      exact ⟨rfl,(HN.out _ hg2).2.2⟩
end
section
open Go.RowKit
theorem parseF64_bad (V W:World) (pb o:Nat) (no:Bool) (l:List UInt8) (hl:l.length<8) (h:WP V W pb l o no):Calls Tryz.prog 243 #[.pointer (some ⟨pb,0,none⟩)] W fun e w'=>(∃ ty x,e=.returned (.tuple #[.float .f64 0,.iface ty x]))∧W.grownBy w' (some pb):=by
  obtain ⟨x,hx,hv⟩:=h.x
  obtain ⟨p,c,rfl,_⟩:=hv.ex
  have hli:(l.length:Int)<8:=by omega
  generalize l.length=n at hx hli
  clear hv h hl
  go_enter Tryz.func243,Tryz.ntmps243
  go_wp2_with fail
  go_ret2
  exact ⟨⟨_,_,rfl⟩,gt_refl _ _⟩
theorem parseF64_ok (V W:World) (pb:Nat) (big no:Bool) (l:List UInt8) (hl:8≤l.length) (h:WP V W pb l (if big=true then 0 else 1) no):Calls Tryz.prog 243 #[.pointer (some ⟨pb,0,none⟩)] W fun e w'=>e=.returned (.tuple #[.float .f64 (numL big (l.take 8)),.nilIface])∧WP V w' pb (l.drop 8) (if big=true then 0 else 1) no∧W.grownBy w' (some pb):=by
  obtain ⟨x,hx,hv⟩:=h.x
  obtain ⟨p,c,rfl,h1,_⟩:=hv.ex
  have hd:=hv.drop 8 hl
  obtain ⟨pd,nd,cd,hxd⟩ : ∃ pd nd cd,sliced p 8 l.length c 1=.slice pd nd cd:=⟨_,_,_,rfl⟩
  rw [hxd] at hd
  have HN:Hid (∀ w,W.grownBy w none→w.cell? ⟨pb,0,none⟩=some (.slice p l.length c)∧w.frozen? ⟨pb,0,none⟩=false∧WP V (w.setCell ⟨pb,0,none⟩ (.slice pd nd cd)) pb (l.drop 8) (if big=true then 0 else 1) no∧W.grownBy (w.setCell ⟨pb,0,none⟩ (.slice pd nd cd)) (some pb)):=fun w g=>by
    have k:=h.kept g
    obtain ⟨a,b⟩:=k.set hd
    exact ⟨g.cell hx (by simp),k.fz 0,a,gt_trans (gt_some g pb) b (.inl rfl)⟩
  have hsl:∀ w,(Instr.slice 39 (.slice p l.length c) (some (.int .i64 8)) none none).run Tryz.prog w=.ok (.slice pd nd cd) w:=fun w=>by
    rw [run_slice_l _ _ _ _ _ Tryz.underlying39 .i64 8 (by decide) (by omega),←hxd]
    rfl
  have HB:=Lib.hid (fun w (g:W.grownBy w none)=>be64 w pb p l.length c l (hv.grow (gt_trans h.g g (.inr (.inl rfl))) (.inr rfl)) hl)
  have HL:=Lib.hid (fun w (g:W.grownBy w none)=>le64 w pb p l.length c l (hv.grow (gt_trans h.g g (.inr (.inl rfl))) (.inr rfl)) hl)
  have hli:¬ (l.length:Int)<8:=by omega
  have c1:=h.c1
  clear hv hxd hd h
  have hff:∀ (w:World) (n:Nat),(callFunc 153 #[.int .u64 n]).run Tryz.prog w=.ok (.value (.float .f64 n)) w:=fun w n=>by kernel_rfl
  have hgd:W.grownBy W.drew none:=gt_drew_r (gt_refl _ _)
  cases big
  all_goals
    simp only [if_true,if_false,Bool.false_eq_true] at c1 HN ⊢
    go_enter Tryz.func243,Tryz.ntmps243
    go_wp2_with fail
    go_region_with (first
      | (go_at_call 292;refine (HB.out _ ?_).mono ?_;assumption;rintro e w1 ⟨rfl,hg1⟩;have hg2:=gt_trans hgd hg1 (.inl rfl);obtain ⟨x0,f0,_⟩:=HN.out _ hg2)
      | (go_at_call 293;refine (HL.out _ ?_).mono ?_;assumption;rintro e w1 ⟨rfl,hg1⟩;have hg2:=gt_trans hgd hg1 (.inl rfl);obtain ⟨x0,f0,_⟩:=HN.out _ hg2))
    all_goals
      go_wp2_with fail
      go_ret2
      exact ⟨rfl,(HN.out _ hg2).2.2⟩
def codeOf (c:Nat):Option (Int × Nat):=if c % 1000<1∨7<c % 1000∨3<c / 1000 then none else some (if c % 1000=7 then 0 else (c % 1000:Nat),c / 1000)
def CdPost (V W:World) (pb:Nat) (l:List UInt8) (big:Bool) (c:Nat) (e:Ending) (w':World):Prop:=match codeOf c with
  | none=>(∃ ty x,e=.returned (.tuple #[.int .i64 0,.int .u8 0,.iface ty x]))∧W.grownBy w' (some pb)
  | some (k,d)=>e=.returned (.tuple #[.int .i64 k,.int .u8 d,.nilIface])∧WP V w' pb l (if big=true then 0 else 1) (!big)∧W.grownBy w' (some pb)
theorem cd_ok {V W w1:World} {pb:Nat} {l:List UInt8} {big:Bool} {c d:Nat} {k:Int} (hw:WP V w1 pb l (if big=true then 0 else 1) (!big)) (hg:W.grownBy w1 (some pb)) (hc:codeOf c=some (k,d)):CdPost V W pb l big c (.returned (.tuple #[.int .i64 k,.int .u8 d,.nilIface])) w1:=by
  unfold CdPost
  rw [hc]
  exact ⟨rfl,hw,hg⟩
theorem cd_err {V W w1:World} {pb:Nat} {l:List UInt8} {big:Bool} {c ty:Nat} {x:Value} (hg:W.grownBy w1 (some pb)) (hc:codeOf c=none):CdPost V W pb l big c (.returned (.tuple #[.int .i64 0,.int .u8 0,.iface ty x])) w1:=by
  unfold CdPost
  rw [hc]
  exact ⟨⟨_,_,rfl⟩,hg⟩
theorem code_some {c d:Nat} {k:Int} (h0:1≤c % 1000) (h7:c % 1000≤7) (hk:(c % 1000=7∧k=0)∨(c % 1000<7∧(c % 1000:Nat)=k)) (hd:c / 1000=d) (h3:d<4):codeOf c=some (k,d):=by
  unfold codeOf
  rw [if_neg (by omega),hd]
  rcases hk with ⟨h,rfl⟩ | ⟨h,rfl⟩
  · rw [if_pos h]
  · rw [if_neg (by omega)]
theorem code_none {c:Nat} (h:c % 1000<1∨7<c % 1000∨3<c / 1000):codeOf c=none:=if_pos h
theorem parseGC_ok (V W:World) (pb:Nat) (big:Bool) (l:List UInt8) (hl:4≤l.length) (h:WP V W pb l (if big=true then 0 else 1) (!big)):Calls Tryz.prog 155 #[.pointer (some ⟨pb,0,none⟩)] W (CdPost V W pb (l.drop 4) big (numL big (l.take 4))):=by
  have H:=Lib.hid (parseU32_ok V W pb big (!big) l hl h)
  have hc:numL big (l.take 4)<4294967296:=by
    have:=numL_lt big (l.take 4) 4 (by rw [List.length_take];omega)
    have e:256 ^ 4=4294967296:=by decide
    omega
  generalize numL big (l.take 4)=c at H hc ⊢
  clear h
  go_enter Tryz.func155,Tryz.ntmps155
  go_wp2_with (first
    | (go_at_call 198;refine H.out.mono ?_;rintro e w1 ⟨rfl,hw1,hg1⟩;have HW:=Lib.hid hw1;clear hw1))
  all_goals
    simp only [beq_iff_eq,beq_eq_false_iff_ne,ne_eq] at *
    refine bodyPost_ret (by simp [results,Tryz.results155,go_sem];try rfl) rfl ?_
    first
      | (refine cd_ok (c:=c) (d:=0) HW.out hg1 ?_;refine code_some ?_ ?_ ?_ ?_ ?_ <;> omega)
      | (refine cd_ok (c:=c) (d:=1) HW.out hg1 ?_;refine code_some ?_ ?_ ?_ ?_ ?_ <;> omega)
      | (refine cd_ok (c:=c) (d:=2) HW.out hg1 ?_;refine code_some ?_ ?_ ?_ ?_ ?_ <;> omega)
      | (refine cd_ok (c:=c) (d:=3) HW.out hg1 ?_;refine code_some ?_ ?_ ?_ ?_ ?_ <;> omega)
      | (refine cd_err (c:=c) hg1 ?_;refine code_none ?_;omega)
end
end Go.Proofs.YtlpaecafpbbbkaaGreatDoor
