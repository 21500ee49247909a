/- The package's reader of well known binary: a geometry behind its head. The package's reader of well known binary: plain laws on parts that are geometries of their own. The package's reader of well known binary: bytes as floats. -/
import Derived.Deep.RegionLaw
import Derived.Test.YtlpaecafpbbbkaaGreatDoorBYT19
import Derived.Test.YtlpaecafpbbbkaaGreatDoorBYT20
set_option linter.unusedVariables false
set_option linter.unusedSimpArgs false
set_option maxRecDepth 100000
set_option maxHeartbeats 24000000
namespace Go.Proofs.YtlpaecafpbbbkaaGreatDoor
section
open Go.RowKit
theorem rootLs {D:(Nat→Prop)→World→Value→Raw→Prop} (K:DK0 D) (hfm:∀ {B:Nat→Prop} {W:World} {x:Value} {t:Raw},D B W x t→∃ (er:Nat) (ep:Option Addr) (en ec:Nat),x=.agg #[.int .u8 er,.slice ep en ec]) (h:Nat) (hD:∀ {B W v t},GeoK 2 167 D B W v t→DGeo (h+1) B W v t) (V W:World) (pb r:Nat) (big:Bool) (l:List UInt8) (R:Rd Raw) (hkR:∀ t l,R=.ok t l→kindOf t=2)
    (HP:∀ W,WP V W pb l (if big=true then 0 else 1) (!big)→Calls Tryz.prog 200 #[.pointer (some ⟨pb,0,none⟩),.int .u8 r] W (PrPost D (.agg #[.int .u8 0,.slice none 0 0]) V W pb big R)) (hw:WP V W pb l (if big=true then 0 else 1) (!big)) :
    Calls Tryz.prog 156 #[.pointer (some ⟨pb,0,none⟩),.int .i64 2,.int .u8 r] W (RnPost (h+1) V W pb R):=by
  have hpb:=hw.lt
  have HP1:=Lib.hid (HP _ (hw.kept (World.grownBy_alloc W (.cells #[.int .i64 0,.nilIface] 57) none)))
  have HFM:Hid (∀ (B:Nat→Prop) (W:World) (x:Value) (t:Raw),D B W x t→∃ (er:Nat) (ep:Option Addr) (en ec:Nat),x=.agg #[.int .u8 er,.slice ep en ec]):=fun B W x t h=>hfm h
  have HG:=Lib.hid (gt_some (World.grownBy_alloc W (.cells #[.int .i64 0,.nilIface] 57) none) pb)
  have HC:Hid (∀ w,(W.alloc (.cells #[.int .i64 0,.nilIface] 57)).grownBy w (some pb)→w.cell? ⟨W.heap.size,0,none⟩=some (.int .i64 0)∧w.cell? ⟨W.heap.size,1,none⟩=some .nilIface∧∀ j,w.frozen? ⟨W.heap.size,j,none⟩=false):=fun w g=>by
    have hn:some W.heap.size≠some pb:=fun e=>by injection e with e;omega
    have hb:=g.block W.heap.size (by simp) hn
    exact ⟨g.cell (by simp) hn,g.cell (by simp) hn,fun j=>by rw [World.frozen?_of_block hb];simp⟩
  have HVW:Hid (V.heap.size≤W.heap.size):=hw.g.size
  have HOk:Hid (∀ (w1 w2:World) (x:Value) (t:Raw) (l':List UInt8) (b:Nat),(W.alloc (.cells #[.int .i64 0,.nilIface] 57)).grownBy w1 (some pb)→D (Fr (W.alloc (.cells #[.int .i64 0,.nilIface] 57)) w1) w1 x (newT t)→WP V w1 pb l' (if big=true then 0 else 1) (!big)→w1.grownBy w2 none→w1.heap.size≤b→b<w2.heap.size→(∀ i u,x.cells[i]?=some u→w2.cell? ⟨b,i,none⟩=some u)→R=.ok t l'→okK t=true →
      RnPost (h+1) V W pb R (.returned (.tuple #[.agg #[.int .i64 2,.iface 167 (.pointer (some ⟨b,0,none⟩))],.nilIface])) ((w2.setCell ⟨W.heap.size,0,none⟩ (.int .i64 2)).setCell ⟨W.heap.size,1,none⟩ (.iface 167 (.pointer (some ⟨b,0,none⟩))))):=fun w1 w2 x t l' b g1 hd hw1 g2 hb1 hb2 hx hRt hok=>by
    have s1:W.heap.size<w1.heap.size:=by have:=g1.size;simp at this;omega
    have s2:=g2.size
    have h1:=K.keep (.set (q:=⟨W.heap.size,1,none⟩) (fun hb=>by have:=hb.1;simp at this;omega) (.iface 167 (.pointer (some ⟨b,0,none⟩)))) (K.keep (.set (q:=⟨W.heap.size,0,none⟩) (fun hb=>by have:=hb.1;simp at this;omega) (.int .i64 2)) (K.mono g2 hd))
    have hkn:kindOf (newT t)=2:=by rw [kindOf_new,hkR t l' hRt];decide
    refine ⟨gt_set_r (gt_set_r (gt_trans HG.out (gt_trans g1 g2 (.inr (.inl rfl))) (.inl rfl)) _ _ (Nat.le_refl _)) _ _ (Nat.le_refl _),.inr ⟨t,l',_,big,hRt,hok,rfl,hD ⟨b,x,hkn,rfl,⟨by omega,by simpa [World.setCell] using hb2⟩,fun i u hi=>?_,K.weak (fun c hc=>⟨by have:=hc.1;simp at this;omega,by have:=hc.2;simpa [World.setCell] using (by omega:c<w2.heap.size)⟩) h1⟩,((hw1.kept g2).put _ _ HVW.out).put _ _ HVW.out⟩⟩
    rw [World.cell?_setCell_other (h:=fun e=>by have:=congrArg Addr.block e;simp at this;omega),World.cell?_setCell_other (h:=fun e=>by have:=congrArg Addr.block e;simp at this;omega)]
    exact hx i u hi
  clear HP hw
  go_enter Tryz.func156,Tryz.ntmps156
  go_wp2_with (first
    | (go_at_call 200;go_loud (refine HP1.out.mono ?_;rintro e w1 hpp;have hor:=hpp.or;clear hpp;obtain ⟨hg1,⟨hbad,ty,xx,rfl⟩ | ⟨t,l',v,hRt,hok,rfl,hd,hw1⟩⟩:=hor <;> (first
        | (have HBad:=Lib.hid hbad;clear hbad)
        | (obtain ⟨er,ep,en,ec,rfl⟩:=HFM.out _ _ _ _ hd;have HD:=Lib.hid hd;have HW1:=Lib.hid hw1;clear hd hw1))))
    | (go_at_call 51;go_loud (refine (AsLineString _ _ _ _ _).mono ?_;rintro e w2 ⟨rfl,hcl,hlt,hg2⟩;have g12:=gt_trans (World.grownBy_alloc w1 _ none) hg2 (.inl rfl);obtain ⟨r0,r1,rf⟩:=HC.out _ (gt_trans hg1 g12 (.inr (.inl rfl)));have rf0:=rf 0;have rf1:=rf 1)))
  all_goals refine bodyPost_ret (by simp [results,Tryz.results156,go_sem,r0,r1];try rfl) rfl ?_
  · exact ⟨gt_set_r (gt_set_r (gt_trans HG.out (gt_trans hg1 g12 (.inr (.inl rfl))) (.inl rfl)) _ _ (Nat.le_refl _)) _ _ (Nat.le_refl _),.inl ⟨HBad.out,_,_,_,.inr ⟨_,_,_,rfl⟩,rfl⟩⟩
  · have hf:=HOk.out w1 w2 _ t l' _ hg1 HD.out HW1.out g12 (by simp:w1.heap.size≤w1.heap.size+1) (by simpa using hlt) (fun i u hi=>by
      rcases i with _ | _ | i
      · have e9:(.int .u8 er:Value)=u:=Option.some.inj hi
        rw [←e9]
        simpa using hcl.1
      · have e9:(.slice ep en ec:Value)=u:=Option.some.inj hi
        rw [←e9]
        simpa using hcl.2
      · exact absurd hi (by simp [Value.cells])
      ) (by first | exact hRt | rfl) hok
    exact hf
theorem rootPg {D:(Nat→Prop)→World→Value→Raw→Prop} (K:DK0 D) (hfm:∀ {B:Nat→Prop} {W:World} {x:Value} {t:Raw},D B W x t→∃ (ep:Option Addr) (en ec er:Nat),x=.agg #[.slice ep en ec,.int .u8 er]) (h:Nat) (hD:∀ {B W v t},GeoK 3 170 D B W v t→DGeo (h+1) B W v t) (V W:World) (pb r:Nat) (big:Bool) (l:List UInt8) (R:Rd Raw) (hkR:∀ t l,R=.ok t l→kindOf t=3)
    (HP:∀ W,WP V W pb l (if big=true then 0 else 1) (!big)→Calls Tryz.prog 201 #[.pointer (some ⟨pb,0,none⟩),.int .u8 r] W (PrPost D (.agg #[.slice none 0 0,.int .u8 0]) V W pb big R)) (hw:WP V W pb l (if big=true then 0 else 1) (!big)) :
    Calls Tryz.prog 156 #[.pointer (some ⟨pb,0,none⟩),.int .i64 3,.int .u8 r] W (RnPost (h+1) V W pb R):=by
  have hpb:=hw.lt
  have HP1:=Lib.hid (HP _ (hw.kept (World.grownBy_alloc W (.cells #[.int .i64 0,.nilIface] 57) none)))
  have HFM:Hid (∀ (B:Nat→Prop) (W:World) (x:Value) (t:Raw),D B W x t→∃ (ep:Option Addr) (en ec er:Nat),x=.agg #[.slice ep en ec,.int .u8 er]):=fun B W x t h=>hfm h
  have HG:=Lib.hid (gt_some (World.grownBy_alloc W (.cells #[.int .i64 0,.nilIface] 57) none) pb)
  have HC:Hid (∀ w,(W.alloc (.cells #[.int .i64 0,.nilIface] 57)).grownBy w (some pb)→w.cell? ⟨W.heap.size,0,none⟩=some (.int .i64 0)∧w.cell? ⟨W.heap.size,1,none⟩=some .nilIface∧∀ j,w.frozen? ⟨W.heap.size,j,none⟩=false):=fun w g=>by
    have hn:some W.heap.size≠some pb:=fun e=>by injection e with e;omega
    have hb:=g.block W.heap.size (by simp) hn
    exact ⟨g.cell (by simp) hn,g.cell (by simp) hn,fun j=>by rw [World.frozen?_of_block hb];simp⟩
  have HVW:Hid (V.heap.size≤W.heap.size):=hw.g.size
  have HOk:Hid (∀ (w1 w2:World) (x:Value) (t:Raw) (l':List UInt8) (b:Nat),(W.alloc (.cells #[.int .i64 0,.nilIface] 57)).grownBy w1 (some pb)→D (Fr (W.alloc (.cells #[.int .i64 0,.nilIface] 57)) w1) w1 x (newT t)→WP V w1 pb l' (if big=true then 0 else 1) (!big)→w1.grownBy w2 none→w1.heap.size≤b→b<w2.heap.size→(∀ i u,x.cells[i]?=some u→w2.cell? ⟨b,i,none⟩=some u)→R=.ok t l'→okK t=true →
      RnPost (h+1) V W pb R (.returned (.tuple #[.agg #[.int .i64 3,.iface 170 (.pointer (some ⟨b,0,none⟩))],.nilIface])) ((w2.setCell ⟨W.heap.size,0,none⟩ (.int .i64 3)).setCell ⟨W.heap.size,1,none⟩ (.iface 170 (.pointer (some ⟨b,0,none⟩))))):=fun w1 w2 x t l' b g1 hd hw1 g2 hb1 hb2 hx hRt hok=>by
    have s1:W.heap.size<w1.heap.size:=by have:=g1.size;simp at this;omega
    have s2:=g2.size
    have h1:=K.keep (.set (q:=⟨W.heap.size,1,none⟩) (fun hb=>by have:=hb.1;simp at this;omega) (.iface 170 (.pointer (some ⟨b,0,none⟩)))) (K.keep (.set (q:=⟨W.heap.size,0,none⟩) (fun hb=>by have:=hb.1;simp at this;omega) (.int .i64 3)) (K.mono g2 hd))
    have hkn:kindOf (newT t)=3:=by rw [kindOf_new,hkR t l' hRt];decide
    refine ⟨gt_set_r (gt_set_r (gt_trans HG.out (gt_trans g1 g2 (.inr (.inl rfl))) (.inl rfl)) _ _ (Nat.le_refl _)) _ _ (Nat.le_refl _),.inr ⟨t,l',_,big,hRt,hok,rfl,hD ⟨b,x,hkn,rfl,⟨by omega,by simpa [World.setCell] using hb2⟩,fun i u hi=>?_,K.weak (fun c hc=>⟨by have:=hc.1;simp at this;omega,by have:=hc.2;simpa [World.setCell] using (by omega:c<w2.heap.size)⟩) h1⟩,((hw1.kept g2).put _ _ HVW.out).put _ _ HVW.out⟩⟩
    rw [World.cell?_setCell_other (h:=fun e=>by have:=congrArg Addr.block e;simp at this;omega),World.cell?_setCell_other (h:=fun e=>by have:=congrArg Addr.block e;simp at this;omega)]
    exact hx i u hi
  clear HP hw
  go_enter Tryz.func156,Tryz.ntmps156
  go_wp2_with (first
    | (go_at_call 201;go_loud (refine HP1.out.mono ?_;rintro e w1 hpp;have hor:=hpp.or;clear hpp;obtain ⟨hg1,⟨hbad,ty,xx,rfl⟩ | ⟨t,l',v,hRt,hok,rfl,hd,hw1⟩⟩:=hor <;> (first
        | (have HBad:=Lib.hid hbad;clear hbad)
        | (obtain ⟨ep,en,ec,er,rfl⟩:=HFM.out _ _ _ _ hd;have HD:=Lib.hid hd;have HW1:=Lib.hid hw1;clear hd hw1))))
    | (go_at_call 53;go_loud (refine (AsPolygon _ _ _ _ _).mono ?_;rintro e w2 ⟨rfl,hcl,hlt,hg2⟩;have g12:=gt_trans (World.grownBy_alloc w1 _ none) hg2 (.inl rfl);obtain ⟨r0,r1,rf⟩:=HC.out _ (gt_trans hg1 g12 (.inr (.inl rfl)));have rf0:=rf 0;have rf1:=rf 1)))
  all_goals refine bodyPost_ret (by simp [results,Tryz.results156,go_sem,r0,r1];try rfl) rfl ?_
  · exact ⟨gt_set_r (gt_set_r (gt_trans HG.out (gt_trans hg1 g12 (.inr (.inl rfl))) (.inl rfl)) _ _ (Nat.le_refl _)) _ _ (Nat.le_refl _),.inl ⟨HBad.out,_,_,_,.inr ⟨_,_,_,rfl⟩,rfl⟩⟩
  · have hf:=HOk.out w1 w2 _ t l' _ hg1 HD.out HW1.out g12 (by simp:w1.heap.size≤w1.heap.size+1) (by simpa using hlt) (fun i u hi=>by
      rcases i with _ | _ | i
      · have e9:(.slice ep en ec:Value)=u:=Option.some.inj hi
        rw [←e9]
        simpa using hcl.1
      · have e9:(.int .u8 er:Value)=u:=Option.some.inj hi
        rw [←e9]
        simpa using hcl.2
      · exact absurd hi (by simp [Value.cells])
      ) (by first | exact hRt | rfl) hok
    exact hf
theorem rootMpt {D:(Nat→Prop)→World→Value→Raw→Prop} (K:DK0 D) (hfm:∀ {B:Nat→Prop} {W:World} {x:Value} {t:Raw},D B W x t→∃ (ep:Option Addr) (en ec er:Nat),x=.agg #[.slice ep en ec,.int .u8 er]) (h:Nat) (hD:∀ {B W v t},GeoK 4 173 D B W v t→DGeo (h+1) B W v t) (V W:World) (pb r:Nat) (big:Bool) (l:List UInt8) (R:Rd Raw) (hkR:∀ t l,R=.ok t l→kindOf t=4)
    (HP:∀ W,WP V W pb l (if big=true then 0 else 1) (!big)→Calls Tryz.prog 202 #[.pointer (some ⟨pb,0,none⟩),.int .u8 r] W (PrPost D (.agg #[.slice none 0 0,.int .u8 0]) V W pb big R)) (hw:WP V W pb l (if big=true then 0 else 1) (!big)) :
    Calls Tryz.prog 156 #[.pointer (some ⟨pb,0,none⟩),.int .i64 4,.int .u8 r] W (RnPost (h+1) V W pb R):=by
  have hpb:=hw.lt
  have HP1:=Lib.hid (HP _ (hw.kept (World.grownBy_alloc W (.cells #[.int .i64 0,.nilIface] 57) none)))
  have HFM:Hid (∀ (B:Nat→Prop) (W:World) (x:Value) (t:Raw),D B W x t→∃ (ep:Option Addr) (en ec er:Nat),x=.agg #[.slice ep en ec,.int .u8 er]):=fun B W x t h=>hfm h
  have HG:=Lib.hid (gt_some (World.grownBy_alloc W (.cells #[.int .i64 0,.nilIface] 57) none) pb)
  have HC:Hid (∀ w,(W.alloc (.cells #[.int .i64 0,.nilIface] 57)).grownBy w (some pb)→w.cell? ⟨W.heap.size,0,none⟩=some (.int .i64 0)∧w.cell? ⟨W.heap.size,1,none⟩=some .nilIface∧∀ j,w.frozen? ⟨W.heap.size,j,none⟩=false):=fun w g=>by
    have hn:some W.heap.size≠some pb:=fun e=>by injection e with e;omega
    have hb:=g.block W.heap.size (by simp) hn
    exact ⟨g.cell (by simp) hn,g.cell (by simp) hn,fun j=>by rw [World.frozen?_of_block hb];simp⟩
  have HVW:Hid (V.heap.size≤W.heap.size):=hw.g.size
  have HOk:Hid (∀ (w1 w2:World) (x:Value) (t:Raw) (l':List UInt8) (b:Nat),(W.alloc (.cells #[.int .i64 0,.nilIface] 57)).grownBy w1 (some pb)→D (Fr (W.alloc (.cells #[.int .i64 0,.nilIface] 57)) w1) w1 x (newT t)→WP V w1 pb l' (if big=true then 0 else 1) (!big)→w1.grownBy w2 none→w1.heap.size≤b→b<w2.heap.size→(∀ i u,x.cells[i]?=some u→w2.cell? ⟨b,i,none⟩=some u)→R=.ok t l'→okK t=true →
      RnPost (h+1) V W pb R (.returned (.tuple #[.agg #[.int .i64 4,.iface 173 (.pointer (some ⟨b,0,none⟩))],.nilIface])) ((w2.setCell ⟨W.heap.size,0,none⟩ (.int .i64 4)).setCell ⟨W.heap.size,1,none⟩ (.iface 173 (.pointer (some ⟨b,0,none⟩))))):=fun w1 w2 x t l' b g1 hd hw1 g2 hb1 hb2 hx hRt hok=>by
    have s1:W.heap.size<w1.heap.size:=by have:=g1.size;simp at this;omega
    have s2:=g2.size
    have h1:=K.keep (.set (q:=⟨W.heap.size,1,none⟩) (fun hb=>by have:=hb.1;simp at this;omega) (.iface 173 (.pointer (some ⟨b,0,none⟩)))) (K.keep (.set (q:=⟨W.heap.size,0,none⟩) (fun hb=>by have:=hb.1;simp at this;omega) (.int .i64 4)) (K.mono g2 hd))
    have hkn:kindOf (newT t)=4:=by rw [kindOf_new,hkR t l' hRt];decide
    refine ⟨gt_set_r (gt_set_r (gt_trans HG.out (gt_trans g1 g2 (.inr (.inl rfl))) (.inl rfl)) _ _ (Nat.le_refl _)) _ _ (Nat.le_refl _),.inr ⟨t,l',_,big,hRt,hok,rfl,hD ⟨b,x,hkn,rfl,⟨by omega,by simpa [World.setCell] using hb2⟩,fun i u hi=>?_,K.weak (fun c hc=>⟨by have:=hc.1;simp at this;omega,by have:=hc.2;simpa [World.setCell] using (by omega:c<w2.heap.size)⟩) h1⟩,((hw1.kept g2).put _ _ HVW.out).put _ _ HVW.out⟩⟩
    rw [World.cell?_setCell_other (h:=fun e=>by have:=congrArg Addr.block e;simp at this;omega),World.cell?_setCell_other (h:=fun e=>by have:=congrArg Addr.block e;simp at this;omega)]
    exact hx i u hi
  clear HP hw
  go_enter Tryz.func156,Tryz.ntmps156
  go_wp2_with (first
    | (go_at_call 202;go_loud (refine HP1.out.mono ?_;rintro e w1 hpp;have hor:=hpp.or;clear hpp;obtain ⟨hg1,⟨hbad,ty,xx,rfl⟩ | ⟨t,l',v,hRt,hok,rfl,hd,hw1⟩⟩:=hor <;> (first
        | (have HBad:=Lib.hid hbad;clear hbad)
        | (obtain ⟨ep,en,ec,er,rfl⟩:=HFM.out _ _ _ _ hd;have HD:=Lib.hid hd;have HW1:=Lib.hid hw1;clear hd hw1))))
    | (go_at_call 55;go_loud (refine (AsMultiPoint _ _ _ _ _).mono ?_;rintro e w2 ⟨rfl,hcl,hlt,hg2⟩;have g12:=gt_trans (World.grownBy_alloc w1 _ none) hg2 (.inl rfl);obtain ⟨r0,r1,rf⟩:=HC.out _ (gt_trans hg1 g12 (.inr (.inl rfl)));have rf0:=rf 0;have rf1:=rf 1)))
  all_goals refine bodyPost_ret (by simp [results,Tryz.results156,go_sem,r0,r1];try rfl) rfl ?_
  · exact ⟨gt_set_r (gt_set_r (gt_trans HG.out (gt_trans hg1 g12 (.inr (.inl rfl))) (.inl rfl)) _ _ (Nat.le_refl _)) _ _ (Nat.le_refl _),.inl ⟨HBad.out,_,_,_,.inr ⟨_,_,_,rfl⟩,rfl⟩⟩
  · have hf:=HOk.out w1 w2 _ t l' _ hg1 HD.out HW1.out g12 (by simp:w1.heap.size≤w1.heap.size+1) (by simpa using hlt) (fun i u hi=>by
      rcases i with _ | _ | i
      · have e9:(.slice ep en ec:Value)=u:=Option.some.inj hi
        rw [←e9]
        simpa using hcl.1
      · have e9:(.int .u8 er:Value)=u:=Option.some.inj hi
        rw [←e9]
        simpa using hcl.2
      · exact absurd hi (by simp [Value.cells])
      ) (by first | exact hRt | rfl) hok
    exact hf
theorem rootMl {D:(Nat→Prop)→World→Value→Raw→Prop} (K:DK0 D) (hfm:∀ {B:Nat→Prop} {W:World} {x:Value} {t:Raw},D B W x t→∃ (ep:Option Addr) (en ec er:Nat),x=.agg #[.slice ep en ec,.int .u8 er]) (h:Nat) (hD:∀ {B W v t},GeoK 5 176 D B W v t→DGeo (h+1) B W v t) (V W:World) (pb r:Nat) (big:Bool) (l:List UInt8) (R:Rd Raw) (hkR:∀ t l,R=.ok t l→kindOf t=5)
    (HP:∀ W,WP V W pb l (if big=true then 0 else 1) (!big)→Calls Tryz.prog 203 #[.pointer (some ⟨pb,0,none⟩),.int .u8 r] W (PrPost D (.agg #[.slice none 0 0,.int .u8 0]) V W pb big R)) (hw:WP V W pb l (if big=true then 0 else 1) (!big)) :
    Calls Tryz.prog 156 #[.pointer (some ⟨pb,0,none⟩),.int .i64 5,.int .u8 r] W (RnPost (h+1) V W pb R):=by
  have hpb:=hw.lt
  have HP1:=Lib.hid (HP _ (hw.kept (World.grownBy_alloc W (.cells #[.int .i64 0,.nilIface] 57) none)))
  have HFM:Hid (∀ (B:Nat→Prop) (W:World) (x:Value) (t:Raw),D B W x t→∃ (ep:Option Addr) (en ec er:Nat),x=.agg #[.slice ep en ec,.int .u8 er]):=fun B W x t h=>hfm h
  have HG:=Lib.hid (gt_some (World.grownBy_alloc W (.cells #[.int .i64 0,.nilIface] 57) none) pb)
  have HC:Hid (∀ w,(W.alloc (.cells #[.int .i64 0,.nilIface] 57)).grownBy w (some pb)→w.cell? ⟨W.heap.size,0,none⟩=some (.int .i64 0)∧w.cell? ⟨W.heap.size,1,none⟩=some .nilIface∧∀ j,w.frozen? ⟨W.heap.size,j,none⟩=false):=fun w g=>by
    have hn:some W.heap.size≠some pb:=fun e=>by injection e with e;omega
    have hb:=g.block W.heap.size (by simp) hn
    exact ⟨g.cell (by simp) hn,g.cell (by simp) hn,fun j=>by rw [World.frozen?_of_block hb];simp⟩
  have HVW:Hid (V.heap.size≤W.heap.size):=hw.g.size
  have HOk:Hid (∀ (w1 w2:World) (x:Value) (t:Raw) (l':List UInt8) (b:Nat),(W.alloc (.cells #[.int .i64 0,.nilIface] 57)).grownBy w1 (some pb)→D (Fr (W.alloc (.cells #[.int .i64 0,.nilIface] 57)) w1) w1 x (newT t)→WP V w1 pb l' (if big=true then 0 else 1) (!big)→w1.grownBy w2 none→w1.heap.size≤b→b<w2.heap.size→(∀ i u,x.cells[i]?=some u→w2.cell? ⟨b,i,none⟩=some u)→R=.ok t l'→okK t=true →
      RnPost (h+1) V W pb R (.returned (.tuple #[.agg #[.int .i64 5,.iface 176 (.pointer (some ⟨b,0,none⟩))],.nilIface])) ((w2.setCell ⟨W.heap.size,0,none⟩ (.int .i64 5)).setCell ⟨W.heap.size,1,none⟩ (.iface 176 (.pointer (some ⟨b,0,none⟩))))):=fun w1 w2 x t l' b g1 hd hw1 g2 hb1 hb2 hx hRt hok=>by
    have s1:W.heap.size<w1.heap.size:=by have:=g1.size;simp at this;omega
    have s2:=g2.size
    have h1:=K.keep (.set (q:=⟨W.heap.size,1,none⟩) (fun hb=>by have:=hb.1;simp at this;omega) (.iface 176 (.pointer (some ⟨b,0,none⟩)))) (K.keep (.set (q:=⟨W.heap.size,0,none⟩) (fun hb=>by have:=hb.1;simp at this;omega) (.int .i64 5)) (K.mono g2 hd))
    have hkn:kindOf (newT t)=5:=by rw [kindOf_new,hkR t l' hRt];decide
    refine ⟨gt_set_r (gt_set_r (gt_trans HG.out (gt_trans g1 g2 (.inr (.inl rfl))) (.inl rfl)) _ _ (Nat.le_refl _)) _ _ (Nat.le_refl _),.inr ⟨t,l',_,big,hRt,hok,rfl,hD ⟨b,x,hkn,rfl,⟨by omega,by simpa [World.setCell] using hb2⟩,fun i u hi=>?_,K.weak (fun c hc=>⟨by have:=hc.1;simp at this;omega,by have:=hc.2;simpa [World.setCell] using (by omega:c<w2.heap.size)⟩) h1⟩,((hw1.kept g2).put _ _ HVW.out).put _ _ HVW.out⟩⟩
    rw [World.cell?_setCell_other (h:=fun e=>by have:=congrArg Addr.block e;simp at this;omega),World.cell?_setCell_other (h:=fun e=>by have:=congrArg Addr.block e;simp at this;omega)]
    exact hx i u hi
  clear HP hw
  go_enter Tryz.func156,Tryz.ntmps156
  go_wp2_with (first
    | (go_at_call 203;go_loud (refine HP1.out.mono ?_;rintro e w1 hpp;have hor:=hpp.or;clear hpp;obtain ⟨hg1,⟨hbad,ty,xx,rfl⟩ | ⟨t,l',v,hRt,hok,rfl,hd,hw1⟩⟩:=hor <;> (first
        | (have HBad:=Lib.hid hbad;clear hbad)
        | (obtain ⟨ep,en,ec,er,rfl⟩:=HFM.out _ _ _ _ hd;have HD:=Lib.hid hd;have HW1:=Lib.hid hw1;clear hd hw1))))
    | (go_at_call 57;go_loud (refine (AsMultiLineString _ _ _ _ _).mono ?_;rintro e w2 ⟨rfl,hcl,hlt,hg2⟩;have g12:=gt_trans (World.grownBy_alloc w1 _ none) hg2 (.inl rfl);obtain ⟨r0,r1,rf⟩:=HC.out _ (gt_trans hg1 g12 (.inr (.inl rfl)));have rf0:=rf 0;have rf1:=rf 1)))
  all_goals refine bodyPost_ret (by simp [results,Tryz.results156,go_sem,r0,r1];try rfl) rfl ?_
  · exact ⟨gt_set_r (gt_set_r (gt_trans HG.out (gt_trans hg1 g12 (.inr (.inl rfl))) (.inl rfl)) _ _ (Nat.le_refl _)) _ _ (Nat.le_refl _),.inl ⟨HBad.out,_,_,_,.inr ⟨_,_,_,rfl⟩,rfl⟩⟩
  · have hf:=HOk.out w1 w2 _ t l' _ hg1 HD.out HW1.out g12 (by simp:w1.heap.size≤w1.heap.size+1) (by simpa using hlt) (fun i u hi=>by
      rcases i with _ | _ | i
      · have e9:(.slice ep en ec:Value)=u:=Option.some.inj hi
        rw [←e9]
        simpa using hcl.1
      · have e9:(.int .u8 er:Value)=u:=Option.some.inj hi
        rw [←e9]
        simpa using hcl.2
      · exact absurd hi (by simp [Value.cells])
      ) (by first | exact hRt | rfl) hok
    exact hf
theorem rootMp {D:(Nat→Prop)→World→Value→Raw→Prop} (K:DK0 D) (hfm:∀ {B:Nat→Prop} {W:World} {x:Value} {t:Raw},D B W x t→∃ (ep:Option Addr) (en ec er:Nat),x=.agg #[.slice ep en ec,.int .u8 er]) (h:Nat) (hD:∀ {B W v t},GeoK 6 179 D B W v t→DGeo (h+1) B W v t) (V W:World) (pb r:Nat) (big:Bool) (l:List UInt8) (R:Rd Raw) (hkR:∀ t l,R=.ok t l→kindOf t=6)
    (HP:∀ W,WP V W pb l (if big=true then 0 else 1) (!big)→Calls Tryz.prog 204 #[.pointer (some ⟨pb,0,none⟩),.int .u8 r] W (PrPost D (.agg #[.slice none 0 0,.int .u8 0]) V W pb big R)) (hw:WP V W pb l (if big=true then 0 else 1) (!big)) :
    Calls Tryz.prog 156 #[.pointer (some ⟨pb,0,none⟩),.int .i64 6,.int .u8 r] W (RnPost (h+1) V W pb R):=by
  have hpb:=hw.lt
  have HP1:=Lib.hid (HP _ (hw.kept (World.grownBy_alloc W (.cells #[.int .i64 0,.nilIface] 57) none)))
  have HFM:Hid (∀ (B:Nat→Prop) (W:World) (x:Value) (t:Raw),D B W x t→∃ (ep:Option Addr) (en ec er:Nat),x=.agg #[.slice ep en ec,.int .u8 er]):=fun B W x t h=>hfm h
  have HG:=Lib.hid (gt_some (World.grownBy_alloc W (.cells #[.int .i64 0,.nilIface] 57) none) pb)
  have HC:Hid (∀ w,(W.alloc (.cells #[.int .i64 0,.nilIface] 57)).grownBy w (some pb)→w.cell? ⟨W.heap.size,0,none⟩=some (.int .i64 0)∧w.cell? ⟨W.heap.size,1,none⟩=some .nilIface∧∀ j,w.frozen? ⟨W.heap.size,j,none⟩=false):=fun w g=>by
    have hn:some W.heap.size≠some pb:=fun e=>by injection e with e;omega
    have hb:=g.block W.heap.size (by simp) hn
    exact ⟨g.cell (by simp) hn,g.cell (by simp) hn,fun j=>by rw [World.frozen?_of_block hb];simp⟩
  have HVW:Hid (V.heap.size≤W.heap.size):=hw.g.size
  have HOk:Hid (∀ (w1 w2:World) (x:Value) (t:Raw) (l':List UInt8) (b:Nat),(W.alloc (.cells #[.int .i64 0,.nilIface] 57)).grownBy w1 (some pb)→D (Fr (W.alloc (.cells #[.int .i64 0,.nilIface] 57)) w1) w1 x (newT t)→WP V w1 pb l' (if big=true then 0 else 1) (!big)→w1.grownBy w2 none→w1.heap.size≤b→b<w2.heap.size→(∀ i u,x.cells[i]?=some u→w2.cell? ⟨b,i,none⟩=some u)→R=.ok t l'→okK t=true →
      RnPost (h+1) V W pb R (.returned (.tuple #[.agg #[.int .i64 6,.iface 179 (.pointer (some ⟨b,0,none⟩))],.nilIface])) ((w2.setCell ⟨W.heap.size,0,none⟩ (.int .i64 6)).setCell ⟨W.heap.size,1,none⟩ (.iface 179 (.pointer (some ⟨b,0,none⟩))))):=fun w1 w2 x t l' b g1 hd hw1 g2 hb1 hb2 hx hRt hok=>by
    have s1:W.heap.size<w1.heap.size:=by have:=g1.size;simp at this;omega
    have s2:=g2.size
    have h1:=K.keep (.set (q:=⟨W.heap.size,1,none⟩) (fun hb=>by have:=hb.1;simp at this;omega) (.iface 179 (.pointer (some ⟨b,0,none⟩)))) (K.keep (.set (q:=⟨W.heap.size,0,none⟩) (fun hb=>by have:=hb.1;simp at this;omega) (.int .i64 6)) (K.mono g2 hd))
    have hkn:kindOf (newT t)=6:=by rw [kindOf_new,hkR t l' hRt];decide
    refine ⟨gt_set_r (gt_set_r (gt_trans HG.out (gt_trans g1 g2 (.inr (.inl rfl))) (.inl rfl)) _ _ (Nat.le_refl _)) _ _ (Nat.le_refl _),.inr ⟨t,l',_,big,hRt,hok,rfl,hD ⟨b,x,hkn,rfl,⟨by omega,by simpa [World.setCell] using hb2⟩,fun i u hi=>?_,K.weak (fun c hc=>⟨by have:=hc.1;simp at this;omega,by have:=hc.2;simpa [World.setCell] using (by omega:c<w2.heap.size)⟩) h1⟩,((hw1.kept g2).put _ _ HVW.out).put _ _ HVW.out⟩⟩
    rw [World.cell?_setCell_other (h:=fun e=>by have:=congrArg Addr.block e;simp at this;omega),World.cell?_setCell_other (h:=fun e=>by have:=congrArg Addr.block e;simp at this;omega)]
    exact hx i u hi
  clear HP hw
  go_enter Tryz.func156,Tryz.ntmps156
  go_wp2_with (first
    | (go_at_call 204;go_loud (refine HP1.out.mono ?_;rintro e w1 hpp;have hor:=hpp.or;clear hpp;obtain ⟨hg1,⟨hbad,ty,xx,rfl⟩ | ⟨t,l',v,hRt,hok,rfl,hd,hw1⟩⟩:=hor <;> (first
        | (have HBad:=Lib.hid hbad;clear hbad)
        | (obtain ⟨ep,en,ec,er,rfl⟩:=HFM.out _ _ _ _ hd;have HD:=Lib.hid hd;have HW1:=Lib.hid hw1;clear hd hw1))))
    | (go_at_call 59;go_loud (refine (AsMultiPolygon _ _ _ _ _).mono ?_;rintro e w2 ⟨rfl,hcl,hlt,hg2⟩;have g12:=gt_trans (World.grownBy_alloc w1 _ none) hg2 (.inl rfl);obtain ⟨r0,r1,rf⟩:=HC.out _ (gt_trans hg1 g12 (.inr (.inl rfl)));have rf0:=rf 0;have rf1:=rf 1)))
  all_goals refine bodyPost_ret (by simp [results,Tryz.results156,go_sem,r0,r1];try rfl) rfl ?_
  · exact ⟨gt_set_r (gt_set_r (gt_trans HG.out (gt_trans hg1 g12 (.inr (.inl rfl))) (.inl rfl)) _ _ (Nat.le_refl _)) _ _ (Nat.le_refl _),.inl ⟨HBad.out,_,_,_,.inr ⟨_,_,_,rfl⟩,rfl⟩⟩
  · have hf:=HOk.out w1 w2 _ t l' _ hg1 HD.out HW1.out g12 (by simp:w1.heap.size≤w1.heap.size+1) (by simpa using hlt) (fun i u hi=>by
      rcases i with _ | _ | i
      · have e9:(.slice ep en ec:Value)=u:=Option.some.inj hi
        rw [←e9]
        simpa using hcl.1
      · have e9:(.int .u8 er:Value)=u:=Option.some.inj hi
        rw [←e9]
        simpa using hcl.2
      · exact absurd hi (by simp [Value.cells])
      ) (by first | exact hRt | rfl) hok
    exact hf
theorem rootGc {D:(Nat→Prop)→World→Value→Raw→Prop} (K:DK0 D) (hfm:∀ {B:Nat→Prop} {W:World} {x:Value} {t:Raw},D B W x t→∃ (ep:Option Addr) (en ec er:Nat),x=.agg #[.slice ep en ec,.int .u8 er]) (h:Nat) (hD:∀ {B W v t},GeoK 0 183 D B W v t→DGeo (h+1) B W v t) (V W:World) (pb r:Nat) (big:Bool) (l:List UInt8) (R:Rd Raw) (hkR:∀ t l,R=.ok t l→kindOf t=0)
    (HP:∀ W,WP V W pb l (if big=true then 0 else 1) (!big)→Calls Tryz.prog 205 #[.pointer (some ⟨pb,0,none⟩),.int .u8 r] W (PrPost D (.agg #[.slice none 0 0,.int .u8 0]) V W pb big R)) (hw:WP V W pb l (if big=true then 0 else 1) (!big)) :
    Calls Tryz.prog 156 #[.pointer (some ⟨pb,0,none⟩),.int .i64 0,.int .u8 r] W (RnPost (h+1) V W pb R):=by
  have hpb:=hw.lt
  have HP1:=Lib.hid (HP _ (hw.kept (World.grownBy_alloc W (.cells #[.int .i64 0,.nilIface] 57) none)))
  have HFM:Hid (∀ (B:Nat→Prop) (W:World) (x:Value) (t:Raw),D B W x t→∃ (ep:Option Addr) (en ec er:Nat),x=.agg #[.slice ep en ec,.int .u8 er]):=fun B W x t h=>hfm h
  have HG:=Lib.hid (gt_some (World.grownBy_alloc W (.cells #[.int .i64 0,.nilIface] 57) none) pb)
  have HC:Hid (∀ w,(W.alloc (.cells #[.int .i64 0,.nilIface] 57)).grownBy w (some pb)→w.cell? ⟨W.heap.size,0,none⟩=some (.int .i64 0)∧w.cell? ⟨W.heap.size,1,none⟩=some .nilIface∧∀ j,w.frozen? ⟨W.heap.size,j,none⟩=false):=fun w g=>by
    have hn:some W.heap.size≠some pb:=fun e=>by injection e with e;omega
    have hb:=g.block W.heap.size (by simp) hn
    exact ⟨g.cell (by simp) hn,g.cell (by simp) hn,fun j=>by rw [World.frozen?_of_block hb];simp⟩
  have HVW:Hid (V.heap.size≤W.heap.size):=hw.g.size
  have HOk:Hid (∀ (w1 w2:World) (x:Value) (t:Raw) (l':List UInt8) (b:Nat),(W.alloc (.cells #[.int .i64 0,.nilIface] 57)).grownBy w1 (some pb)→D (Fr (W.alloc (.cells #[.int .i64 0,.nilIface] 57)) w1) w1 x (newT t)→WP V w1 pb l' (if big=true then 0 else 1) (!big)→w1.grownBy w2 none→w1.heap.size≤b→b<w2.heap.size→(∀ i u,x.cells[i]?=some u→w2.cell? ⟨b,i,none⟩=some u)→R=.ok t l'→okK t=true →
      RnPost (h+1) V W pb R (.returned (.tuple #[.agg #[.int .i64 0,.iface 183 (.pointer (some ⟨b,0,none⟩))],.nilIface])) ((w2.setCell ⟨W.heap.size,0,none⟩ (.int .i64 0)).setCell ⟨W.heap.size,1,none⟩ (.iface 183 (.pointer (some ⟨b,0,none⟩))))):=fun w1 w2 x t l' b g1 hd hw1 g2 hb1 hb2 hx hRt hok=>by
    have s1:W.heap.size<w1.heap.size:=by have:=g1.size;simp at this;omega
    have s2:=g2.size
    have h1:=K.keep (.set (q:=⟨W.heap.size,1,none⟩) (fun hb=>by have:=hb.1;simp at this;omega) (.iface 183 (.pointer (some ⟨b,0,none⟩)))) (K.keep (.set (q:=⟨W.heap.size,0,none⟩) (fun hb=>by have:=hb.1;simp at this;omega) (.int .i64 0)) (K.mono g2 hd))
    have hkn:kindOf (newT t)=0:=by rw [kindOf_new,hkR t l' hRt];decide
    refine ⟨gt_set_r (gt_set_r (gt_trans HG.out (gt_trans g1 g2 (.inr (.inl rfl))) (.inl rfl)) _ _ (Nat.le_refl _)) _ _ (Nat.le_refl _),.inr ⟨t,l',_,big,hRt,hok,rfl,hD ⟨b,x,hkn,rfl,⟨by omega,by simpa [World.setCell] using hb2⟩,fun i u hi=>?_,K.weak (fun c hc=>⟨by have:=hc.1;simp at this;omega,by have:=hc.2;simpa [World.setCell] using (by omega:c<w2.heap.size)⟩) h1⟩,((hw1.kept g2).put _ _ HVW.out).put _ _ HVW.out⟩⟩
    rw [World.cell?_setCell_other (h:=fun e=>by have:=congrArg Addr.block e;simp at this;omega),World.cell?_setCell_other (h:=fun e=>by have:=congrArg Addr.block e;simp at this;omega)]
    exact hx i u hi
  clear HP hw
  go_enter Tryz.func156,Tryz.ntmps156
  go_wp2_with (first
    | (go_at_call 205;go_loud (refine HP1.out.mono ?_;rintro e w1 hpp;have hor:=hpp.or;clear hpp;obtain ⟨hg1,⟨hbad,ty,xx,rfl⟩ | ⟨t,l',v,hRt,hok,rfl,hd,hw1⟩⟩:=hor <;> (first
        | (have HBad:=Lib.hid hbad;clear hbad)
        | (obtain ⟨ep,en,ec,er,rfl⟩:=HFM.out _ _ _ _ hd;have HD:=Lib.hid hd;have HW1:=Lib.hid hw1;clear hd hw1))))
    | (go_at_call 61;go_loud (refine (AsGeometryCollection _ _ _ _ _).mono ?_;rintro e w2 ⟨rfl,hcl,hlt,hg2⟩;have g12:=gt_trans (World.grownBy_alloc w1 _ none) hg2 (.inl rfl);obtain ⟨r0,r1,rf⟩:=HC.out _ (gt_trans hg1 g12 (.inr (.inl rfl)));have rf0:=rf 0;have rf1:=rf 1)))
  all_goals refine bodyPost_ret (by simp [results,Tryz.results156,go_sem,r0,r1];try rfl) rfl ?_
  · exact ⟨gt_set_r (gt_set_r (gt_trans HG.out (gt_trans hg1 g12 (.inr (.inl rfl))) (.inl rfl)) _ _ (Nat.le_refl _)) _ _ (Nat.le_refl _),.inl ⟨HBad.out,_,_,_,.inr ⟨_,_,_,rfl⟩,rfl⟩⟩
  · have hf:=HOk.out w1 w2 _ t l' _ hg1 HD.out HW1.out g12 (by simp:w1.heap.size≤w1.heap.size+1) (by simpa using hlt) (fun i u hi=>by
      rcases i with _ | _ | i
      · have e9:(.slice ep en ec:Value)=u:=Option.some.inj hi
        rw [←e9]
        simpa using hcl.1
      · have e9:(.int .u8 er:Value)=u:=Option.some.inj hi
        rw [←e9]
        simpa using hcl.2
      · exact absurd hi (by simp [Value.cells])
      ) (by first | exact hRt | rfl) hok
    exact hf
theorem rootPt {D:(Nat→Prop)→World→Value→Raw→Prop} (K:DK0 D) (hfm:∀ {B:Nat→Prop} {W:World} {x:Value} {t:Raw},D B W x t→∃ (fx fy fz fm er:Nat) (eb:Bool),x=.agg #[.float .f64 fx,.float .f64 fy,.float .f64 fz,.float .f64 fm,.int .u8 er,.bool eb]) (h:Nat) (hD:∀ {B W v t},GeoK 1 165 D B W v t→DGeo (h+1) B W v t) (V W:World) (pb r:Nat) (big:Bool) (l:List UInt8) (R:Rd Raw) (hkR:∀ t l,R=.ok t l→kindOf t=1)
    (HP:∀ W,WP V W pb l (if big=true then 0 else 1) (!big)→Calls Tryz.prog 199 #[.pointer (some ⟨pb,0,none⟩),.int .u8 r] W (PrPost D (.agg #[.float .f64 0,.float .f64 0,.float .f64 0,.float .f64 0,.int .u8 0,.bool false]) V W pb big R)) (hw:WP V W pb l (if big=true then 0 else 1) (!big)) :
    Calls Tryz.prog 156 #[.pointer (some ⟨pb,0,none⟩),.int .i64 1,.int .u8 r] W (RnPost (h+1) V W pb R):=by
  have hpb:=hw.lt
  have HP1:=Lib.hid (HP _ (hw.kept (World.grownBy_alloc W (.cells #[.int .i64 0,.nilIface] 57) none)))
  have HFM:Hid (∀ (B:Nat→Prop) (W:World) (x:Value) (t:Raw),D B W x t→∃ (fx fy fz fm er:Nat) (eb:Bool),x=.agg #[.float .f64 fx,.float .f64 fy,.float .f64 fz,.float .f64 fm,.int .u8 er,.bool eb]):=fun B W x t h=>hfm h
  have HG:=Lib.hid (gt_some (World.grownBy_alloc W (.cells #[.int .i64 0,.nilIface] 57) none) pb)
  have HC:Hid (∀ w,(W.alloc (.cells #[.int .i64 0,.nilIface] 57)).grownBy w (some pb)→w.cell? ⟨W.heap.size,0,none⟩=some (.int .i64 0)∧w.cell? ⟨W.heap.size,1,none⟩=some .nilIface∧∀ j,w.frozen? ⟨W.heap.size,j,none⟩=false):=fun w g=>by
    have hn:some W.heap.size≠some pb:=fun e=>by injection e with e;omega
    have hb:=g.block W.heap.size (by simp) hn
    exact ⟨g.cell (by simp) hn,g.cell (by simp) hn,fun j=>by rw [World.frozen?_of_block hb];simp⟩
  have HVW:Hid (V.heap.size≤W.heap.size):=hw.g.size
  have HOk:Hid (∀ (w1 w2:World) (x:Value) (t:Raw) (l':List UInt8) (b:Nat),(W.alloc (.cells #[.int .i64 0,.nilIface] 57)).grownBy w1 (some pb)→D (Fr (W.alloc (.cells #[.int .i64 0,.nilIface] 57)) w1) w1 x (newT t)→WP V w1 pb l' (if big=true then 0 else 1) (!big)→w1.grownBy w2 none→w1.heap.size≤b→b<w2.heap.size→(∀ i u,x.cells[i]?=some u→w2.cell? ⟨b,i,none⟩=some u)→R=.ok t l'→okK t=true →
      RnPost (h+1) V W pb R (.returned (.tuple #[.agg #[.int .i64 1,.iface 165 (.pointer (some ⟨b,0,none⟩))],.nilIface])) ((w2.setCell ⟨W.heap.size,0,none⟩ (.int .i64 1)).setCell ⟨W.heap.size,1,none⟩ (.iface 165 (.pointer (some ⟨b,0,none⟩))))):=fun w1 w2 x t l' b g1 hd hw1 g2 hb1 hb2 hx hRt hok=>by
    have s1:W.heap.size<w1.heap.size:=by have:=g1.size;simp at this;omega
    have s2:=g2.size
    have h1:=K.keep (.set (q:=⟨W.heap.size,1,none⟩) (fun hb=>by have:=hb.1;simp at this;omega) (.iface 165 (.pointer (some ⟨b,0,none⟩)))) (K.keep (.set (q:=⟨W.heap.size,0,none⟩) (fun hb=>by have:=hb.1;simp at this;omega) (.int .i64 1)) (K.mono g2 hd))
    have hkn:kindOf (newT t)=1:=by rw [kindOf_new,hkR t l' hRt];decide
    refine ⟨gt_set_r (gt_set_r (gt_trans HG.out (gt_trans g1 g2 (.inr (.inl rfl))) (.inl rfl)) _ _ (Nat.le_refl _)) _ _ (Nat.le_refl _),.inr ⟨t,l',_,big,hRt,hok,rfl,hD ⟨b,x,hkn,rfl,⟨by omega,by simpa [World.setCell] using hb2⟩,fun i u hi=>?_,K.weak (fun c hc=>⟨by have:=hc.1;simp at this;omega,by have:=hc.2;simpa [World.setCell] using (by omega:c<w2.heap.size)⟩) h1⟩,((hw1.kept g2).put _ _ HVW.out).put _ _ HVW.out⟩⟩
    rw [World.cell?_setCell_other (h:=fun e=>by have:=congrArg Addr.block e;simp at this;omega),World.cell?_setCell_other (h:=fun e=>by have:=congrArg Addr.block e;simp at this;omega)]
    exact hx i u hi
  clear HP hw
  have hsf:=run_store_flt Tryz.prog
  go_enter Tryz.func156,Tryz.ntmps156
  go_wp2_with (first
    | (go_at_call 199;go_loud (refine HP1.out.mono ?_;rintro e w1 hpp;have hor:=hpp.or;clear hpp;obtain ⟨hg1,⟨hbad,ty,xx,rfl⟩ | ⟨t,l',v,hRt,hok,rfl,hd,hw1⟩⟩:=hor <;> (first
        | (have HBad:=Lib.hid hbad;clear hbad)
        | (obtain ⟨fx,fy,fz,fm,er,eb,rfl⟩:=HFM.out _ _ _ _ hd;have HD:=Lib.hid hd;have HW1:=Lib.hid hw1;clear hd hw1))))
    | (go_at_call 49;go_loud (refine (AsPoint _ _ _ _ _ _ _).mono ?_;rintro e w2 ⟨rfl,hcl,hlt,hg2⟩;have g12:=gt_trans (World.grownBy_alloc w1 _ none) hg2 (.inl rfl);obtain ⟨r0,r1,rf⟩:=HC.out _ (gt_trans hg1 g12 (.inr (.inl rfl)));have rf0:=rf 0;have rf1:=rf 1)))
  all_goals refine bodyPost_ret (by simp [results,Tryz.results156,go_sem,r0,r1];try rfl) rfl ?_
  · exact ⟨gt_set_r (gt_set_r (gt_trans HG.out (gt_trans hg1 g12 (.inr (.inl rfl))) (.inl rfl)) _ _ (Nat.le_refl _)) _ _ (Nat.le_refl _),.inl ⟨HBad.out,_,_,_,.inr ⟨_,_,_,rfl⟩,rfl⟩⟩
  · have hf:=HOk.out w1 w2 _ t l' _ hg1 HD.out HW1.out g12 (by simp:w1.heap.size≤w1.heap.size+1) (by simpa using hlt) (fun i u hi=>by
      rcases i with _ | _ | _ | _ | _ | _ | i
      · have e9:(.float .f64 fx:Value)=u:=Option.some.inj hi
        rw [←e9]
        simpa using hcl.1
      · have e9:(.float .f64 fy:Value)=u:=Option.some.inj hi
        rw [←e9]
        simpa using hcl.2.1
      · have e9:(.float .f64 fz:Value)=u:=Option.some.inj hi
        rw [←e9]
        simpa using hcl.2.2.1
      · have e9:(.float .f64 fm:Value)=u:=Option.some.inj hi
        rw [←e9]
        simpa using hcl.2.2.2.1
      · have e9:(.int .u8 er:Value)=u:=Option.some.inj hi
        rw [←e9]
        simpa using hcl.2.2.2.2.1
      · have e9:(.bool eb:Value)=u:=Option.some.inj hi
        rw [←e9]
        simpa using hcl.2.2.2.2.2
      · exact absurd hi (by simp [Value.cells])
      ) (by first | exact hRt | rfl) hok
    exact hf
end
section
open Go.RowKit
theorem keepG (K:Int):∀ ts:List Raw,okKs K ts=true→(newTs ts).filter (keepT K)=newTs ts
  | [],_=>rfl
  | t::ts,h=>by
    have h':((decide (kidOf K<0)||decide (kindOf t=kidOf K))&&okK t&&okKs K ts)=true:=h
    simp only [Bool.and_eq_true] at h'
    have hk:keepT K (newT t)=true:=by
      unfold keepT
      rw [kindOf_new]
      have h1:=h'.1.1
      simp only [Bool.or_eq_true,decide_eq_true_eq] at h1 ⊢
      by_cases hneg:kidOf K<0
      · exact .inl hneg
      · have h2:=h1.resolve_left hneg
        refine .inr ?_
        have h3:kidOf K≤3:=by unfold kidOf;repeat' split <;> omega
        rw [h2]
        unfold kindN
        rw [if_neg (by omega)]
    unfold newTs
    rw [List.filter_cons_of_pos hk,keepG K ts h'.2]
theorem newT_part (K:Int) (hK:kindN K=K) (h1:K≠1) (h2:K≠2) (r:Nat) (hr:r<4) (ts:List Raw) (h:okKs K ts=true):newT (.mk K (r:Nat) 0 (fun _=>0) ts)=nodeT K r (fun _=>0) (newTs ts):=by
  rw [newT_node _ _ _ _ _ (by rw [hK];exact h1) (by rw [hK];exact h2),hK,show ((r:Int) % 4).toNat=r by omega]
  unfold Acc
  rw [List.take_length,keepG K ts h]
theorem okKs_app (K:Int):∀ (ts us:List Raw),okKs K (ts++us)=(okKs K ts&&okKs K us)
  | [],us=>by simp [okKs]
  | t::ts,us=>by
    show ((decide (kidOf K<0)||decide (kindOf t=kidOf K))&&okK t&&okKs K (ts++us))=((decide (kidOf K<0)||decide (kindOf t=kidOf K))&&okK t&&okKs K ts&&okKs K us)
    rw [okKs_app K ts us,Bool.and_assoc,Bool.and_assoc,Bool.and_assoc]
theorem okKs_one (K:Int) (t:Raw):okKs K [t]=((decide (kidOf K<0)||decide (kindOf t=kidOf K))&&okK t):=by
  show ((decide (kidOf K<0)||decide (kindOf t=kidOf K))&&okK t&&true)=_
  rw [Bool.and_true]
theorem Rest.off {F:List UInt8→Rd Raw} {n k:Nat} {l0 lk l1:List UInt8} {ts:List Raw} {t:Raw} {K:Int} (h:Rest F n l0 k lk ts) (hk:k<n) (hF:F lk=.ok t l1) (hb:okKs K [t]=false) (r:Nat):∀ T l',((rdL F n l0).bind fun ts l3=>Rd.ok (.mk K (r:Nat) 0 (fun _=>0) ts) l3)=.ok T l'→okK T=false:=by
  intro T l' e
  have h2:=h.nextE hk hF
  rw [h2] at e
  cases hu:rdL F (n - (k+1)) l1 with
  | bad g=>rw [hu] at e;cases e
  | ok us l4 =>
    rw [hu] at e
    have e2:Rd.ok (.mk K (r:Nat) 0 (fun _=>0) (ts++[t]++us)) l4=Rd.ok T l':=e
    injection e2 with e3 e4
    rw [←e3]
    have e5:okK (.mk K (r:Nat) 0 (fun _=>0) (ts++[t]++us))=okKs K (ts++[t]++us):=by
      show ((!decide (K=1)||(0:Nat)==0||_)&&okKs K _)=_
      simp
    rw [e5,okKs_app,okKs_app,hb]
    simp
theorem DGeo.kind {h:Nat} {B:Nat→Prop} {W:World} {k:Int} {ty b:Nat} {t:Raw} (hd:DGeo h B W (.agg #[.int .i64 k,.iface ty (.pointer (some ⟨b,0,none⟩))]) t):kindOf t=k:=by
  cases h with
  | zero=>exact hd.elim
  | succ h =>
    rcases hd with hd | hd | hd | hd | hd | hd | hd <;>
      (obtain ⟨_,_,hk,hv,_⟩:=hd
       simp at hv
       rw [hk,hv.1])
noncomputable def rdK (K:Int) (h r:Nat) (big:Bool) (l:List UInt8):Rd Raw:=(rdC big l).bind fun n l2=>(rdL (rdG true h (-1)) n l2).bind fun ts l3=>.ok (.mk K r 0 (fun _=>0) ts) l3
theorem kind_is {t:Raw} {k:Int} (h0:1≤k) (h6:k≤6) (h:kindOf (newT t)=k):kindOf t=k:=by
  rw [kindOf_new] at h
  unfold kindN at h
  split at h <;> omega
end
section
open Go.RowKit
theorem infoF8:(Tryz.prog.info? 26).map (fun i=>(i.zero,i.size,i.bytes))=some (some (.float .f64 0),1,8):=by kernel_rfl
theorem bytesAsFloats_nil (W:World) (p:Option Addr) (c:Nat):Calls Tryz.prog 245 #[.slice p 0 c] W fun e w'=>e=.returned (.slice none 0 0)∧w'=W:=by
  go_enter Tryz.func245,Tryz.ntmps245
  go_wp2_with fail
  go_ret
  exact ⟨rfl,rfl⟩
def FlB (base:Nat) (w:World) (g n k:Nat) (f:Nat→Nat):Prop:=∃ cs,w.ownsRow base 26 1 (.slice (some ⟨g,0,none⟩) n n) n cs∧∀ i,i<k→cs[i]?=some (.float .f64 (f i))
theorem FlB.kept {base:Nat} {w w':World} {g n k:Nat} {f:Nat→Nat} (h:FlB base w g n k f) (hg:w.grownBy w' none):FlB base w' g n k f:=by
  obtain ⟨cs,h1,h2⟩:=h
  exact ⟨cs,h1.kept hg (by simp [Value.ownBlock]),h2⟩
theorem FlB.cell {base:Nat} {w:World} {g n k:Nat} {f:Nat→Nat} (h:FlB base w g n k f) (i:Nat) (hi:i<n):(∃ v,w.cell? ⟨g,i,none⟩=some v)∧w.frozen? ⟨g,i,none⟩=false∧base≤g∧g<w.heap.size:=by
  obtain ⟨cs,h1,h2⟩:=h
  have hl:cs.length=n*1:=h1.1
  exact ⟨⟨_,by rw [h1.cellAt i (by omega)];exact List.getElem?_eq_getElem (by omega)⟩,h1.frozenAt i,(h1.lt g rfl).1,(h1.lt g rfl).2⟩
theorem FlB.put {base:Nat} {w:World} {g n k:Nat} {f:Nat→Nat} (h:FlB base w g n k f) (hk:k<n):FlB base (w.setCell ⟨g,k,none⟩ (.float .f64 (f k))) g n (k+1) f:=by
  obtain ⟨cs,h1,h2⟩:=h
  have hl:cs.length=n*1:=h1.1
  refine ⟨cs.set k (.float .f64 (f k)),(h1.stored k _).1,fun i hi=>?_⟩
  by_cases hik:i=k
  · subst hik
    exact List.getElem?_set_self (by omega)
  · rw [List.getElem?_set_ne (by omega)]
    exact h2 i (by omega)
theorem bytesAsFloats_any (W:World) (nb:Nat) (p:Option Addr) (N M c:Nat) (l:List UInt8) (hM:M=8*N) (hl:l.length=M) (hN0:0<N) (hN:N≤100000) (hv:BV W nb (.slice p M c) l) :
    Calls Tryz.prog 245 #[.slice p M c] W fun e w'=>∃ g,e=.returned (.slice (some ⟨g,0,none⟩) N N)∧FlB W.heap.size w' g N N (fOf (numsOf false N l))∧W.grownBy w' none:=by
  obtain ⟨i0,hi,hzz⟩:=Option.map_eq_some_iff.1 infoF8
  simp only [Prod.mk.injEq] at hzz
  have HI:=Lib.hid hzz
  have hMi:¬ ((M:Int)==0)=true:=by simp;omega
  have hM0:((M:Int)==0)=false:=by simpa using hMi
  have hdiv:IntKind.i64.wrap ((M:Int) / 8)=(N:Int):=by rw [IntKind.wrap_i64];omega
  have hdiv2:(M:Int) / 8=(N:Int):=by omega
  have HL:Hid (∀ (w:World) (k:Nat),W.grownBy w none→k<N→∃ pd nd cd,(∀ w2,(Instr.slice 39 (.slice p M c) (some (.int .i64 (8*(k:Int)))) none none).run Tryz.prog w2=.ok (.slice pd nd cd) w2)∧∀ w3,w.grownBy w3 none→Calls Tryz.prog 293 #[.agg #[],.slice pd nd cd] w3 fun e w'=>e=.returned (.int .u64 (fOf (numsOf false N l) k))∧w3.grownBy w' none):=fun w k g hk=>by
    obtain ⟨pd,nd,cd,hxd⟩ : ∃ pd nd cd,sliced p (8*k) M c 1=.slice pd nd cd:=⟨_,_,_,rfl⟩
    have hd:=hv.drop (8*k) (by omega)
    rw [hxd] at hd
    refine ⟨pd,nd,cd,fun w2=>?_,fun w3 g3=>?_⟩
    · have e8:(8*(k:Int)).toNat=8*k:=by omega
      rw [run_slice_l _ _ _ _ _ Tryz.underlying39 .i64 (8*(k:Int)) (by omega) (by omega),e8,←hxd]
      rfl
    · rw [fOf_at false N l k hk]
      exact le64 w3 nb pd nd cd _ (hd.grow (gt_trans g g3 (.inl rfl)) (.inl rfl)) (by rw [List.length_drop];omega)
  have hf:=fOf_lt false N l
  generalize fOf (numsOf false N l)=f at HL hf ⊢
  clear hv hzz hl hM hMi
  go_enter Tryz.func245,Tryz.ntmps245
  go_wp2_with (first
    | (at_make;refine wpList_make_full _ rfl _ _ _ rfl W.heap.size 26 i0 (.float .f64 0) 1 Tryz.underlying30 hi HI.out.1 HI.out.2.1 .i64 .i64 _ _ N rfl rfl rfl rfl (by rw [HI.out.2.2];omega) (by unfold maxLen;omega) (by simp) ?_;intro w1 hown hg1))
  go_loopw [14] (fun i wr=>∃ k:Nat,k≤N∧i=.int .i64 k∧W.grownBy wr none∧FlB W.heap.size wr W.heap.size N k f) (fun i _=>N - (intOf i).toNat)
  case atStart=>exact ⟨0,by omega,rfl,hg1,_,hown,fun i h=>absurd h (by omega)⟩
  case round =>
    clear hown
    obtain ⟨k,hk,rfl,Gr,hrow⟩:=hrel
    rename World=>wr
    by_cases hkL:k<N
    · obtain ⟨pd,nd,cd,hsl,hc⟩:=HL.out wr k Gr hkL
      have HCk:=Lib.hid hc
      have HRow:=Lib.hid hrow
      clear hc hrow
      have hff:∀ (w:World) (n:Nat),(callFunc 153 #[.int .u64 n]).run Tryz.prog w=.ok (.value (.float .f64 n)) w:=fun w n=>by kernel_rfl
      have hw8:IntKind.i64.wrap (8*(k:Int))=8*(k:Int):=by rw [IntKind.wrap_i64];omega
      have hki:(k:Int)<(N:Int):=by omega
      have hk0:(0:Int)≤(k:Int):=by omega
      have hgd:wr.grownBy wr.drew none:=gt_drew_r (gt_refl _ _)
      have hsf:=run_store_flt Tryz.prog
      go_wp2_with fail
      go_region_with (first
        | (go_at_call 293;refine (HCk.out _ ?_).mono ?_;assumption;rintro e w2 ⟨rfl,hg2⟩;have hg3:=gt_trans hgd hg2 (.inl rfl);obtain ⟨⟨v0,hv0⟩,hf0,hb1,hb2⟩:=(HRow.out.kept hg3).cell k hkL))
      all_goals
        go_wp2_with fail
        exact ⟨⟨k+1,by omega,by go_num,gt_set_r (gt_trans Gr hg3 (.inl rfl)) _ _ (Nat.le_refl _),(HRow.out.kept hg3).put hkL⟩,by simp [intOf];omega⟩
    · obtain rfl:k=N:=by omega
      go_wp2_with fail
      go_wp2_with fail
      go_ret
      exact ⟨W.heap.size,rfl,hrow,Gr⟩
end
end Go.Proofs.YtlpaecafpbbbkaaGreatDoor
