/- Any geometry of the package as plain data. The package's reader of well known binary: UnmarshalWKB without a check, and impl.ReadWKB. impl.ReadWKB without a check, whatever the bytes. The reference's AskedWKB and ReadWKB, whatever the bytes. What the reference's New makes of numbers that are none of them NaN, may be written. The question whether no number of a geometry is NaN: exact. -/
import Derived.Test.YtlpaecafpbbbkaaGreatDoorBYT2
import Derived.Test.YtlpaecafpbbbkaaGreatDoorBYT6
import Derived.Test.YtlpaecafpbbbkaaGreatDoorBYT11
import Derived.Test.YtlpaecafpbbbkaaGreatDoorBYT30
import Derived.Test.YtlpaecafpbbbkaaGreatDoorBYT39
import Derived.Test.YtlpaecafpbbbkaaGreatDoorBYT40
import Derived.Test.YtlpaecafpbbbkaaGreatDoorBYT41
set_option linter.unusedVariables false
set_option linter.unusedSimpArgs false
set_option maxRecDepth 100000
set_option maxHeartbeats 24000000
namespace Go.Proofs.YtlpaecafpbbbkaaGreatDoor
section
open Go.RowKit
theorem PtT.data {s:Raw} (h:PtT s):PtT (dataT s)∧ptR (dataT s)=ptR s:=by
  obtain ⟨r,n,f,rfl,hr,hn,hf⟩:=h
  have e:dataT (.mk 1 (r:Nat) n f [])=.mk 1 (r:Nat) n (if n=0 then fun _=>0 else f) []:=rfl
  rw [e,ptR_of hr,ptR_of hr]
  by_cases h0:n=0
  · rw [if_pos h0,h0]
    exact ⟨⟨r,0,_,rfl,hr,.inl rfl,fun _=>Nat.zero_lt_succ _⟩,by unfold ptOf;rw [if_pos (Nat.zero_div _),if_pos (Nat.zero_div _)]⟩
  · rw [if_neg h0]
    exact ⟨⟨r,n,f,rfl,hr,hn,hf⟩,rfl⟩
theorem PlMpt:PC DMpt 78 2:=by
  intro B W v t hd hok hB
  obtain ⟨r,f,kids,p,c,rfl,hr,hs,rfl,hp,hb⟩:=hd
  unfold okT at hok
  have e:dataT (.mk 4 (r:Nat) 0 f kids)=.mk 4 (r:Nat) 0 (fun _=>0) (dataTs kids):=rfl
  rw [e]
  have hmap:(dataTs kids).map ptR=kids.map ptR:=by
    apply List.ext_getElem?
    intro i
    rw [List.getElem?_map,List.getElem?_map,dataTs_get]
    cases hi:kids[i]? with
    | none=>rfl
    | some s=>simp [(hs s (List.mem_of_getElem? hi)).data.2]
  refine plMpt_any r kids.length c hr hok.2.1 p (dataTs kids) (dataTs_len kids) W (by rw [hmap];exact hp) (fun s hs' w=>?_)
  obtain ⟨i,hi⟩:=List.mem_iff_getElem?.1 hs'
  rw [dataTs_get] at hi
  obtain ⟨s0,h0,rfl⟩:=Option.map_eq_some_iff.1 hi
  have hpt:=(hs s0 (List.mem_of_getElem? h0))
  have h1:=PlPoint (fun _=>False) w (ptR s0).v s0 ⟨hpt,rfl⟩ (okTs_mem hok.2.2 h0) (fun b hb=>hb.elim)
  rw [hpt.data.2]
  exact h1
theorem PlPg:PC DPg 77 2:=plPg_of 1 PlLine (PgCT DLine)
theorem PlMl:PC DMl 80 2:=plMl_of DLine.dk DLine.form2 1 PlLine (MlCT DLine)
theorem PlMp:PC DMp 81 3:=plMp_of DPg.dk DNode.form 2 PlPg (MpCT DPg)
theorem PC.le {D:(Nat→Prop)→World→Value→Raw→Prop} {fE h h':Nat} (H:PC D fE h) (hh:h≤h'):PC D fE h':=fun B W v t hd hok hB=>(H B W v t hd hok hB).mono fun e w' ⟨v',he,hk,hg⟩=>⟨v',he,hk.le hh,hg⟩
theorem plain_all:∀ h:Nat,PC (DGeo h) 32 (h+2)
  | 0=>fun B W v t hd=>hd.elim
  | h+1=>by
    intro B W v t hd
    have ih:=plain_all h
    rcases hd with hd | hd | hd | hd | hd | hd | hd
    · exact (plainG_1 DPoint.dk DPoint.form6 (h+3) (PlPoint.le (by omega))) B W v t hd
    · exact (plainG_2 DLine.dk.toDK0 DLine.form2 (h+3) (PlLine.le (by omega))) B W v t hd
    · exact (plainG_3 DPg.dk.toDK0 DNode.form (h+3) (PlPg.le (by omega))) B W v t hd
    · exact (plainG_4 DMpt.dk.toDK0 DMpt.form (h+3) (PlMpt.le (by omega))) B W v t hd
    · exact (plainG_5 DMl.dk.toDK0 DNode.form (h+3) (PlMl.le (by omega))) B W v t hd
    · exact (plainG_6 DMp.dk.toDK0 DNode.form (h+3) (PlMp.le (by omega))) B W v t hd
    · exact (plainG_0 (DNode.dk (DGeo.dk h)).toDK0 DNode.form (h+3) (plGc_of (DGeo.dk h) DGeo.form (h+2) ih (GcCT (DGeo h)))) B W v t hd
end
section
open Go.RowKit
def BIn (W:World) (x:Value) (l:List UInt8):Prop:=∃ p c,x=.slice p l.length c∧l.length≤c∧c≤maxLen∧(p=none→c=0)∧(0<l.length→∃ b o,p=some ⟨b,o,none⟩∧∀ i u,l[i]?=some u→W.cell? ⟨b,o+i,none⟩=some (.int .u8 u.toNat))
theorem BIn.mono {W w:World} {x:Value} {l:List UInt8} (h:BIn W x l) (g:W.grownBy w none):BIn w x l:=by
  obtain ⟨p,c,e,h1,h2,h3,h4⟩:=h
  refine ⟨p,c,e,h1,h2,h3,fun h0=>?_⟩
  obtain ⟨b,o,ep,hc⟩:=h4 h0
  exact ⟨b,o,ep,fun i u hi=>g.cell (hc i u hi) (by simp)⟩
theorem BIn.lt {W:World} {b o n c:Nat} {l:List UInt8} (h:BIn W (.slice (some ⟨b,o,none⟩) n c) l) (h0:0<l.length):b<W.heap.size:=by
  obtain ⟨p,c',e,_,_,_,h4⟩:=h
  obtain ⟨b',o',ep,hc⟩:=h4 h0
  injection e with e1 e2 e3
  rw [ep] at e1
  injection e1 with e1
  injection e1 with e4 e5
  subst e4
  have:=World.block_lt_of_cell? W _ (hc 0 (l[0]'h0) (List.getElem?_eq_getElem h0))
  exact this
theorem BIn.bv {W w:World} {x:Value} {l:List UInt8} (h:BIn W x l) (g:W.grownBy w none) (pb:Nat) (hpb:W.heap.size≤pb):BV w pb x l:=by
  have hm:=h.mono g
  obtain ⟨p,c,e,h1,h2,h3,h4⟩:=h
  refine ⟨p,c,e,h1,h2,h3,fun h0=>?_⟩
  obtain ⟨b,o,ep,hc⟩:=h4 h0
  have:=World.block_lt_of_cell? W _ (hc 0 (l[0]'h0) (List.getElem?_eq_getElem h0))
  have this:b<W.heap.size:=this
  exact ⟨b,o,ep,by omega,fun i u hi=>g.cell (hc i u hi) (by simp)⟩
theorem WP.first {W W2:World} {pb:Nat} {l:List UInt8} {x:Value} (h:BIn W x l) (g:W.grownBy W2 none) (hpb:W.heap.size≤pb) (hpb2:pb<W2.heap.size) (c0:W2.cell? ⟨pb,0,none⟩=some x) (c1:W2.cell? ⟨pb,1,none⟩=some (.int .u8 0)) (c2:W2.cell? ⟨pb,2,none⟩=some (.bool false)) (fz:∀ j,W2.frozen? ⟨pb,j,none⟩=false):WP (bounded W2 pb pb) W2 pb l 0 false:=by
  have hcell:∀ b j,b<pb→(bounded W2 pb pb).cell? ⟨b,j,none⟩=W2.cell? ⟨b,j,none⟩:=fun b j hb=>World.cell?_of_block (bounded_heap W2 pb pb b (by omega))
  refine ⟨bounded_grown _ _ _,by rw [bounded_size];exact hpb2,⟨x,c0,?_,?_⟩,c1,c2,fz⟩
  · obtain ⟨p,c,e,h1,h2,h3,h4⟩:=h.bv g pb hpb
    refine ⟨p,c,e,h1,h2,h3,fun h0=>?_⟩
    obtain ⟨b,o,ep,hb,hc⟩:=h4 h0
    have hlt:b<W.heap.size:=by
      rw [e,ep] at h
      exact h.lt h0
    exact ⟨b,o,ep,hb,fun i u hi=>(hcell b _ (by omega)).trans (hc i u hi)⟩
  · intro b o n c e h0
    rw [bnd_bounded _ _ _ hpb2]
    rw [e] at h
    have:=h.lt h0
    omega
def UnP (h:Nat) (W:World) (R:Rd Raw) (e:Ending) (w':World):Prop :=
  W.grownBy w' none∧((∀ t l,R=.ok t l→okK t=false)∧(∃ ty x,e=.returned (.tuple #[zGeo,.iface ty x]))∨∃ t l k ety eb,R=.ok t l∧okK t=true∧e=.returned (.tuple #[.agg #[.int .i64 k,.iface ety (.pointer (some ⟨eb,0,none⟩))],.nilIface])∧DGeo h (Fr W w') w' (.agg #[.int .i64 k,.iface ety (.pointer (some ⟨eb,0,none⟩))]) (newT t))
theorem UnP.alloc {h:Nat} {W w:World} {R:Rd Raw} {e:Ending} (u:UnP h W R e w) (O:Obj):UnP h W R e (w.alloc O):=by
  obtain ⟨hg,h2⟩:=u
  refine ⟨gt_alloc_r hg O,h2.imp id ?_⟩
  rintro ⟨t,l,k,ety,eb,h3,h4,h5,h6⟩
  exact ⟨t,l,k,ety,eb,h3,h4,h5,(DGeo.dk h).weak (fun b hb=>⟨hb.1,Nat.lt_of_lt_of_le hb.2 (World.grownBy_alloc w O none).size⟩) ((DGeo.dk h).toDK0.mono (World.grownBy_alloc w O none) h6)⟩
theorem unm_of (h:Nat) (ih:RunC h) (W:World) (x:Value) (l:List UInt8) (np:Option Addr) (nc:Nat) (hb:BIn W x l) (hR:rdG true h (-1) l≠.bad true) (hS:Sm h l) :
    Calls Tryz.prog 37 #[x,.slice np 1 nc] W (UnP h W (rdG true h (-1) l)):=by
  have hb0:=hb
  obtain ⟨p,c,rfl,hzz⟩:=hb
  clear hzz
  have gA:W.grownBy ((W.alloc (.cells #[.int .i64 0,.nilIface] 57)).alloc (.cells #[.slice p l.length c,.int .u8 0,.bool false] 146)) none:=gt_alloc_r (World.grownBy_alloc W _ none) _
  have hwi:=WP.first (pb:=W.heap.size+1) hb0 gA (by omega) (by simp) (by simp) (by simp) (by simp) (fun j=>by rw [World.frozen?_of_block (w:=(W.alloc (.cells #[.int .i64 0,.nilIface] 57)).alloc (.cells #[.slice p l.length c,.int .u8 0,.bool false] 146)) rfl];simp)
  have HRun:=Lib.hid (ih _ _ (W.heap.size+1) l 0 false hwi hR hS)
  obtain ⟨W2,hW2⟩ : ∃ W2,W2=(W.alloc (.cells #[.int .i64 0,.nilIface] 57)).alloc (.cells #[.slice p l.length c,.int .u8 0,.bool false] 146):=⟨_,rfl⟩
  rw [←hW2] at gA hwi HRun
  have hs2:W2.heap.size=W.heap.size+2:=by rw [hW2];simp
  have HC:Hid (∀ w,W2.grownBy w (some (W.heap.size+1))→w.cell? ⟨W.heap.size,0,none⟩=some (.int .i64 0)∧w.cell? ⟨W.heap.size,1,none⟩=some .nilIface∧(∀ j,w.frozen? ⟨W.heap.size,j,none⟩=false)∧W.grownBy w none∧W.heap.size<w.heap.size):=fun w g=>by
    have hn:some W.heap.size≠some (W.heap.size+1):=fun e=>by injection e with e;omega
    have hb:=g.block W.heap.size (by omega) hn
    have hs:=g.size
    refine ⟨g.cell (by rw [hW2];simp) hn,g.cell (by rw [hW2];simp) hn,fun j=>?_,gt_part2 gA g,by omega⟩
    rw [World.frozen?_of_block hb,hW2];simp
  have HFin:Hid (∀ (w1:World) (t:Raw) (l':List UInt8) (k:Int) (ty b:Nat),W2.grownBy w1 (some (W.heap.size+1))→DGeo h (Fr W2 w1) w1 (.agg #[.int .i64 k,.iface ty (.pointer (some ⟨b,0,none⟩))]) (newT t)→rdG true h (-1) l=.ok t l'→okK t=true →
      UnP h W (rdG true h (-1) l) (.returned (.tuple #[.agg #[.int .i64 k,.iface ty (.pointer (some ⟨b,0,none⟩))],.nilIface])) ((w1.setCell ⟨W.heap.size,0,none⟩ (.int .i64 k)).setCell ⟨W.heap.size,1,none⟩ (.iface ty (.pointer (some ⟨b,0,none⟩))))):=fun w1 t l' k ty b g hd hRt hok=>by
    obtain ⟨_,_,_,gw,_⟩:=HC.out w1 g
    have s1:=g.size
    have K:=(DGeo.dk h).toDK0
    have h1:=K.keep (.set (q:=⟨W.heap.size,1,none⟩) (fun hb=>by have:=hb.1;simp at this;omega) (.iface ty (.pointer (some ⟨b,0,none⟩)))) (K.keep (.set (q:=⟨W.heap.size,0,none⟩) (fun hb=>by have:=hb.1;simp at this;omega) (.int .i64 k)) hd)
    exact ⟨gt_set_r (gt_set_r gw _ _ (Nat.le_refl _)) _ _ (Nat.le_refl _),.inr ⟨t,l',k,ty,b,hRt,hok,rfl,K.weak (fun b hb=>⟨by have:=hb.1;omega,by have:=hb.2;simpa [World.setCell] using this⟩) h1⟩⟩
  generalize l.length=n at hW2
  have HW2:=Lib.hid hW2
  clear gA hwi hW2 hb0
  unfold zGeo at *
  go_enter Tryz.func37,Tryz.ntmps37
  go_wp2_with (first
    | (go_at_call 87;go_loud (rw [←HW2.out];refine HRun.out.mono ?_;unfold RnPost zGeo;rintro e w1 hor;obtain ⟨hg1,⟨hbad,z,ty,xx,(rfl | ⟨zk,zty,zb,rfl⟩),rfl⟩ | ⟨t,l',v,big,hRt,hok,rfl,hd,hw1⟩⟩:=hor <;> (first
       | (have zk9:=zk;clear zk9;obtain ⟨r0,r1,rf,gw,hwz⟩:=HC.out _ hg1;have HBad:=Lib.hid hbad;clear hbad;have rf0:=rf 0;have rf1:=rf 1)
       | (have HBad:=Lib.hid hbad;clear hbad;obtain ⟨r0,r1,rf,gw,hwz⟩:=HC.out _ hg1;have rf0:=rf 0;have rf1:=rf 1)
       | (obtain ⟨ek,ety,eb,rfl⟩:=DGeo.form hd;have HF:=Lib.hid (HFin.out _ _ _ _ _ _ hg1 hd hRt hok);obtain ⟨r0,r1,rf,gw,hwz⟩:=HC.out _ hg1;clear hd hw1;have rf0:=rf 0;have rf1:=rf 1)))))
  · have hz6:W.heap.size<((w1.setCell ⟨W.heap.size,0,none⟩ (.int .i64 0)).setCell ⟨W.heap.size,1,none⟩ (.nilIface)).heap.size:=by simpa [World.setCell] using hwz
    refine bodyPost_ret (by simp [results,Tryz.results37,go_sem,r0,r1,hz6,hwz];try rfl) rfl ?_
    exact UnP.alloc ⟨gt_set_r (gt_set_r gw ⟨W.heap.size,0,none⟩ (.int .i64 0) (Nat.le_refl _)) ⟨W.heap.size,1,none⟩ .nilIface (Nat.le_refl _),.inl ⟨HBad.out,_,_,rfl⟩⟩ _
  · have hz6:W.heap.size<((w1.setCell ⟨W.heap.size,0,none⟩ (.int .i64 0)).setCell ⟨W.heap.size,1,none⟩ (.nilIface)).heap.size:=by simpa [World.setCell] using hwz
    refine bodyPost_ret (by simp [results,Tryz.results37,go_sem,r0,r1,hz6,hwz];try rfl) rfl ?_
    exact UnP.alloc ⟨gt_set_r (gt_set_r gw ⟨W.heap.size,0,none⟩ (.int .i64 0) (Nat.le_refl _)) ⟨W.heap.size,1,none⟩ .nilIface (Nat.le_refl _),.inl ⟨HBad.out,_,_,rfl⟩⟩ _
  · have hz6:W.heap.size<((w1.setCell ⟨W.heap.size,0,none⟩ (.int .i64 ek)).setCell ⟨W.heap.size,1,none⟩ (.iface ety (.pointer (some ⟨eb,0,none⟩)))).heap.size:=by simpa [World.setCell] using hwz
    refine bodyPost_ret (by simp [results,Tryz.results37,go_sem,r0,r1,hz6,hwz];try rfl) rfl ?_
    exact UnP.alloc HF.out _
theorem run_every:∀ h,RunC h:=run_all (fun h ih V W pb r big l hr hG hS hSm hw=>parseMpt_any h ih V W pb r big l hr hG hS hSm hw)
end
section
open Go.RowKit
theorem noCheck_false (W:World):Calls Tryz.prog 31 #[.bool false] W fun e w'=>(∃ p c,e=.returned (.slice p 1 c))∧W.grownBy w' none:=by
  go_enter Tryz.func31,Tryz.ntmps31
  go_wp2_with fail
  go_ret
  exact ⟨⟨_,_,rfl⟩,World.grownBy_alloc _ _ _⟩
def RdP (h:Nat) (W:World) (R:Rd Raw) (e:Ending) (w':World):Prop :=
  W.grownBy w' none∧((∀ t l,R=.ok t l→okK t=false)∧e=.returned (.tuple #[.agg #[.int .i64 0,.int .i64 0,.slice none 0 0,.slice none 0 0],.bool false])∨∃ t l k6 d6 p6 n6 cap6 q6 m6 cq6,R=.ok t l∧okK t=true∧e=.returned (.tuple #[.agg #[.int .i64 k6,.int .i64 d6,.slice p6 n6 cap6,.slice q6 m6 cq6],.bool true])∧KD (Fr W w') (h+2) w' (.agg #[.int .i64 k6,.int .i64 d6,.slice p6 n6 cap6,.slice q6 m6 cq6]) (dataT (newT t)))
theorem readWKB_sm (h:Nat) (W:World) (x:Value) (l:List UInt8) (hb:BIn W x l) (hR:rdG true h (-1) l≠.bad true) (hS:Sm h l) :
    Calls Tryz.prog 15 #[x,.bool false] W (RdP h W (rdG true h (-1) l)):=by
  have HG:=Lib.hid (World.grownBy_alloc W (.cells #[.int .i64 0,.int .i64 0,.slice none 0 0,.slice none 0 0] 33) none)
  have HU:=Lib.hid (fun w (g:W.grownBy w none) np nc=>unm_of h (run_every h) w x l np nc (hb.mono g) hR hS)
  have HC:Hid (∀ w,(W.alloc (.cells #[.int .i64 0,.int .i64 0,.slice none 0 0,.slice none 0 0] 33)).grownBy w none→(w.cell? ⟨W.heap.size,0,none⟩=some (.int .i64 0)∧w.cell? ⟨W.heap.size,1,none⟩=some (.int .i64 0)∧w.cell? ⟨W.heap.size,2,none⟩=some (.slice none 0 0)∧w.cell? ⟨W.heap.size,3,none⟩=some (.slice none 0 0))∧(∀ j,w.frozen? ⟨W.heap.size,j,none⟩=false)∧W.grownBy w none∧W.heap.size<w.heap.size):=fun w g=>by
    have hb:=g.block W.heap.size (by simp) (by simp)
    have hs:=g.size
    simp at hs
    exact ⟨⟨g.cell (by simp) (by simp),g.cell (by simp) (by simp),g.cell (by simp) (by simp),g.cell (by simp) (by simp)⟩,fun j=>by rw [World.frozen?_of_block hb];simp,gt_trans HG.out g (.inl rfl),by omega⟩
  have HWt:Hid (∀ t l',rdG true h (-1) l=.ok t l'→wt t≤2000):=fun t l' e=>by
    cases h with
    | zero=>exact hS.elim
    | succ h=>exact hS.1 t l' e
  have hxs:∃ p c,x=.slice p l.length c:=by obtain ⟨p,c,e,_⟩:=hb;exact ⟨p,c,e⟩
  obtain ⟨p,c,rfl⟩:=hxs
  generalize hR0:rdG true h (-1) l=R at HU HWt ⊢
  clear hb hR hR0 hS
  generalize l.length=n at HU
  go_enter Tryz.func15,Tryz.ntmps15
  go_wp2_with (first
    | (go_at_call 31;refine (noCheck_false _).mono ?_;rintro e w1 ⟨⟨np,nc,rfl⟩,hg1⟩;have g01:=gt_trans HG.out hg1 (.inl rfl))
    | (go_at_call 37;go_loud (refine (HU.out _ g01 np nc).mono ?_;unfold UnP zGeo;rintro e w2 ⟨hg2,⟨hbad,ty,xx,rfl⟩ | ⟨t,l',ek,ety,eb,hRt,hok,rfl,hd⟩⟩ <;> (first
        | (have HBad:=Lib.hid hbad;clear hbad;obtain ⟨⟨r0,r1,r2,r3⟩,rf,gw,hwz⟩:=HC.out _ (gt_trans hg1 hg2 (.inl rfl));have rf0:=rf 0;have rf1:=rf 1;have rf2:=rf 2;have rf3:=rf 3)
        | (have HOk:=Lib.hid (And.intro hRt hok);have HD:=Lib.hid hd;have g12:=gt_trans hg1 hg2 (.inl rfl);have HPl:=Lib.hid (fun w (g:w2.grownBy w none)=>plain_all h _ w _ _ ((DGeo.dk h).toDK0.mono g hd) (new_ok t (HWt.out t l' hRt)) (fun b hb=>Nat.lt_of_lt_of_le hb.2 g.size));clear hRt hok hd))))
    | (go_at_call 32;go_loud (refine (HPl.out _ (World.grownBy_alloc _ _ _)).mono ?_;rintro e w3 ⟨v',rfl,hk,hg3⟩;obtain ⟨k6,d6,n6,f6,kids6,p6,cap6,q6,cq6,_,rfl⟩:=hk.form;have Hk:=Lib.hid hk;have g23:=gt_trans (World.grownBy_alloc _ _ none) hg3 (.inl rfl);obtain ⟨⟨r0,r1,r2,r3⟩,rf,gw,hwz⟩:=HC.out _ (gt_trans g12 g23 (.inl rfl));have rf0:=rf 0;have rf1:=rf 1;have rf2:=rf 2;have rf3:=rf 3;have hs3:=hg3.size;have hs12:=g12.size;simp at hs3 hs12;clear hk)))
  · have hz6:W.heap.size<((((w2.setCell ⟨W.heap.size,0,none⟩ (.int .i64 0)).setCell ⟨W.heap.size,1,none⟩ (.int .i64 0)).setCell ⟨W.heap.size,2,none⟩ (.slice none 0 0)).setCell ⟨W.heap.size,3,none⟩ (.slice none 0 0)).heap.size:=by simpa [World.setCell] using hwz
    refine bodyPost_ret (by simp [results,Tryz.results15,go_sem,r0,r1,r2,r3,hz6,hwz];try rfl) rfl ?_
    have gs:∀ (w:World) (j:Nat) (y:Value),W.grownBy w none→W.grownBy (w.setCell ⟨W.heap.size,j,none⟩ y) none:=fun w j y g=>gt_set_r g _ _ (Nat.le_refl _)
    exact ⟨gt_alloc_r (gs _ 3 _ (gs _ 2 _ (gs _ 1 _ (gs _ 0 _ gw)))) _,.inl ⟨HBad.out,rfl⟩⟩
  · have hz6:W.heap.size<w3.heap.size:=hwz
    refine bodyPost_ret (by simp [results,Tryz.results15,go_sem,r0,r1,r2,r3,hz6];try rfl) rfl ?_
    have ks:∀ (w:World) (j:Nat) (y:Value),Kept (Fr (w2.alloc (.cells #[.int .i64 ek,.iface ety (.pointer (some ⟨eb,0,none⟩))] 57)) w3) w (w.setCell ⟨W.heap.size,j,none⟩ y):=fun w j y=>.set (fun hB=>by have h2:=hB.1;simp at h2;omega) y
    have gs:∀ (w:World) (j:Nat) (y:Value),W.grownBy w none→W.grownBy (w.setCell ⟨W.heap.size,j,none⟩ y) none:=fun w j y g=>gt_set_r g _ _ (Nat.le_refl _)
    refine ⟨gs _ 3 _ (gs _ 2 _ (gs _ 1 _ (gs _ 0 _ gw))),.inr ⟨t,l',k6,d6,p6,n6,cap6,q6,_,cq6,HOk.out.1,HOk.out.2,rfl,((((Hk.out.keep (ks _ 0 _)).keep (ks _ 1 _)).keep (ks _ 2 _)).keep (ks _ 3 _)).weak fun b hb=>⟨by have h2:=hb.1;simp at h2;omega,by simp [World.setCell];exact hb.2⟩⟩⟩
theorem readWKB_any (h:Nat) (W:World) (x:Value) (l:List UInt8) (hb:BIn W x l) (hR:rdG true h (-1) l≠.bad true) (hl:l.length<9*h) (hl2:l.length≤8000) :
    Calls Tryz.prog 15 #[x,.bool false] W (RdP h W (rdG true h (-1) l)):=readWKB_sm h W x l hb hR (Sm_of h l hl hl2)
end
section
open Go.RowKit
theorem gp_great {hh:Nat} {V W w':World} {rb:Nat} {any:Bool} {R:Rd Raw} {len:Nat} {e:Ending} (h:GPost hh V W rb any R len e w') :
    W.grownBy w' (some rb)∧∃ (v:Value) (gr:Bool),e=.returned v∧w'.cell? ⟨rb,3,none⟩=some (.bool gr)∧(gr=false→R≠.bad true):=by
  obtain ⟨hg,v,t,he,hk,hm⟩:=h
  refine ⟨hg,?_⟩
  cases R with
  | ok t0 l=>exact ⟨v,false,he,hm.2.c3,fun _ h=>by cases h⟩
  | bad g =>
    obtain ⟨_,l',hr⟩:=hm
    exact ⟨v,g,he,hr.c3,fun h e=>by injection e with e;rw [h] at e;cases e⟩
theorem RS.first {W:World} {x:Value} {l:List UInt8} (hb:BIn W x l) {W2:World} (g:W.grownBy W2 none) (any:Bool) (rb:Nat) (h1:W.heap.size≤rb) (h2:rb<W2.heap.size) (c0:W2.cell? ⟨rb,0,none⟩=some x) (c1:W2.cell? ⟨rb,1,none⟩=some (.bool any)) (c2:W2.cell? ⟨rb,2,none⟩=some (.bool false)) (c3:W2.cell? ⟨rb,3,none⟩=some (.bool false)) (fz:∀ j,W2.frozen? ⟨rb,j,none⟩=false):RS W2 W2 rb l any false false :=
  ⟨gt_refl _ _,h2,⟨x,c0,hb.bv g rb h1⟩,c1,c2,c3,fz⟩
theorem asked_any (H:Nat) (W:World) (x:Value) (l:List UInt8) (hb:BIn W x l) (hl:l.length<9*H) :
    Calls Tryz.prog 14 #[x] W fun e w'=>∃ b:Bool,e=.returned (.bool b)∧(b=true→rdG true H (-1) l≠.bad true)∧W.grownBy w' none:=by
  have G1:=World.grownBy_alloc W (.cells #[x,.bool true,.bool false,.bool false] 70) none
  have hone:x.oneCell'=true:=by obtain ⟨p,c,rfl,_⟩:=hb;rfl
  have hRS:=RS.first hb G1 true W.heap.size (Nat.le_refl _) (by simp) (by simp) (by simp) (by simp) (by simp) (fun j=>by simp)
  have HG:=Lib.hid (geom_any H _ _ W.heap.size true (-1) l (.inl rfl) hl hRS)
  have hxs:∃ p c,x=.slice p l.length c:=by obtain ⟨p,c,e,_⟩:=hb;exact ⟨p,c,e⟩
  obtain ⟨p,c,rfl⟩:=hxs
  generalize hR0:rdG true H (-1) l=R at HG ⊢
  clear hb hl hRS hR0
  go_enter Tryz.func14,Tryz.ntmps14
  go_wp2_with (first
    | (go_at_call 36;go_loud (refine HG.out.mono ?_;intro e w1 hp;obtain ⟨hg1,v,gr,rfl,d3,hgr⟩:=gp_great hp;have HGr:=Lib.hid hgr;clear hp hgr)))
  cases gr
  · go_ret
    exact ⟨true,rfl,fun _=>HGr.out rfl,gt_part2 G1 hg1⟩
  · go_ret
    exact ⟨false,rfl,(fun h=>by cases h),gt_part2 G1 hg1⟩
def SRP (H:Nat) (W:World) (R:Rd Raw) (e:Ending) (w':World):Prop :=
  W.grownBy w' none∧match R with
  | .ok t _=>∃ k6 d6 p6 n6 c6 q6 m6 c7,e=.returned (.tuple #[.agg #[.int .i64 k6,.int .i64 d6,.slice p6 n6 c6,.slice q6 m6 c7],.bool true])∧KD (Fr W w') (H+1) w' (.agg #[.int .i64 k6,.int .i64 d6,.slice p6 n6 c6,.slice q6 m6 c7]) (newT t)
  | .bad _=>e=.returned (.tuple #[.agg #[.int .i64 0,.int .i64 0,.slice none 0 0,.slice none 0 0],.bool false])
def BdR (t:Raw) (bd:Bool):Rd Raw→Prop
  | .ok t0 _=>t=t0∧bd=false
  | .bad _=>bd=true
theorem gp_parts {hh:Nat} {V W w':World} {rb:Nat} {any:Bool} {R:Rd Raw} {len:Nat} {e:Ending} (h:GPost hh V W rb any R len e w') (hw:∀ t l,R=.ok t l→wt t≤2000) (hl:len≤2000) :
    W.grownBy w' (some rb)∧∃ (k6 d6:Int) (p6:Option Addr) (n6 cap6:Nat) (q6:Option Addr) (m6 cq6:Nat) (t:Raw) (bd:Bool),e=.returned (.agg #[.int .i64 k6,.int .i64 d6,.slice p6 n6 cap6,.slice q6 m6 cq6])∧KD (Fr W w') hh w' (.agg #[.int .i64 k6,.int .i64 d6,.slice p6 n6 cap6,.slice q6 m6 cq6]) t∧wt t≤2000∧w'.cell? ⟨rb,2,none⟩=some (.bool bd)∧BdR t bd R:=by
  obtain ⟨hg,v,t,he,hk,hm⟩:=h
  obtain ⟨k6,d6,n6,f6,kids6,p6,cap6,q6,cq6,_,hv⟩:=hk.form
  refine ⟨hg,k6,d6,p6,n6,cap6,q6,kids6.length,cq6,t,?_⟩
  cases R with
  | ok t0 l =>
    refine ⟨false,by rw [he,hv],by rw [←hv];exact hk,?_,hm.2.c2,hm.1,rfl⟩
    rw [hm.1];exact hw t0 l rfl
  | bad g =>
    obtain ⟨hw4,l',hr⟩:=hm
    exact ⟨true,by rw [he,hv],by rw [←hv];exact hk,by omega,hr.c2,rfl⟩
theorem set4 (w:World) (b:Nat) (k d x y:Value) (h0:∃ v,w.cell? ⟨b,0,none⟩=some v) (h1:∃ v,w.cell? ⟨b,1,none⟩=some v) (h2:∃ v,w.cell? ⟨b,2,none⟩=some v) (h3:∃ v,w.cell? ⟨b,3,none⟩=some v) :
    ((((w.setCell ⟨b,0,none⟩ k).setCell ⟨b,1,none⟩ d).setCell ⟨b,2,none⟩ x).setCell ⟨b,3,none⟩ y).cell? ⟨b,0,none⟩=some k∧((((w.setCell ⟨b,0,none⟩ k).setCell ⟨b,1,none⟩ d).setCell ⟨b,2,none⟩ x).setCell ⟨b,3,none⟩ y).cell? ⟨b,1,none⟩=some d ∧
    ((((w.setCell ⟨b,0,none⟩ k).setCell ⟨b,1,none⟩ d).setCell ⟨b,2,none⟩ x).setCell ⟨b,3,none⟩ y).cell? ⟨b,2,none⟩=some x∧((((w.setCell ⟨b,0,none⟩ k).setCell ⟨b,1,none⟩ d).setCell ⟨b,2,none⟩ x).setCell ⟨b,3,none⟩ y).cell? ⟨b,3,none⟩=some y ∧
    ((((w.setCell ⟨b,0,none⟩ k).setCell ⟨b,1,none⟩ d).setCell ⟨b,2,none⟩ x).setCell ⟨b,3,none⟩ y).heap.size=w.heap.size:=by
  obtain ⟨v0,h0⟩:=h0
  obtain ⟨v1,h1⟩:=h1
  obtain ⟨v2,h2⟩:=h2
  obtain ⟨v3,h3⟩:=h3
  have o:∀ (w:World) (i j:Nat) (y:Value),j≠i→(w.setCell ⟨b,i,none⟩ y).cell? ⟨b,j,none⟩=w.cell? ⟨b,j,none⟩:=fun w i j y hne=>by
    rw [World.cell?_setCell_other (h:=fun e=>hne (by injection e with _ e2;exact e2.symm))]
  refine ⟨?_,?_,?_,?_,by simp [World.setCell]⟩
  · rw [o _ 3 0 _ (by decide),o _ 2 0 _ (by decide),o _ 1 0 _ (by decide)]
    exact World.cell?_setCell_same (v:=k) (h:=h0)
  · rw [o _ 3 1 _ (by decide),o _ 2 1 _ (by decide)]
    exact World.cell?_setCell_same (v:=d) (h:=(o _ 0 1 _ (by decide)).trans h1)
  · rw [o _ 3 2 _ (by decide)]
    exact World.cell?_setCell_same (v:=x) (h:=(o _ 1 2 _ (by decide)).trans ((o _ 0 2 _ (by decide)).trans h2))
  · exact World.cell?_setCell_same (v:=y) (h:=(o _ 2 3 _ (by decide)).trans ((o _ 1 3 _ (by decide)).trans ((o _ 0 3 _ (by decide)).trans h3)))
theorem keptB4 {B:Nat→Prop} (w:World) (b:Nat) (k d x y:Value) (h:¬ B b):Kept B w ((((w.setCell ⟨b,0,none⟩ k).setCell ⟨b,1,none⟩ d).setCell ⟨b,2,none⟩ x).setCell ⟨b,3,none⟩ y) :=
  (((Kept.set (q:=⟨b,0,none⟩) h k).trans (Kept.set (q:=⟨b,1,none⟩) h d)).trans (Kept.set (q:=⟨b,2,none⟩) h x)).trans (Kept.set (q:=⟨b,3,none⟩) h y)
theorem grow4 {a w:World} (g:a.grownBy w none) (b:Nat) (hb:a.heap.size≤b) (k d x y:Value):a.grownBy ((((w.setCell ⟨b,0,none⟩ k).setCell ⟨b,1,none⟩ d).setCell ⟨b,2,none⟩ x).setCell ⟨b,3,none⟩ y) none :=
  gt_set_r (gt_set_r (gt_set_r (gt_set_r g _ _ hb) _ _ hb) _ _ hb) _ _ hb
theorem specRead_any (H:Nat) (W:World) (x:Value) (l:List UInt8) (hb:BIn W x l) (hl:l.length<9*H) (hl2:l.length≤2000) :
    Calls Tryz.prog 16 #[x] W (SRP H W (rdG false H (-1) l)):=by
  have hxs:∃ p c,x=.slice p l.length c:=by obtain ⟨p,c,e,_⟩:=hb;exact ⟨p,c,e⟩
  obtain ⟨p,c,rfl⟩:=hxs
  obtain ⟨n,hn⟩ : ∃ n,n=l.length:=⟨_,rfl⟩
  rw [←hn] at hb ⊢
  have gA:W.grownBy ((W.alloc (.cells #[.int .i64 0,.int .i64 0,.slice none 0 0,.slice none 0 0] 33)).alloc (.cells #[.slice p n c,.bool false,.bool false,.bool false] 70)) none:=gt_alloc_r (World.grownBy_alloc W _ none) _
  have hRS:=RS.first hb gA false (W.heap.size+1) (by omega) (by simp) (by simp) (by simp) (by simp) (by simp) (fun j=>by simp)
  have HG:=Lib.hid (geom_any H _ _ (W.heap.size+1) false (-1) l (.inl rfl) hl hRS)
  obtain ⟨W2,hW2⟩ : ∃ W2,W2=(W.alloc (.cells #[.int .i64 0,.int .i64 0,.slice none 0 0,.slice none 0 0] 33)).alloc (.cells #[.slice p n c,.bool false,.bool false,.bool false] 70):=⟨_,rfl⟩
  rw [←hW2] at gA HG
  have hs2:W2.heap.size=W.heap.size+2:=by rw [hW2];simp
  have HC:Hid (∀ w,W2.grownBy w (some (W.heap.size+1))→(w.cell? ⟨W.heap.size,0,none⟩=some (.int .i64 0)∧w.cell? ⟨W.heap.size,1,none⟩=some (.int .i64 0)∧w.cell? ⟨W.heap.size,2,none⟩=some (.slice none 0 0)∧w.cell? ⟨W.heap.size,3,none⟩=some (.slice none 0 0))∧(∀ j,w.frozen? ⟨W.heap.size,j,none⟩=false)∧W.grownBy w none∧W.heap.size<w.heap.size):=fun w g=>by
    have hn:some W.heap.size≠some (W.heap.size+1):=fun e=>by injection e with e;omega
    have hb:=g.block W.heap.size (by omega) hn
    have hs:=g.size
    refine ⟨⟨g.cell (by rw [hW2];simp) hn,g.cell (by rw [hW2];simp) hn,g.cell (by rw [hW2];simp) hn,g.cell (by rw [hW2];simp) hn⟩,fun j=>?_,gt_part2 gA g,by omega⟩
    rw [World.frozen?_of_block hb,hW2];simp
  have HN:=Lib.hid (fun (B:Nat→Prop) (w:World) (v:Value) (t:Raw) (hk:KD B (H+1) w v t) (hw:wt t≤2000)=>(NewD (H+1) B w _ _ hk hw).mono (fun e w' ⟨v',he,hk',hg⟩=>(by
    obtain ⟨k6,d6,n6,f6,kids6,p6,c6,q6,c7,e6,hv⟩:=hk'.form
    exact ⟨k6,d6,p6,n6,c6,q6,_,c7,by rw [he,hv],by rw [←hv];exact hk',hg⟩ : ∃ k6 d6 p6 n6 c6 q6 m6 c7,e=Ending.returned (.agg #[.int .i64 k6,.int .i64 d6,.slice p6 n6 c6,.slice q6 m6 c7])∧KD (Fr w w') (H+1) w' (.agg #[.int .i64 k6,.int .i64 d6,.slice p6 n6 c6,.slice q6 m6 c7]) (newT t)∧w.grownBy w' none)))
  have HWt:Hid (∀ t l',rdG false H (-1) l=.ok t l'→wt t≤2000):=fun t l' e=>by have:=rdG_wt false H (-1) l t l' e;omega
  generalize hR0:rdG false H (-1) l=R at HG HWt ⊢
  have HGm:=Lib.hid (HG.out.mono fun e w' hp=>gp_parts hp HWt.out hl2)
  have HW2:=Lib.hid hW2
  have gs:∀ (w:World) (j:Nat) (y:Value),W.grownBy w none→W.grownBy (w.setCell ⟨W.heap.size,j,none⟩ y) none:=fun w j y g=>gt_set_r g _ _ (Nat.le_refl _)
  have HGs:=Lib.hid gs
  clear hb hl hRS hR0 HG HWt gA hW2 hn hl2 gs
  go_enter Tryz.func16,Tryz.ntmps16
  go_wp2_with (first
    | (go_at_call 36;go_loud (rw [←HW2.out];refine HGm.out.mono ?_;rintro e w1 ⟨hg1,k6,d6,p6,n6,cap6,q6,m6,cq6,t,bd,rfl,hk1,hwt,hbd,hm⟩;have HK1:=Lib.hid hk1;have HWt:=Lib.hid hwt;have HM:=Lib.hid hm;obtain ⟨_,_,gw1,hz1⟩:=HC.out _ hg1;have hs1:=hg1.size;have hbd1:=hbd;clear hk1 hwt hm))
    | (go_at_call 22;go_loud ((with_reducible refine (HN.out _ _ _ _ HK1.out HWt.out).mono ?_);rintro e w2 ⟨k7,d7,p7,n7,c7,q7,m7,c8,rfl,hk2,hg2⟩;have HK2:=Lib.hid hk2;have hbd2:=hg2.cell hbd (by simp);have G12:=gt_trans hg1 hg2 (.inr (.inl rfl));obtain ⟨⟨r0,r1,r2,r3⟩,rf,gw,hwz⟩:=HC.out _ G12;have rf0:=rf 0;have rf1:=rf 1;have rf2:=rf 2;have rf3:=rf 3;have hs2':=hg2.size;clear hk2)))
  · obtain ⟨a0,a1,a2,a3,as_⟩:=set4 w2 W.heap.size (.int .i64 k7) (.int .i64 d7) (.slice p7 n7 c7) (.slice q7 m7 c8) ⟨_,r0⟩ ⟨_,r1⟩ ⟨_,r2⟩ ⟨_,r3⟩
    obtain ⟨z0,z1,z2,z3,zs⟩:=set4 _ W.heap.size (.int .i64 0) (.int .i64 0) (.slice none 0 0) (.slice none 0 0) ⟨_,a0⟩ ⟨_,a1⟩ ⟨_,a2⟩ ⟨_,a3⟩
    have hz6:W.heap.size<((((((((w2.setCell ⟨W.heap.size,0,none⟩ (.int .i64 k7)).setCell ⟨W.heap.size,1,none⟩ (.int .i64 d7)).setCell ⟨W.heap.size,2,none⟩ (.slice p7 n7 c7)).setCell ⟨W.heap.size,3,none⟩ (.slice q7 m7 c8)).setCell ⟨W.heap.size,0,none⟩ (.int .i64 0)).setCell ⟨W.heap.size,1,none⟩ (.int .i64 0)).setCell ⟨W.heap.size,2,none⟩ (.slice none 0 0)).setCell ⟨W.heap.size,3,none⟩ (.slice none 0 0)).heap.size:=Nat.lt_of_lt_of_eq hwz (zs.trans as_).symm
    have HFin:Hid (SRP H W R (.returned (.tuple #[.agg #[.int .i64 0,.int .i64 0,.slice none 0 0,.slice none 0 0],.bool false])) ((((((((w2.setCell ⟨W.heap.size,0,none⟩ (.int .i64 k7)).setCell ⟨W.heap.size,1,none⟩ (.int .i64 d7)).setCell ⟨W.heap.size,2,none⟩ (.slice p7 n7 c7)).setCell ⟨W.heap.size,3,none⟩ (.slice q7 m7 c8)).setCell ⟨W.heap.size,0,none⟩ (.int .i64 0)).setCell ⟨W.heap.size,1,none⟩ (.int .i64 0)).setCell ⟨W.heap.size,2,none⟩ (.slice none 0 0)).setCell ⟨W.heap.size,3,none⟩ (.slice none 0 0))):=by
      show SRP H W R _ _
      cases R with
      | ok t0 l' =>
        have h1:bd=false:=HM.out.2
        have h2:bd=true:=by with_reducible assumption
        rw [h1] at h2;cases h2
      | bad g=>exact ⟨grow4 (grow4 gw _ (Nat.le_refl _) _ _ _ _) _ (Nat.le_refl _) _ _ _ _,rfl⟩
    generalize ((((((((w2.setCell ⟨W.heap.size,0,none⟩ (.int .i64 k7)).setCell ⟨W.heap.size,1,none⟩ (.int .i64 d7)).setCell ⟨W.heap.size,2,none⟩ (.slice p7 n7 c7)).setCell ⟨W.heap.size,3,none⟩ (.slice q7 m7 c8)).setCell ⟨W.heap.size,0,none⟩ (.int .i64 0)).setCell ⟨W.heap.size,1,none⟩ (.int .i64 0)).setCell ⟨W.heap.size,2,none⟩ (.slice none 0 0)).setCell ⟨W.heap.size,3,none⟩ (.slice none 0 0))=w9 at z0 z1 z2 z3 hz6 HFin ⊢
    refine bodyPost_ret (by simp [results,Tryz.results16,go_sem,z0,z1,z2,z3,hz6];try rfl) rfl ?_
    exact HFin.out
  · have hW1:W.heap.size≤w1.heap.size:=by omega
    have hW1':¬ w1.heap.size≤W.heap.size:=by omega
    obtain ⟨a0,a1,a2,a3,as_⟩:=set4 w2 W.heap.size (.int .i64 k7) (.int .i64 d7) (.slice p7 n7 c7) (.slice q7 m7 c8) ⟨_,r0⟩ ⟨_,r1⟩ ⟨_,r2⟩ ⟨_,r3⟩
    obtain ⟨z0,z1,z2,z3,zs⟩:=set4 _ W.heap.size (.int .i64 k7) (.int .i64 d7) (.slice p7 n7 c7) (.slice q7 m7 c8) ⟨_,a0⟩ ⟨_,a1⟩ ⟨_,a2⟩ ⟨_,a3⟩
    have hz6:W.heap.size<((((((((w2.setCell ⟨W.heap.size,0,none⟩ (.int .i64 k7)).setCell ⟨W.heap.size,1,none⟩ (.int .i64 d7)).setCell ⟨W.heap.size,2,none⟩ (.slice p7 n7 c7)).setCell ⟨W.heap.size,3,none⟩ (.slice q7 m7 c8)).setCell ⟨W.heap.size,0,none⟩ (.int .i64 k7)).setCell ⟨W.heap.size,1,none⟩ (.int .i64 d7)).setCell ⟨W.heap.size,2,none⟩ (.slice p7 n7 c7)).setCell ⟨W.heap.size,3,none⟩ (.slice q7 m7 c8)).heap.size:=Nat.lt_of_lt_of_eq hwz (zs.trans as_).symm
    have HFin:Hid (SRP H W R (.returned (.tuple #[.agg #[.int .i64 k7,.int .i64 d7,.slice p7 n7 c7,.slice q7 m7 c8],.bool true])) ((((((((w2.setCell ⟨W.heap.size,0,none⟩ (.int .i64 k7)).setCell ⟨W.heap.size,1,none⟩ (.int .i64 d7)).setCell ⟨W.heap.size,2,none⟩ (.slice p7 n7 c7)).setCell ⟨W.heap.size,3,none⟩ (.slice q7 m7 c8)).setCell ⟨W.heap.size,0,none⟩ (.int .i64 k7)).setCell ⟨W.heap.size,1,none⟩ (.int .i64 d7)).setCell ⟨W.heap.size,2,none⟩ (.slice p7 n7 c7)).setCell ⟨W.heap.size,3,none⟩ (.slice q7 m7 c8))):=by
      show SRP H W R _ _
      cases R with
      | bad g=>
        have h1:bd=true:=HM.out
        have h2:bd=false:=by with_reducible assumption
        rw [h1] at h2;cases h2
      | ok t0 l' =>
        obtain ⟨rfl,_⟩:=HM.out
        have hnb:¬ Fr w1 w2 W.heap.size:=fun hB=>hW1' hB.1
        have hk8:=(keptB4 w2 W.heap.size (.int .i64 k7) (.int .i64 d7) (.slice p7 n7 c7) (.slice q7 m7 c8) hnb).trans (keptB4 _ W.heap.size (.int .i64 k7) (.int .i64 d7) (.slice p7 n7 c7) (.slice q7 m7 c8) hnb)
        refine ⟨grow4 (grow4 gw _ (Nat.le_refl _) _ _ _ _) _ (Nat.le_refl _) _ _ _ _,k7,d7,p7,n7,c7,q7,m7,c8,rfl,?_⟩
        exact (HK2.out.keep hk8).weak (fun b hb=>⟨Nat.le_trans hW1 hb.1,Nat.lt_of_lt_of_eq hb.2 (zs.trans as_).symm⟩)
    generalize ((((((((w2.setCell ⟨W.heap.size,0,none⟩ (.int .i64 k7)).setCell ⟨W.heap.size,1,none⟩ (.int .i64 d7)).setCell ⟨W.heap.size,2,none⟩ (.slice p7 n7 c7)).setCell ⟨W.heap.size,3,none⟩ (.slice q7 m7 c8)).setCell ⟨W.heap.size,0,none⟩ (.int .i64 k7)).setCell ⟨W.heap.size,1,none⟩ (.int .i64 d7)).setCell ⟨W.heap.size,2,none⟩ (.slice p7 n7 c7)).setCell ⟨W.heap.size,3,none⟩ (.slice q7 m7 c8))=w9 at z0 z1 z2 z3 hz6 HFin ⊢
    refine bodyPost_ret (by simp [results,Tryz.results16,go_sem,z0,z1,z2,z3,hz6];try rfl) rfl ?_
    exact HFin.out
end
section
open Go.RowKit
mutual
def noN:Raw→Prop
  | .mk _ _ n f kids=>(∀ i,i<n→f i<18446744073709551616∧nanB (f i)=false)∧noNs kids
def noNs:List Raw→Prop
  | []=>True
  | t::ts=>noN t∧noNs ts
end
theorem fF_ok {r D n:Nat} (hr:r<4) {f:Nat→Nat} (hf:∀ i,i<n→f i<18446744073709551616∧nanB (f i)=false) (i:Nat) (hi:i<n / widN r*widN D):fF r D f i<18446744073709551616∧nanB (fF r D f i)=false:=by
  have hD:=widN_pos D
  have hw:=widN_pos r
  have hq:i / widN D<n / widN r:=Nat.div_lt_of_lt_mul (by rw [Nat.mul_comm];exact hi)
  obtain ⟨q,hqq⟩ : ∃ q,q=i / widN D:=⟨_,rfl⟩
  rw [←hqq] at hq
  have h1:(q+1)*widN r≤n:=Nat.le_trans (Nat.mul_le_mul_right _ hq) (Nat.div_mul_le_self n (widN r))
  rw [Nat.add_mul,Nat.one_mul] at h1
  have h0:(0:Nat)<18446744073709551616∧nanB 0=false:=⟨by decide,zero_nan⟩
  have hx:plX r f q<18446744073709551616∧nanB (plX r f q)=false:=hf _ (by omega)
  have hy:plY r f q<18446744073709551616∧nanB (plY r f q)=false:=hf _ (by omega)
  have hz:plZ r f q<18446744073709551616∧nanB (plZ r f q)=false:=by
    unfold plZ
    split
    · refine hf _ ?_
      have:3≤widN r:=by unfold widN;omega
      omega
    · exact h0
  have hm:plM r f q<18446744073709551616∧nanB (plM r f q)=false:=by
    unfold plM
    split
    · exact hf _ (by omega)
    · exact h0
  unfold fF
  rw [←hqq]
  split
  · exact hx
  · split
    · exact hy
    · split
      · exact hz
      · exact hm
theorem noN_of {k d:Int} {n:Nat} {f:Nat→Nat} {kids:List Raw} (h:noN (.mk k d n f kids)):(∀ i,i<n→f i<18446744073709551616∧nanB (f i)=false)∧noNs kids:=by unfold noN at h;exact h
theorem kind_forceT (D:Nat):∀ t:Raw,kindOf (forceT D t)=kindOf t∧dimR (forceT D t)=D
  | .mk k d n f kids=>by unfold forceT;exact ⟨rfl,by show ((D:Nat):Int).toNat=D;omega⟩
mutual
theorem gd_force {r D:Nat} (hr:r<4) (hD:D<4) (hw:widN D≤widN r):∀ t:Raw,okU r t→gdT t→gdT (forceT D t)∧wt (forceT D t)≤wt t
  | .mk k d n f kids,hu,hg=>by
    unfold okU at hu
    obtain ⟨rfl,u1,u2,u3⟩:=hu
    unfold gdT at hg
    obtain ⟨k0,k6,d0,d4,hf,h1,h2,h3,h4,h5,hks⟩:=hg
    rw [Int.toNat_natCast] at h1 h2
    have hwr:=widN_pos r
    have hwD:=widN_pos D
    have hle:n / widN r*widN D≤n:=Nat.le_trans (Nat.mul_le_mul_left _ hw) (Nat.div_mul_le_self n (widN r))
    obtain ⟨i1,i2⟩:=gd_forces hr hD hw k r kids u3 hks
    unfold forceT
    rw [Int.toNat_natCast]
    refine ⟨?_,by unfold wt;omega⟩
    unfold gdT
    rw [Int.toNat_natCast]
    refine ⟨k0,k6,by omega,by omega,fun i hi=>fF_ok hr hf i hi,fun hk=>?_,fun hk=>⟨Nat.mul_mod_left _ _,by omega⟩,by rw [forceTs_len];exact h3,fun hk=>?_,fun hk1 hk2=>?_,i1⟩
    · rcases h1 hk with e | e
      · left;rw [e];simp
      · right;rw [e,Nat.div_self (by omega),Nat.one_mul]
    · rw [h4 hk];rfl
    · rw [h5 hk1 hk2];simp
theorem gd_forces {r D:Nat} (hr:r<4) (hD:D<4) (hw:widN D≤widN r) (k:Int):∀ (r':Nat) (ts:List Raw),okUs r ts→gdTs k (r':Nat) ts→gdTs k (D:Nat) (forceTs D ts)∧wts (forceTs D ts)≤wts ts
  | _,[],_,_=>⟨trivial,Nat.le_refl _⟩
  | r',t::ts,hu,hg=>by
    unfold okUs at hu
    unfold gdTs at hg
    obtain ⟨g1,g2,g3,g4⟩:=hg
    obtain ⟨i1,i2⟩:=gd_force hr hD hw t hu.1 g1
    obtain ⟨j1,j2⟩:=gd_forces hr hD hw k r' ts hu.2 g4
    obtain ⟨k1,k2⟩:=kind_forceT D t
    unfold forceTs
    refine ⟨?_,by unfold wts;omega⟩
    unfold gdTs
    exact ⟨i1,fun h=>by rw [k1];exact g2 h,fun _=>by rw [k2];omega,j1⟩
end
theorem gdTs_of {D:Nat} (hD:D<4) (k:Int):∀ (ks:List Raw),(∀ m ∈ ks,gdT m∧okU (dimR m) m∧dimR m<4∧widN D≤widN (dimR m)∧(0≤kidOf k→kindOf m=kidOf k))→gdTs k (D:Nat) (forceTs D ks)∧wts (forceTs D ks)≤wts ks
  | [],_=>⟨trivial,Nat.le_refl _⟩
  | m::ks,h=>by
    obtain ⟨h1,h2,h3,h4,h5⟩:=h m List.mem_cons_self
    obtain ⟨i1,i2⟩:=gd_force h3 hD h4 m h2 h1
    obtain ⟨j1,j2⟩:=gdTs_of hD k ks fun s hs=>h s (List.mem_cons_of_mem _ hs)
    obtain ⟨k1,k2⟩:=kind_forceT D m
    unfold forceTs
    refine ⟨?_,by unfold wts;omega⟩
    unfold gdTs
    exact ⟨i1,fun h=>by rw [k1];exact h5 h,fun _=>by rw [k2];omega,j1⟩
theorem wts_filter (p:Raw→Bool):∀ ts:List Raw,wts (ts.filter p)≤wts ts
  | []=>Nat.le_refl _
  | t::ts=>by
    have h:=wts_filter p ts
    by_cases hp:p t=true
    · rw [List.filter_cons_of_pos hp];simp only [wts];omega
    · rw [List.filter_cons_of_neg hp];simp only [wts];omega
mutual
theorem new_gd:∀ t:Raw,wt t≤2000→noN t→gdT (newT t)∧wt (newT t)≤wt t
  | .mk k d n f kids,hw,hn=>by
    have hw0:=hw
    unfold wt at hw
    obtain ⟨hf,hns⟩:=noN_of hn
    have hd:(d % 4).toNat<4:=by omega
    have hd2:(d % 4)=((d % 4).toNat:Int):=by omega
    have hwp:=widN_pos (d % 4).toNat
    have e2:=Nat.div_mul_le_self n (widN (d % 4).toNat)
    have e1:=Nat.mul_le_mul_right (widN (d % 4).toNat) (Nat.min_le_left (n / widN (d % 4).toNat) 1)
    have hk06:0≤kindN k∧kindN k≤6:=by unfold kindN;split <;> omega
    unfold newT
    split
    · refine ⟨?_,by unfold wt wts;omega⟩
      unfold gdT
      refine ⟨by omega,by omega,by omega,by omega,fun i hi=>hf i (by omega),fun _=>?_,fun h=>absurd h (by decide),by simp,fun _=>rfl,fun h=>absurd rfl h,trivial⟩
      by_cases h0:n / widN (d % 4).toNat=0
      · left;rw [h0];simp
      · right;rw [Nat.min_eq_right (Nat.pos_of_ne_zero h0),Nat.one_mul]
    · split
      · refine ⟨?_,by unfold wt wts;omega⟩
        unfold gdT
        exact ⟨by omega,by omega,by omega,by omega,fun i hi=>hf i (by omega),fun h=>absurd h (by decide),fun _=>⟨Nat.mul_mod_left _ _,by omega⟩,by simp,fun _=>rfl,fun _ h=>absurd rfl h,trivial⟩
      · rename_i hk1 hk2
        have hks:=news_gd kids (by omega) hns
        have hku:=news_okU kids (by omega)
        have hwf:=wts_filter (keepT (kindN k)) (newTs kids)
        have hlen:((newTs kids).filter (keepT (kindN k))).length≤2000:=by
          have h1:=wts_len ((newTs kids).filter (keepT (kindN k)))
          have:=hks.2
          omega
        unfold nodeT
        split
        · refine ⟨?_,by unfold wt wts;omega⟩
          unfold gdT
          exact ⟨hk06.1,hk06.2,by omega,by omega,fun i hi=>absurd hi (by omega),fun _=>.inl rfl,fun _=>⟨Nat.zero_mod _,by omega⟩,by simp,fun _=>rfl,fun _ _=>rfl,trivial⟩
        · have hD:=dimsOf_lt ((newTs kids).filter (keepT (kindN k)))
          obtain ⟨i1,i2⟩:=gdTs_of hD (kindN k) ((newTs kids).filter (keepT (kindN k))) (fun m hm=>by
            obtain ⟨hm1,hm2⟩:=List.mem_filter.1 hm
            obtain ⟨u1,u2⟩:=hku m hm1
            refine ⟨hks.1 m hm1,u1,u2,widN_dims _ m hm u2,fun h0=>?_⟩
            unfold keepT at hm2
            simp only [Bool.or_eq_true,decide_eq_true_eq] at hm2
            rcases hm2 with h | h
            · omega
            · exact h.symm)
          unfold forceT
          refine ⟨?_,by have:=hks.2;unfold wt;simp;omega⟩
          unfold gdT
          refine ⟨hk06.1,hk06.2,by omega,by omega,fun i hi=>absurd hi (by simp),fun h=>absurd h hk1,fun h=>absurd h hk2,by rw [forceTs_len];omega,fun h=>by rcases h with h | h;exact absurd h hk1;exact absurd h hk2,fun _ _=>by simp,i1⟩
theorem news_gd:∀ ts:List Raw,wts ts≤2000→noNs ts→(∀ m ∈ newTs ts,gdT m)∧wts (newTs ts)≤wts ts
  | [],_,_=>⟨fun m hm=>by unfold newTs at hm;simp at hm,Nat.le_refl _⟩
  | t::ts,hw,hn=>by
    unfold wts at hw
    unfold noNs at hn
    obtain ⟨i1,i2⟩:=new_gd t (by omega) hn.1
    obtain ⟨j1,j2⟩:=news_gd ts (by omega) hn.2
    unfold newTs
    refine ⟨fun m hm=>?_,by unfold wts;omega⟩
    rcases List.mem_cons.1 hm with rfl | hm
    · exact i1
    · exact j1 m hm
end
mutual
theorem wrT_len:∀ t:Raw,gdT t→(wrT t).length≤50*wt t
  | .mk k d n f kids,hg=>by
    unfold gdT at hg
    obtain ⟨k0,k6,d0,d4,hf,h1,h2,h3,h4,h5,hks⟩:=hg
    have hw:=widN_le d.toNat (by omega)
    have hk:=wrTs_len (decide (k=3)) k d kids hks
    have e8:=numsW_len n f
    have e9:=numsW_len (widN d.toNat) (fun _=>emptyN)
    unfold wrT wt
    by_cases hk1:k=1
    · rw [if_pos hk1]
      by_cases hn:n=0
      · rw [if_pos hn]
        simp only [List.length_append,leB_len,e9,List.length_cons,List.length_nil]
        omega
      · rw [if_neg hn]
        simp only [List.length_append,leB_len,e8,List.length_cons,List.length_nil]
        omega
    · rw [if_neg hk1]
      by_cases hk2:k=2
      · rw [if_pos hk2]
        unfold bLine
        simp only [List.length_append,leB_len,e8,List.length_cons,List.length_nil]
        omega
      · rw [if_neg hk2]
        simp only [List.length_append,leB_len,List.length_cons,List.length_nil]
        omega
theorem wrTs_len:∀ (b:Bool) (k d:Int) (ts:List Raw),gdTs k d ts→(wrTs b ts).length≤50*wts ts
  | _,_,_,[],_=>Nat.le_refl _
  | b,k,d,t::ts,hg=>by
    unfold gdTs at hg
    have h1:=wrT_len t hg.1
    have h2:=wrTs_len b k d ts hg.2.2.2
    have h3:(bLine t).length≤50*wt t:=by
      obtain ⟨k,d,n,f,kids⟩:=t
      have e8:=numsW_len n f
      unfold bLine wt
      rw [List.length_append,leB_len,e8]
      omega
    unfold wrTs wts
    rw [List.length_append]
    split <;> omega
end
end
section
open Go.RowKit
theorem gNumberD (b:Nat) (W:World):Calls Tryz.prog 18 #[.float .f64 b] W fun e w'=>e=.returned (.bool (!nanB b))∧W.grownBy w' none:=by
  have HN:=Lib.hid (fun w=>isNaN_D b w)
  generalize nanB b=nb at HN ⊢
  go_enter Tryz.func18,Tryz.ntmps18
  go_wp2_with (go_at_call 38;refine (HN.out _).mono ?_;rintro e w' ⟨rfl,rfl⟩)
  go_ret
  exact ⟨rfl,gt_refl _ _⟩
mutual
noncomputable def allN:Raw→Bool
  | .mk _ _ n f kids=>((List.range n).all fun i=>(!nanB (f i)))&&allNs kids
noncomputable def allNs:List Raw→Bool
  | []=>true
  | t::ts=>allN t&&allNs ts
end
theorem allNs_take (kids:List Raw) (l:Nat) (t:Raw) (h:kids[l]?=some t):allNs (kids.take (l+1))=(allNs (kids.take l)&&allN t):=by
  have key:∀ (a:List Raw) (t:Raw),allNs (a++[t])=(allNs a&&allN t):=by
    intro a t
    induction a with
    | nil=>simp [allNs]
    | cons s a ih=>simp only [List.cons_append,allNs,ih,Bool.and_assoc]
  obtain ⟨hlt,rfl⟩:=List.getElem?_eq_some_iff.1 h
  rw [List.take_succ_eq_append_getElem hlt,key]
theorem allNs_le (kids:List Raw) (l:Nat) (h:allNs (kids.take l)=false):allNs kids=false:=by
  have key:∀ (a b:List Raw),allNs (a++b)=(allNs a&&allNs b):=by
    intro a b
    induction a with
    | nil=>simp [allNs]
    | cons s a ih=>simp only [List.cons_append,allNs,ih,Bool.and_assoc]
  have:=key (kids.take l) (kids.drop l)
  rw [List.take_append_drop,h] at this
  exact this
theorem gAllN:∀ (h:Nat) (B:Nat→Prop) (W:World) (v:Value) (t:Raw),KD B h W v t→Calls Tryz.prog 17 #[v,.func (.func 18) #[] #[]] W fun e w'=>e=.returned (.bool (allN t))∧W.grownBy w' none:=by
  intro h
  induction h with
  | zero=>intro B W v t hk;exact hk.elim
  | succ h ih =>
    intro B W v t hk
    obtain ⟨k,d,n,f,kids⟩:=t
    obtain ⟨p,cap,q,c2,rfl,hf,h1,h2,h3,hm1,hm2,hm3,hm4,_⟩:=hk
    have HM:=Lib.hid hm4
    have HM3:=Lib.hid hm3
    have HF:=Lib.hid hf
    have hmax:maxLen=9223372036854775807:=rfl
    have HAF:Hid (∀ j,j<n→(!nanB (f j))=false→allN (.mk k d n f kids)=false):=fun j hj hb=>by
      unfold allN
      have:((List.range n).all fun i=>(!nanB (f i)))=false:=by
        rw [List.all_eq_false]
        exact ⟨j,by simpa using hj,by simp [hb]⟩
      rw [this];rfl
    have HAT:Hid ((∀ j,j<n→(!nanB (f j))=true)→allN (.mk k d n f kids)=allNs kids):=fun hall=>by
      unfold allN
      have:((List.range n).all fun i=>(!nanB (f i)))=true:=by
        rw [List.all_eq_true]
        intro i hi
        exact hall i (by simpa using hi)
      rw [this];rfl
    have HTk:=Lib.hid (fun l t (hl:kids[l]?=some t)=>allNs_take kids l t hl)
    have HTl:=Lib.hid (fun l (hl:allNs (kids.take l)=false)=>allNs_le kids l hl)
    have HTE:Hid (allNs (kids.take kids.length)=allNs kids):=by rw [List.take_length];exact rfl
    have HG:Hid (∀ j,j<kids.length→∃ t,kids[j]?=some t):=fun j hj=>⟨kids[j]'(by omega),List.getElem?_eq_getElem (by omega)⟩
    generalize kids.length=m at HG HTE hm1 ⊢
    clear hm4 hm3 hf
    have H1:=World.grownBy_alloc W (.cells #[.int .i64 k,.int .i64 d,.slice p n cap,.slice q m c2] 33) none
    have HB:Hid (∀ W',(W.alloc (.cells #[.int .i64 k,.int .i64 d,.slice p n cap,.slice q m c2] 33)).grownBy W' none→W'.cell? ⟨W.heap.size,3,none⟩=some (.slice q m c2)):=fun W' g=>g.cell (by simp) (by simp)
    go_enter Tryz.func17,Tryz.ntmps17
    go_wp2_with fail
    go_loopw [12] (fun i wr=>∃ (j:Nat),i=.int .i64 j∧j≤n∧(∀ i,i<j→(!nanB (f i))=true)∧(W.alloc (.cells #[.int .i64 k,.int .i64 d,.slice p n cap,.slice q m c2] 33)).grownBy wr none) (fun i _=>n - (intOf i).toNat)
    case atStart=>exact ⟨0,rfl,by omega,fun i hi=>by omega,gt_refl _ _⟩
    case round =>
      obtain ⟨j,rfl,hj,hfin,hg⟩:=hrel
      rename World=>wr
      have hbox:=HB.out wr hg
      have HFin:=Lib.hid hfin
      clear hfin
      by_cases hjn:j<n
      · obtain ⟨a,rfl⟩:=HF.out.some_ (by omega)
        have hb1:=HF.out.at_ a rfl j hjn
        have G:=gt_trans H1 hg (.inl rfl)
        have q1:=G.cell hb1 (by simp)
        have IH:=Lib.hid (gNumberD (f j) wr)
        have HFj:=Lib.hid (HAF.out j hjn)
        obtain ⟨fb,hfb⟩ : ∃ fb,fb=(!nanB (f j)):=⟨_,rfl⟩
        rw [←hfb] at IH HFj
        have Hfb:=Lib.hid hfb
        clear hb1 hfb
        cases fb
        · have HFj2:=Lib.hid (HFj.out rfl)
          go_wp2_with (go_at_call 18;refine IH.out.mono ?_;rintro e w' ⟨rfl,hg'⟩)
          go_ret
          exact ⟨ret_bool HFj2.out.symm,gt_trans G hg' (.inl rfl)⟩
        · go_wp2_with (go_at_call 18;refine IH.out.mono ?_;rintro e w' ⟨rfl,hg'⟩)
          exact ⟨⟨j+1,by go_num,by omega,fun i hi=>by
            by_cases he:i=j
            · subst he;exact Hfb.out.symm
            · exact HFin.out i (by omega),gt_trans hg hg' (.inl rfl)⟩,by simp [intOf];omega⟩
      · obtain rfl:j=n:=by omega
        go_wp2_with fail
        have H0:=gt_trans H1 hg (.inl rfl)
        have HA0:=Lib.hid (HAT.out HFin.out)
        clear hg
        go_loopw [24] (fun i w2=>∃ (l:Nat),i=.int .i64 l∧l≤m∧allNs (kids.take l)=true∧W.grownBy w2 none) (fun i _=>m - (intOf i).toNat)
        case atStart=>exact ⟨0,rfl,by omega,by simp [allNs],H0⟩
        case round =>
          obtain ⟨e,rfl,he,hall,hg⟩:=hrel
          rename World=>w2
          have HAll:=Lib.hid hall
          clear hall
          by_cases hem:e<m
          · obtain ⟨t,ht⟩:=HG.out e hem
            obtain ⟨a,rfl⟩ : ∃ a,q=some a:=by
              cases q with
              | none=>have:=HM3.out rfl;omega
              | some a=>exact ⟨a,rfl⟩
            obtain ⟨c0,c1,c2,c3,k0,k1,k2,k3,k4⟩:=HM.out a rfl e t ht
            obtain ⟨k',d',n',f',kids',p',cap',q',c',hte,rfl,rfl,rfl,rfl⟩:=k0.form4
            clear hte
            generalize kids'.length=m' at k0 k4
            have q1:=hg.cell k1 (by simp)
            have q2:=hg.cell k2 (by simp)
            have q3:=hg.cell k3 (by simp)
            have q4:=hg.cell k4 (by simp)
            have IH:=Lib.hid (fun w (g:W.grownBy w none)=>ih B w _ t (k0.mono g))
            have HTt:=Lib.hid (HTk.out e t ht)
            have HG2:=Lib.hid hg
            obtain ⟨ab,hab⟩ : ∃ ab,ab=allN t:=⟨_,rfl⟩
            rw [←hab,HAll.out] at HTt
            rw [←hab] at IH
            clear k0 k1 k2 k3 k4 hg ht hab
            cases ab
            · have hf2:=HTl.out (e+1) HTt.out
              have HA1:Hid (allN (.mk k d j f kids)=false):=by rw [HA0.out];exact hf2
              clear hf2
              go_wp2_with (go_at_call 17;refine (IH.out _ (gt_alloc_r HG2.out _)).mono ?_;rintro e w' ⟨rfl,hg'⟩)
              go_ret
              exact ⟨ret_bool HA1.out.symm,gt_trans (gt_alloc_r HG2.out _) hg' (.inl rfl)⟩
            · go_wp2_with (go_at_call 17;refine (IH.out _ (gt_alloc_r HG2.out _)).mono ?_;rintro e w' ⟨rfl,hg'⟩)
              exact ⟨⟨e+1,by go_num,by omega,HTt.out,gt_trans (gt_alloc_r HG2.out _) hg' (.inl rfl)⟩,by simp [intOf];omega⟩
          · obtain rfl:e=m:=by omega
            have HA1:Hid (allN (.mk k d j f kids)=true):=by rw [HA0.out,←HTE.out];exact HAll.out
            go_wp2_with fail
            go_wp2_with fail
            go_ret
            exact ⟨ret_bool HA1.out.symm,hg⟩
theorem noN_of_all (B:Nat→Prop) (W:World):∀ (h:Nat) (v:Value) (t:Raw),KD B h W v t→allN t=true→noN t
  | 0,_,_,hk,_=>hk.elim
  | h+1,v,.mk k d n f kids,hk,ha=>by
    obtain ⟨p,cap,q,c2,rfl,hf,h1,h2,h3,hm1,hm2,hm3,hm4,_⟩:=hk
    have key:∀ (kids:List Raw),(∀ (i:Nat) (t:Raw),kids[i]?=some t→∃ v,KD B h W v t)→allNs kids=true→noNs kids:=by
      intro kids
      induction kids with
      | nil=>intro _ _;trivial
      | cons t ts ih =>
        intro hk ha
        unfold allNs at ha
        rw [Bool.and_eq_true] at ha
        obtain ⟨v,hv⟩:=hk 0 t rfl
        unfold noNs
        exact ⟨noN_of_all B W h v t hv ha.1,ih (fun i s hi=>hk (i+1) s (by simpa using hi)) ha.2⟩
    unfold allN at ha
    rw [Bool.and_eq_true,List.all_eq_true] at ha
    unfold noN
    refine ⟨fun i hi=>⟨hf.lt i,by have:=ha.1 i (by simpa using hi);simpa using this⟩,?_⟩
    cases q with
    | none =>
      have:kids.length=0:=by have:=hm3 rfl;omega
      rw [List.eq_nil_of_length_eq_zero this]
      trivial
    | some a=>exact key kids (fun i t hi=>by
        obtain ⟨c0,c1,c2,c3,k0,_⟩:=hm4 a rfl i t hi
        exact ⟨_,k0⟩) ha.2
end
end Go.Proofs.YtlpaecafpbbbkaaGreatDoor
