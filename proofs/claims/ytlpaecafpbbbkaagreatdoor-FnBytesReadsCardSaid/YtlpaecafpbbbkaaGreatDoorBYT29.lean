/- The package's reader of well known binary: polygons. The package's reader of well known binary: a geometry, whatever the bytes, of what its parts do. The reference's reader of well known binary: a geometry whose head is none. -/
import Derived.Test.YtlpaecafpbbbkaaGreatDoorBYT16
import Derived.Test.YtlpaecafpbbbkaaGreatDoorBYT17
import Derived.Test.YtlpaecafpbbbkaaGreatDoorBYT20
import Derived.Test.YtlpaecafpbbbkaaGreatDoorBYT21
import Derived.Test.YtlpaecafpbbbkaaGreatDoorBYT23
import Derived.Test.YtlpaecafpbbbkaaGreatDoorBYT24
import Derived.Test.YtlpaecafpbbbkaaGreatDoorBYT28
set_option linter.unusedVariables false
set_option linter.unusedSimpArgs false
set_option maxRecDepth 100000
set_option maxHeartbeats 24000000
namespace Go.Proofs.YtlpaecafpbbbkaaGreatDoor
section
open Go.RowKit
def zPg:Value:=.agg #[.slice none 0 0,.int .u8 0]
def rdPg (r:Nat) (big:Bool) (l:List UInt8):Rd Raw:=(rdC big l).bind fun n l2=>(rdL (rdLine r big) n l2).bind fun ts l3=>.ok (.mk 3 r 0 (fun _=>0) ts) l3
theorem parsePg_short (V W:World) (pb r o:Nat) (no:Bool) (l:List UInt8) (hl:l.length<4) (h:WP V W pb l o no):Calls Tryz.prog 201 #[.pointer (some ⟨pb,0,none⟩),.int .u8 r] W fun e w'=>(∃ ty x,e=.returned (.tuple #[zPg,.iface ty x]))∧W.grownBy w' (some pb):=by
  have hpb:=h.lt
  have HU:=Lib.hid (parseU32_bad V _ pb o no l hl (h.kept (World.grownBy_alloc W (.cells #[.slice none 0 0,.int .u8 0] 97) none)))
  have HG:=Lib.hid (gt_some (World.grownBy_alloc W (.cells #[.slice none 0 0,.int .u8 0] 97) none) pb)
  have HC:Hid (∀ w,(W.alloc (.cells #[.slice none 0 0,.int .u8 0] 97)).grownBy w (some pb)→w.cell? ⟨W.heap.size,0,none⟩=some (.slice none 0 0)∧w.cell? ⟨W.heap.size,1,none⟩=some (.int .u8 0)∧∀ j,w.frozen? ⟨W.heap.size,j,none⟩=false):=fun w g=>by
    have hn:some W.heap.size≠some pb:=fun e=>by injection e with e;omega
    have hb:=g.block W.heap.size (by simp) hn
    exact ⟨g.cell (by simp) hn,g.cell (by simp) hn,fun j=>by rw [World.frozen?_of_block hb];simp⟩
  clear h
  unfold zPg
  go_enter Tryz.func201,Tryz.ntmps201
  go_wp2_with (first
    | (go_at_call 198;refine HU.out.mono ?_;rintro e w1 ⟨⟨ty,x,rfl⟩,hg1⟩;obtain ⟨r0,r1,rf⟩:=HC.out _ hg1;have rf0:=rf 0;have rf1:=rf 1))
  refine bodyPost_ret (by simp [results,Tryz.results201,go_sem,r0,r1];try rfl) rfl ?_
  exact ⟨⟨_,_,rfl⟩,gt_set_r (gt_set_r (gt_trans HG.out hg1 (.inl rfl)) _ _ (Nat.le_refl _)) _ _ (Nat.le_refl _)⟩
theorem parsePg_some (V W:World) (pb r n:Nat) (big:Bool) (l:List UInt8) (hr:r<4) (hl:4≤l.length) (hn:numL big (l.take 4)=n) (hn0:0<n) (hn2:n≤4096) (hG:rdL (rdLine r big) n (l.drop 4)≠.bad true)
    (hS:∀ ts l',rdL (rdLine r big) n (l.drop 4)=.ok ts l'→wt (.mk 3 (r:Nat) 0 (fun _=>0) ts)≤2000) (h:WP V W pb l (if big=true then 0 else 1) (!big)) :
    Calls Tryz.prog 201 #[.pointer (some ⟨pb,0,none⟩),.int .u8 r] W (PrPost DPg zPg V W pb big ((rdL (rdLine r big) n (l.drop 4)).bind fun ts l3=>.ok (.mk 3 r 0 (fun _=>0) ts) l3)):=by
  have hpb:=h.lt
  have HU:=Lib.hid (parseU32_ok V _ pb big (!big) l hl (h.kept (World.grownBy_alloc W (.cells #[.slice none 0 0,.int .u8 0] 97) none)))
  rw [hn] at HU
  have HG:=Lib.hid (gt_some (World.grownBy_alloc W (.cells #[.slice none 0 0,.int .u8 0] 97) none) pb)
  have HC:Hid (∀ w,(W.alloc (.cells #[.slice none 0 0,.int .u8 0] 97)).grownBy w (some pb)→w.cell? ⟨W.heap.size,0,none⟩=some (.slice none 0 0)∧w.cell? ⟨W.heap.size,1,none⟩=some (.int .u8 0)∧∀ j,w.frozen? ⟨W.heap.size,j,none⟩=false):=fun w g=>by
    have hn:some W.heap.size≠some pb:=fun e=>by injection e with e;omega
    have hb:=g.block W.heap.size (by simp) hn
    exact ⟨g.cell (by simp) hn,g.cell (by simp) hn,fun j=>by rw [World.frozen?_of_block hb];simp⟩
  obtain ⟨i0,hi,hzz⟩:=Option.map_eq_some_iff.1 infoPg
  simp only [Prod.mk.injEq] at hzz
  have HI:=Lib.hid hzz
  have hnb:((n:Int)==0)=false:=by rw [beq_eq_false_iff_ne];omega
  have HSt:=Lib.hid (Rest.start (rdLine r big) n (l.drop 4))
  have HLS:Hid (∀ w lk,rdLine r big lk≠.bad true→WP V w pb lk (if big=true then 0 else 1) (!big)→Calls Tryz.prog 200 #[.pointer (some ⟨pb,0,none⟩),.int .u8 r] w (PrPost DLine zLine V w pb big (rdLine r big lk))):=fun w lk hb hw=>parseLS_any V w pb r big lk hr hb hw
  have HGd:=Lib.hid hG
  have HSz:=Lib.hid hS
  have HVW:Hid (V.heap.size≤W.heap.size):=h.g.size
  have HU0:Hid (∀ w1,(W.alloc (.cells #[.slice none 0 0,.int .u8 0] 97)).grownBy w1 (some pb)→pb<w1.heap.size∧W.heap.size<w1.heap.size):=fun w1 g=>by have h1:=g.size;simp at h1;omega
  have HPut:Hid (∀ (wr w2:World) (base k:Nat) (cs:List Value) (ts:List Raw) (t:Raw) (c0 c1:Value),k<n→pb<base→ts.length=k→RowS DLine 93 base (fun _=>False) wr (.slice (some ⟨base,0,none⟩) n n) n (fun i=>if i<k then (newTs ts)[i]? else none) cs→wr.grownBy w2 (some pb)→DLine (Fr wr w2) w2 (.agg #[c0,c1]) (newT t) →
      RowS DLine 93 base (fun _=>False) ((w2.setCell ⟨base,k*2,none⟩ c0).setCell ⟨base,k*2+1,none⟩ c1) (.slice (some ⟨base,0,none⟩) n n) n (fun i=>if i<k+1 then (newTs (ts++[t]))[i]? else none) ((cs.set (k*2) c0).set (k*2+1) c1)):=fun wr w2 base k cs ts t c0 c1 hk hpb2 hts h g hd=>by
    have hlt:base<wr.heap.size:=(h.1.lt _ rfl).2
    have hlen:(newTs ts).length=k:=by rw [news_len,hts]
    refine (RowS.put DLine.dk (h.keptR DLine.dk g hpb2) k hk (DLine.dk.weak (fun b hb=>?_) hd)).sel (fun i t' hi=>?_)
    · exact ⟨.inr ⟨by have:=hb.1;omega,hb.2⟩,fun e=>by have:=hb.1;omega⟩
    · show (if i=k then some (newT t) else if i<k then _ else none)=some t'
      have hi':(if i<k+1 then (newTs (ts++[t]))[i]? else none)=some t':=hi
      rw [newTs_append] at hi'
      by_cases hik:i=k
      · subst hik
        rw [if_pos (by omega),List.getElem?_append_right (by omega),hlen,Nat.sub_self] at hi'
        rw [if_pos rfl];exact hi'
      · rw [if_neg hik]
        by_cases hl:i<k
        · rw [if_pos (by omega),List.getElem?_append_left (by omega)] at hi';rw [if_pos hl];exact hi'
        · rw [if_neg (by omega)] at hi';cases hi'
  have HCell:Hid (∀ (w:World) (base m k:Nat) (cs:List Value) (s:Nat→Option Raw),k<m→pb<base→RowS DLine 93 base (fun _=>False) w (.slice (some ⟨base,0,none⟩) m m) m s cs→(∃ v,w.cell? ⟨base,k*2,none⟩=some v)∧(∃ v,w.cell? ⟨base,k*2+1,none⟩=some v)∧∀ j,w.frozen? ⟨base,j,none⟩=false):=fun w base m k cs s hk _ h=>by
    have hl:cs.length=m*2:=h.1.1
    have key:∀ o,o<2→∃ v,w.cell? ⟨base,k*2+o,none⟩=some v:=fun o h6=>by
      rw [h.1.cellAt _ (by omega)]
      exact ⟨_,List.getElem?_eq_getElem (by omega)⟩
    exact ⟨key 0 (by omega),key 1 (by omega),fun j=>h.1.frozenAt j⟩
  generalize hl2:l.drop 4=l2 at HU HSt HGd HSz ⊢
  clear h hl hn hzz hG hS hl2
  unfold zPg
  go_enter Tryz.func201,Tryz.ntmps201
  go_wp2_with (first
    | (go_at_call 198;refine HU.out.mono ?_;rintro e w1 ⟨rfl,hw1,hg1⟩;have HW1:=Lib.hid hw1;clear hw1)
    | (at_make;(refine wpList_make_full _ rfl _ _ _ rfl w1.heap.size 93 i0 (.agg #[.int .u8 0,.slice none 0 0]) 2 Tryz.underlying95 hi HI.out.1 HI.out.2.1 .u32 .u32 _ _ n rfl rfl rfl rfl (by rw [HI.out.2.2];omega) (by unfold maxLen;omega) (by simp) ?_;intro w2 hown hg2)))
  obtain ⟨hpb1,hrb1⟩:=HU0.out w1 hg1
  obtain ⟨base,hbase⟩ : ∃ base,base=w1.heap.size:=⟨_,rfl⟩
  rw [←hbase] at hown hpb1 hrb1 ⊢
  obtain ⟨xs0,hxs0⟩ : ∃ xs0,xs0=(madeCells (Value.cells (.agg #[.int .u8 0,.slice none 0 0])) (n*2)).toList:=⟨_,rfl⟩
  rw [←hxs0] at hown
  have Hb:=Lib.hid hbase
  clear hxs0 hbase
  have G2:=gt_trans hg1 hg2 (.inr (.inl rfl))
  have HVb:Hid (V.heap.size≤base):=Lib.hid (by have:=HVW.out;omega)
  go_loopw [28] (fun i wr=>∃ (k:Nat) (cs:List Value) (lk:List UInt8) (ts:List Raw),k≤n∧i=.int .i64 k∧(W.alloc (.cells #[.slice none 0 0,.int .u8 0] 97)).grownBy wr (some pb)∧WP V wr pb lk (if big=true then 0 else 1) (!big)∧RowS DLine 93 base (fun _=>False) wr (.slice (some ⟨base,0,none⟩) n n) n (fun i=>if i<k then (newTs ts)[i]? else none) cs∧Rest (rdLine r big) n l2 k lk ts∧okKs 3 ts=true) (fun i _=>n - (intOf i).toNat)
  case atStart=>exact ⟨0,xs0,l2,[],by omega,rfl,G2,HW1.out.kept hg2,⟨hown,fun i t h=>absurd h (by simp)⟩,HSt.out,rfl⟩
  case round =>
    clear hown
    obtain ⟨k,cs,lk,ts,hk,rfl,Gr,hw,hrow,hrest,hoks⟩:=hrel
    rename World=>wr
    by_cases hkL:k<n
    · have hlg:rdLine r big lk≠.bad true:=fun e=>HGd.out (hrest.bad hkL e)
      have HLk:=Lib.hid (HLS.out wr lk hlg hw)
      have HCel:=Lib.hid (fun w2 (g:wr.grownBy w2 (some pb))=>HCell.out w2 base n k cs _ hkL hpb1 (hrow.keptR DLine.dk g hpb1))
      have HPut1:=Lib.hid (fun w2 t c0 c1=>HPut.out wr w2 base k cs ts t c0 c1 hkL hpb1 hrest.1 hrow)
      have HNx:=Lib.hid (fun t l' (e:rdLine r big lk=.ok t l')=>hrest.next hkL e)
      have HBd:=Lib.hid (fun g (e:rdLine r big lk=.bad g)=>hrest.bad hkL e)
      have HOk:=Lib.hid hoks
      have HKd:=Lib.hid (fun t l' (e:rdLine r big lk=.ok t l')=>rdLine_kind e)
      clear hrow hrest hoks hlg hw
      cases hF:rdLine r big lk with
      | bad g =>
        rw [hF] at HLk
        go_wp2_with (first
          | (go_at_call 200;refine HLk.out.mono ?_;rintro e w2 ⟨hg2,ty,x,rfl⟩;unfold zLine;obtain ⟨⟨v0,x0⟩,⟨v1,x1⟩,xf⟩:=HCel.out _ hg2;have f0:=xf (k*2);have f1:=xf (k*2+1);have GG:=gt_trans Gr hg2 (.inl rfl);obtain ⟨r0,r1,rf⟩:=HC.out _ GG;have rf0:=rf 0;have rf1:=rf 1))
        have hb0:(W.alloc (.cells #[.slice none 0 0,.int .u8 0] 97)).heap.size≤base:=by simp;omega
        have GGs:=gt_set_r (gt_set_r GG ⟨base,k*2,none⟩ (.int .u8 0) hb0) ⟨base,k*2+1,none⟩ (.slice none 0 0) hb0
        obtain ⟨s0,s1,_⟩:=HC.out _ GGs
        refine bodyPost_ret (by simp [results,Tryz.results201,go_sem,s0,s1];try rfl) rfl ?_
        exact PrPost.bad (gt_set_r (gt_set_r (gt_trans HG.out GGs (.inl rfl)) _ _ (Nat.le_refl _)) _ _ (Nat.le_refl _)) (fun t l' e=>by rw [HBd.out g hF] at e;cases e)
      | ok t l' =>
        rw [hF] at HLk
        go_wp2_with (first
          | (go_at_call 200;refine HLk.out.mono ?_;rintro e w2 hpp;obtain ⟨v2,rfl,hd2,hw2,hg2⟩:=hpp.get (HKd.out _ _ hF).2;clear hpp;obtain ⟨er,ep,en,ec,rfl⟩:=DLine.form hd2;have HD2:=Lib.hid hd2;have HW2:=Lib.hid hw2;clear hd2 hw2;obtain ⟨⟨v0,x0⟩,⟨v1,x1⟩,xf⟩:=HCel.out _ hg2;have f0:=xf (k*2);have f1:=xf (k*2+1)))
        have hb0:(W.alloc (.cells #[.slice none 0 0,.int .u8 0] 97)).heap.size≤base:=by simp;omega
        refine ⟨⟨k+1,_,l',ts++[t],by omega,by go_num,gt_set_r (gt_set_r (gt_trans Gr hg2 (.inl rfl)) _ _ hb0) _ _ hb0,(HW2.out.put _ _ HVb.out).put _ _ HVb.out,HPut1.out _ t _ _ hg2 HD2.out,HNx.out _ _ hF,?_⟩,by simp [intOf];omega⟩
        exact okKs_snoc HOk.out (HKd.out _ _ hF)
    · have hkn:n=k:=by omega
      have hend:rdL (rdLine r big) n l2=.ok ts lk:=by rw [←hkn] at hrest;exact hrest.end_
      have hw2000:=HSz.out ts lk hend
      have hlen:(newTs ts).length=n:=by rw [news_len,hrest.1,hkn]
      have hwk:wts ts≤2000:=by unfold wt at hw2000;omega
      have hn2000:n≤2000:=by have:=wts_len ts;rw [news_len] at hlen;omega
      rw [←hkn] at hrow
      have HNW:=Lib.hid (PgNew_of DLine.dk DLine.form DLine.d4 LineFC LineCC (fun b=>base≤b∧b<wr.heap.size) wr _ n n (newTs ts) (fun _=>0) (row_done DLine.dk hlen hrow) hlen hn0 hn2000 (okTs_of _ fun t ht=>(news_okU ts hwk t ht).1.ok) (fun b hb=>hb.2))
      have hne:newTs ts≠[]:=fun e=>by rw [e] at hlen;simp at hlen;omega
      have hbr:base<wr.heap.size:=(hrow.1.lt _ rfl).2
      have hoks2:okK (.mk 3 (r:Nat) 0 (fun _=>0) ts)=true:=by unfold okK;simp;exact hoks
      have HFin:Hid (∀ w2 v',wr.grownBy w2 none→DNode 3 DLine (fun b=>(base≤b∧b<wr.heap.size)∨Fr wr w2 b) w2 v' (nodeT 3 0 (fun _=>0) (newTs ts))→∃ px nx cx rx,v'=.agg #[.slice px nx cx,.int .u8 rx]∧PrPost DPg zPg V W pb big ((rdL (rdLine r big) n l2).bind fun ts l3=>.ok (.mk 3 r 0 (fun _=>0) ts) l3) (.returned (.tuple #[.agg #[.slice px nx cx,.int .u8 rx],.nilIface])) ((w2.setCell ⟨W.heap.size,0,none⟩ (.slice px nx cx)).setCell ⟨W.heap.size,1,none⟩ (.int .u8 rx))):=fun w2 v' g hd=>by
        obtain ⟨px,nx,cx,rx,rfl⟩:=DNode.form hd
        have s2:=g.size
        have nB:∀ b,((base≤b∧b<wr.heap.size)∨Fr wr w2 b)→W.heap.size<b∧b<w2.heap.size:=fun b hb=>by
          rcases hb with hb | hb
          · omega
          · have h1:=hb.1;have h2:=hb.2;omega
        have h1:=(DNode.dk DLine.dk).keep (.set (q:=⟨W.heap.size,1,none⟩) (fun hb=>by have:=(nB _ hb).1;simp at this) (.int .u8 rx)) ((DNode.dk DLine.dk).keep (.set (q:=⟨W.heap.size,0,none⟩) (fun hb=>by have:=(nB _ hb).1;simp at this) (.slice px nx cx)) (node_any (r':=r) (f':=fun _=>0) hne hd))
        refine ⟨px,nx,cx,rx,rfl,PrPost.ok (gt_set_r (gt_set_r (gt_trans HG.out (gt_trans Gr g (.inr (.inl rfl))) (.inl rfl)) _ _ (Nat.le_refl _)) _ _ (Nat.le_refl _)) (by rw [hend];rfl) hoks2 ?_ (((hw.kept g).put _ _ HVW.out).put _ _ HVW.out)⟩
        rw [newT_pg r hr ts hoks]
        exact (DNode.dk DLine.dk).weak (fun b hb=>⟨by have:=(nB _ hb).1;omega,by have:=(nB _ hb).2;simpa [World.setCell] using this⟩) h1
      subst hkn
      clear hrow hrest hoks hw hend hw2000 hlen hwk hne hoks2
      go_wp2_with fail
      go_wp2_with (first
        | (go_at_call 109;refine HNW.out.mono ?_;rintro e w2 ⟨v',rfl,hd,hg2⟩;obtain ⟨px,nx,cx,rx,rfl,hmp⟩:=HFin.out _ _ hg2 hd;have HMP:=Lib.hid hmp;clear hmp hd;obtain ⟨x0,x1,xf⟩:=HC.out _ (gt_trans Gr hg2 (.inr (.inl rfl)));have f0:=xf 0;have f1:=xf 1))
      refine bodyPost_ret (by simp [results,Tryz.results201,go_sem,x0,x1];try rfl) rfl ?_
      exact HMP.out
theorem parsePg_none (V W:World) (pb r:Nat) (big:Bool) (l:List UInt8) (hr:r<4) (hl:4≤l.length) (hn:numL big (l.take 4)=0) (h:WP V W pb l (if big=true then 0 else 1) (!big)) :
    Calls Tryz.prog 201 #[.pointer (some ⟨pb,0,none⟩),.int .u8 r] W (PrPost DPg zPg V W pb big (.ok (.mk 3 r 0 (fun _=>0) []) (l.drop 4))):=by
  have hpb:=h.lt
  have HU:=Lib.hid (parseU32_ok V _ pb big (!big) l hl (h.kept (World.grownBy_alloc W (.cells #[.slice none 0 0,.int .u8 0] 97) none)))
  rw [hn] at HU
  have HG:=Lib.hid (gt_some (World.grownBy_alloc W (.cells #[.slice none 0 0,.int .u8 0] 97) none) pb)
  have HC:Hid (∀ w,(W.alloc (.cells #[.slice none 0 0,.int .u8 0] 97)).grownBy w (some pb)→w.cell? ⟨W.heap.size,0,none⟩=some (.slice none 0 0)∧w.cell? ⟨W.heap.size,1,none⟩=some (.int .u8 0)∧∀ j,w.frozen? ⟨W.heap.size,j,none⟩=false):=fun w g=>by
    have hn:some W.heap.size≠some pb:=fun e=>by injection e with e;omega
    have hb:=g.block W.heap.size (by simp) hn
    exact ⟨g.cell (by simp) hn,g.cell (by simp) hn,fun j=>by rw [World.frozen?_of_block hb];simp⟩
  have HVW:Hid (V.heap.size≤W.heap.size):=h.g.size
  have HF0:=Lib.hid (fun w=>PgFC (fun _=>False) w zPg (.mk 3 ((0:Nat):Int) 0 (fun _=>0) []) r ⟨0,(fun _=>0),[],none,0,rfl,by omega,rfl,Nat.le_refl _,by decide,fun h=>by simp at h,fun a ha=>by cases ha⟩ (by unfold okT okTs;exact ⟨by omega,by simp,trivial⟩) hr (fun b hb=>hb.elim))
  have HFin:Hid (∀ w1 w2 v',(W.alloc (.cells #[.slice none 0 0,.int .u8 0] 97)).grownBy w1 (some pb)→WP V w1 pb (l.drop 4) (if big=true then 0 else 1) (!big)→w1.grownBy w2 none→DPg (fun b=>False∨Fr w1 w2 b) w2 v' (forceT r (.mk 3 ((0:Nat):Int) 0 (fun _=>0) []))→∃ px nx cx rx,v'=.agg #[.slice px nx cx,.int .u8 rx]∧PrPost DPg zPg V W pb big (.ok (.mk 3 r 0 (fun _=>0) []) (l.drop 4)) (.returned (.tuple #[.agg #[.slice px nx cx,.int .u8 rx],.nilIface])) ((w2.setCell ⟨W.heap.size,0,none⟩ (.slice px nx cx)).setCell ⟨W.heap.size,1,none⟩ (.int .u8 rx))):=fun w1 w2 v' g1 hw g hd=>by
    obtain ⟨px,nx,cx,rx,rfl⟩:=DNode.form hd
    have s2:=g.size
    have s1:W.heap.size<w1.heap.size:=by have:=g1.size;simp at this;omega
    have nB:∀ b,(False∨Fr w1 w2 b)→W.heap.size<b∧b<w2.heap.size:=fun b hb=>by
      rcases hb with hb | hb
      · exact hb.elim
      · have h1:=hb.1;have h2:=hb.2;omega
    rw [force_node] at hd
    have h1:=(DNode.dk DLine.dk).keep (.set (q:=⟨W.heap.size,1,none⟩) (fun hb=>by have:=(nB _ hb).1;simp at this) (.int .u8 rx)) ((DNode.dk DLine.dk).keep (.set (q:=⟨W.heap.size,0,none⟩) (fun hb=>by have:=(nB _ hb).1;simp at this) (.slice px nx cx)) (hd.anyf (f':=fun _=>0)))
    refine ⟨px,nx,cx,rx,rfl,PrPost.ok (gt_set_r (gt_set_r (gt_trans HG.out (gt_trans g1 g (.inr (.inl rfl))) (.inl rfl)) _ _ (Nat.le_refl _)) _ _ (Nat.le_refl _)) rfl (by unfold okK okKs;simp) ?_ (((hw.kept g).put _ _ HVW.out).put _ _ HVW.out)⟩
    rw [newT_pg r hr [] rfl]
    exact (DNode.dk DLine.dk).weak (fun b hb=>⟨by have:=(nB _ hb).1;omega,by have:=(nB _ hb).2;simpa [World.setCell] using this⟩) h1
  generalize l.drop 4=l2 at HU HFin ⊢
  clear h hl hn
  unfold zPg at *
  go_enter Tryz.func201,Tryz.ntmps201
  go_wp2_with (first
    | (go_at_call 198;refine HU.out.mono ?_;rintro e w1 ⟨rfl,hw1,hg1⟩;have HW1:=Lib.hid hw1;clear hw1;obtain ⟨r0,r1,rf⟩:=HC.out _ hg1;have rf0:=rf 0;have rf1:=rf 1)
    | (go_at_call 108;refine (HF0.out _).mono ?_;rintro e w2 ⟨v',rfl,hd,hg2⟩;obtain ⟨px,nx,cx,rx,rfl,hmp⟩:=HFin.out _ _ _ hg1 HW1.out hg2 hd;have HMP:=Lib.hid hmp;clear hmp hd;obtain ⟨x0,x1,xf⟩:=HC.out _ (gt_trans hg1 hg2 (.inr (.inl rfl)));have f0:=xf 0;have f1:=xf 1))
  refine bodyPost_ret (by simp [results,Tryz.results201,go_sem,x0,x1];try rfl) rfl ?_
  exact HMP.out
theorem parsePg_any (V W:World) (pb r:Nat) (big:Bool) (l:List UInt8) (hr:r<4) (hG:rdPg r big l≠.bad true) (hS:∀ t l',rdPg r big l=.ok t l'→wt t≤2000) (h:WP V W pb l (if big=true then 0 else 1) (!big)) :
    Calls Tryz.prog 201 #[.pointer (some ⟨pb,0,none⟩),.int .u8 r] W (PrPost DPg zPg V W pb big (rdPg r big l)):=by
  by_cases h4:l.length<4
  · have hR:rdPg r big l=.bad false:=by
      unfold rdPg rdC rdN
      rw [if_pos h4];rfl
    refine (parsePg_short V W pb r _ _ l h4 h).mono fun e w' ⟨⟨ty,x,he⟩,hg⟩=>?_
    subst he
    exact PrPost.bad hg (fun t l' e=>by rw [hR] at e;cases e)
  have hC:rdC big l=if 4096<numL big (l.take 4) then .bad true else .ok (numL big (l.take 4)) (l.drop 4):=by
    unfold rdC rdN
    rw [if_neg h4];rfl
  by_cases h5:4096<numL big (l.take 4)
  · refine absurd ?_ hG
    unfold rdPg
    rw [hC,if_pos h5];rfl
  rw [if_neg h5] at hC
  have hP:rdPg r big l=(rdL (rdLine r big) (numL big (l.take 4)) (l.drop 4)).bind fun ts l3=>.ok (.mk 3 r 0 (fun _=>0) ts) l3:=by
    unfold rdPg
    rw [hC];rfl
  by_cases h0:numL big (l.take 4)=0
  · rw [hP,h0]
    exact parsePg_none V W pb r big l hr (by omega) h0 h
  rw [hP] at hG hS ⊢
  refine parsePg_some V W pb r _ big l hr (by omega) rfl (by omega) (by omega) (fun e=>hG (by rw [e];rfl)) (fun ts l' e=>hS _ l' (by rw [e];rfl)) h
end
section
open Go.RowKit
def MptC (h:Nat):Prop:=∀ (V W:World) (pb r:Nat) (big:Bool) (l:List UInt8),r<4→rdK 4 h r big l≠.bad true→(∀ t l',rdK 4 h r big l=.ok t l'→wt t≤2000)→(∀ n l2,rdC big l=.ok n l2→∀ k lk ts,k<n→Rest (rdG true h (-1)) n l2 k lk ts→Sm h lk)→WP V W pb l (if big=true then 0 else 1) (!big) →
  Calls Tryz.prog 202 #[.pointer (some ⟨pb,0,none⟩),.int .u8 r] W (PrPost DMpt (.agg #[.slice none 0 0,.int .u8 0]) V W pb big (rdK 4 h r big l))
theorem RunBad.up {h:Nat} {V W:World} {pb:Nat} {R:Rd Raw} {e:Ending} {w':World} (hR:∀ t l,R=.ok t l→okK t=false) (hb:RunBad W pb e w'):RnPost h V W pb R e w':=by
  obtain ⟨⟨ty,x,he⟩,hg⟩:=hb
  exact ⟨hg,.inl ⟨hR,_,_,_,.inl rfl,he⟩⟩
theorem rdF_anyk (h:Nat) (k:Int):rdG true h k=rdG true h (-1):=funext fun l=>rdG_anyk h k (-1) l
theorem rdC_kind {K:Int} {F:List UInt8→Rd Raw} {big:Bool} {r:Nat} {l:List UInt8} : ∀ t l',((rdC big l).bind fun n l2=>(rdL F n l2).bind fun ts l3=>Rd.ok (.mk K (r:Nat) 0 (fun _=>0) ts) l3)=.ok t l'→kindOf t=K:=by
  intro t l' e
  obtain ⟨n,l2,_,e2⟩:=Rd.bind_ok e
  obtain ⟨ts,l3,_,e4⟩:=Rd.bind_ok e2
  injection e4 with e5 e6
  rw [←e5];rfl
theorem rdPt_kind {r:Nat} {big:Bool} {l:List UInt8} : ∀ t l',((rdF (widN r) big l).bind fun ns l2=>rdPt true r ns l2)=.ok t l'→kindOf t=1:=by
  intro t l' e
  obtain ⟨ns,l2,_,e2⟩:=Rd.bind_ok e
  unfold rdPt at e2
  split at e2
  · injection e2 with e3 _;rw [←e3];rfl
  · split at e2
    · cases e2
    · injection e2 with e3 _;rw [←e3];rfl
theorem root_of (h:Nat) (hI:InC h) (hM:MptC h) (V W:World) (pb:Nat) (hd:Hd) (l:List UInt8) (hk0:0≤hd.k) (hk6:hd.k≤6) (hd4:hd.d<4) (hR:rdB true (rdG true h) hd l≠.bad true) (hW:∀ t l',rdB true (rdG true h) hd l=.ok t l'→wt t≤2000)
    (hS:∀ n l2,hd.k≠1→hd.k≠2→hd.k≠3→rdC hd.big l=.ok n l2→∀ k lk ts,k<n→Rest (rdG true h (-1)) n l2 k lk ts→Sm h lk) (hw:WP V W pb l (if hd.big=true then 0 else 1) (!hd.big)) :
    Calls Tryz.prog 156 #[.pointer (some ⟨pb,0,none⟩),.int .i64 hd.k,.int .u8 hd.d] W (RnPost (h+1) V W pb (rdB true (rdG true h) hd l)):=by
  obtain ⟨big,k,d⟩:=hd
  simp only at hk0 hk6 hd4 hS hw ⊢
  have hc:k=1∨k=2∨k=3∨k=4∨k=5∨k=6∨k=0:=by omega
  rcases hc with rfl | rfl | rfl | rfl | rfl | rfl | rfl
  · have e:rdB true (rdG true h) ⟨big,1,d⟩ l=(rdF (widN d) big l).bind fun ns l2=>rdPt true d ns l2:=rfl
    rw [e]
    exact rootPt DPoint.dk DPoint.form6 h (fun hd=>.inl hd) V W pb d big l _ rdPt_kind (fun w hw=>parsePt_any V w pb d big l hd4 hw) hw
  · have e:rdB true (rdG true h) ⟨big,2,d⟩ l=rdLine d big l:=rfl
    rw [e] at hR ⊢
    exact rootLs DLine.dk.toDK0 DLine.form2 h (fun hd=>.inr (.inl hd)) V W pb d big l _ (fun t l' e=>(rdLine_kind e).1) (fun w hw=>parseLS_any V w pb d big l hd4 hR hw) hw
  · have e:rdB true (rdG true h) ⟨big,3,d⟩ l=rdPg d big l:=rfl
    rw [e] at hR hW ⊢
    exact rootPg DPg.dk.toDK0 DNode.form h (fun hd=>.inr (.inr (.inl hd))) V W pb d big l _ rdC_kind (fun w hw=>parsePg_any V w pb d big l hd4 hR hW hw) hw
  · have e:rdB true (rdG true h) ⟨big,4,d⟩ l=rdK 4 h d big l:=by unfold rdK;rw [←rdF_anyk h (kidOf 4)];rfl
    rw [e] at hR hW ⊢
    exact rootMpt DMpt.dk.toDK0 DMpt.form h (fun hd=>.inr (.inr (.inr (.inl hd)))) V W pb d big l _ rdC_kind (fun w hw=>hM V w pb d big l hd4 hR hW (fun n l2 hn=>hS n l2 (by decide) (by decide) (by decide) hn) hw) hw
  · have e:rdB true (rdG true h) ⟨big,5,d⟩ l=rdK 5 h d big l:=by unfold rdK;rw [←rdF_anyk h (kidOf 5)];rfl
    rw [e] at hR hW ⊢
    exact rootMl DMl.dk.toDK0 DNode.form h (fun hd=>.inr (.inr (.inr (.inr (.inl hd))))) V W pb d big l _ rdC_kind (fun w hw=>parseMl_any h hI V w pb d big l hd4 hR hW (fun n l2 hn=>hS n l2 (by decide) (by decide) (by decide) hn) hw) hw
  · have e:rdB true (rdG true h) ⟨big,6,d⟩ l=rdK 6 h d big l:=by unfold rdK;rw [←rdF_anyk h (kidOf 6)];rfl
    rw [e] at hR hW ⊢
    exact rootMp DMp.dk.toDK0 DNode.form h (fun hd=>.inr (.inr (.inr (.inr (.inr (.inl hd)))))) V W pb d big l _ rdC_kind (fun w hw=>parseMp_any h hI V w pb d big l hd4 hR hW (fun n l2 hn=>hS n l2 (by decide) (by decide) (by decide) hn) hw) hw
  · have e:rdB true (rdG true h) ⟨big,0,d⟩ l=rdK 0 h d big l:=by unfold rdK;rw [←rdF_anyk h (kidOf 0)];rfl
    rw [e] at hR hW ⊢
    exact rootGc (DNode.dk (DGeo.dk h)).toDK0 DNode.form h (fun hd=>.inr (.inr (.inr (.inr (.inr (.inr hd)))))) V W pb d big l _ rdC_kind (fun w hw=>parseGc_any h hI V w pb d big l hd4 hR hW (fun n l2 hn=>hS n l2 (by decide) (by decide) (by decide) hn) hw) hw
theorem rdHead_cons (b:UInt8) (l:List UInt8):rdHead (b::l)=(rdN 4 (b.toNat==0) l).bind fun c l2=>if 1<b.toNat∨c % 1000<1∨7<c % 1000∨3<c / 1000 then .bad false else .ok ⟨b.toNat==0,if c % 1000=7 then 0 else (c % 1000:Nat),c / 1000⟩ l2:=by
  have e1:rdN 1 false (b::l)=.ok b.toNat l:=by
    unfold rdN
    rw [if_neg (by simp)]
    simp [numL,Lib.leNat]
  unfold rdHead
  rw [e1];rfl
theorem rdG_head {h:Nat} {l:List UInt8} {hd:Hd} {l1:List UInt8} (e:rdHead l=.ok hd l1):rdG true (h+1) (-1) l=rdB true (rdG true h) hd l1:=by
  have e1:rdG true (h+1) (-1) l=if (0:Int)≤-1∧hd.k≠-1∧true=false then Rd.bad false else rdB true (rdG true h) hd l1:=by
    unfold rdG;rw [e];rfl
  rw [e1,if_neg (by simp)]
theorem rdG_nohead {h:Nat} {l:List UInt8} {g:Bool} (e:rdHead l=.bad g):rdG true (h+1) (-1) l=.bad g:=by
  unfold rdG;rw [e];rfl
theorem run_of (h:Nat) (ih:RunC h) (hM:MptC h):RunC (h+1):=by
  intro V W pb l o no hw hR hS
  have hpb:=hw.lt
  have hVW:V.heap.size≤W.heap.size:=hw.g.size
  have hwA:=hw.kept (World.grownBy_alloc W (.cells #[.int .i64 0,.nilIface] 57) none)
  have hbad:∀ g,rdHead l=.bad g→∀ t l',rdG true (h+1) (-1) l=.ok t l'→okK t=false:=fun g e t l' e2=>by rw [rdG_nohead e] at e2;cases e2
  cases l with
  | nil=>exact (run_bo W pb hpb (parseBO_nil V _ pb o no hwA)).mono fun e w' hb=>hb.up (hbad false rfl)
  | cons b l =>
    by_cases hb1:1<b.toNat
    · refine (run_bo W pb hpb (parseBO_bad V _ pb o no b l hb1 hwA)).mono fun e w' hb=>hb.up ?_
      cases hH:rdHead (b::l) with
      | bad g=>exact hbad g hH
      | ok hd l1 =>
        rw [rdHead_cons] at hH
        obtain ⟨c,l2,_,e2⟩:=Rd.bind_ok hH
        rw [if_pos (.inl hb1)] at e2
        cases e2
    obtain ⟨big,hbig⟩ : ∃ big,big=(b.toNat==0):=⟨_,rfl⟩
    have hbb:b.toNat=if big=true then 0 else 1:=by
      rw [hbig]
      by_cases h0:b.toNat=0
      · simp [h0]
      · have:b.toNat=1:=by omega
        simp [this]
    have HBO:=parseBO_ok V _ pb o no b l big hbb hwA
    by_cases h4:l.length<4
    · refine (run_gc V W pb big l hpb HBO (fun w hw=>parseGC_short V w pb _ _ l h4 hw)).mono fun e w' hb=>hb.up (hbad false ?_)
      rw [rdHead_cons]
      unfold rdN
      rw [if_pos h4];rfl
    have hN:rdN 4 (b.toNat==0) l=.ok (numL big (l.take 4)) (l.drop 4):=by
      unfold rdN
      rw [if_neg h4,hbig]
    by_cases hcd:numL big (l.take 4) % 1000<1∨7<numL big (l.take 4) % 1000∨3<numL big (l.take 4) / 1000
    · refine (run_gc V W pb big l hpb HBO (fun w hw=>(parseGC_ok V w pb big l (by omega) hw).mono fun e w' hp=>?_)).mono fun e w' hb=>hb.up (hbad false ?_)
      · unfold CdPost at hp
        rw [code_none hcd] at hp
        exact hp
      · rw [rdHead_cons,hN]
        show (if _ then _ else _)=_
        rw [if_pos (.inr hcd)]
    have hH:rdHead (b::l)=.ok ⟨big,if numL big (l.take 4) % 1000=7 then 0 else (numL big (l.take 4) % 1000:Nat),numL big (l.take 4) / 1000⟩ (l.drop 4):=by
      rw [rdHead_cons,hN]
      show (if _ then _ else _)=_
      rw [if_neg (by omega),←hbig]
    have hS2:=hS.2
    have hS1:=hS.1
    rw [rdG_head hH] at hR hS1 ⊢
    obtain ⟨_,hk0,hk6,hd4⟩:=rdHead_len hH
    have hcode:codeOf (numL big (l.take 4))=some ((if numL big (l.take 4) % 1000=7 then 0 else ((numL big (l.take 4) % 1000:Nat):Int):Int),numL big (l.take 4) / 1000):=if_neg hcd
    refine run_root (h+1) V W pb big l (l.drop 4) _ _ _ hpb hVW HBO (fun w hw=>(parseGC_ok V w pb big l (by omega) hw).mono fun e w' hp=>?_) (fun w hw=>root_of h (inner_of h ih) hM V w pb ⟨big,_,_⟩ (l.drop 4) hk0 hk6 hd4 hR hS1 (fun n l2 h1 h2 h3 hn=>hS2 _ _ n l2 hH h1 h2 h3 hn) hw)
    unfold CdPost at hp
    rw [hcode] at hp
    exact hp
theorem run_all (hM:∀ h,InC h→MptC h):∀ h,RunC h
  | 0=>RunC.zero
  | h+1=>run_of h (run_all hM h) (hM h (inner_of h (run_all hM h)))
end
section
open Go.RowKit
theorem geom_wrong (h:Nat) (V W:World) (rb o c km dm:Nat) (any bd bd2 big:Bool) (kind:Int) (len:Nat) (l1 l2:List UInt8) (HW:Hid (rb<W.heap.size∧V.heap.size≤W.heap.size)) (hob:((o:Int)==0)=big) (hc:c<4294967296) (hkm:km=c % 1000) (hdm:dm=c / 1000)
    (hm:¬ 1<o→¬ km<1→¬ 7<km→¬ 3<dm→0≤kind∧(if km=7 then (0:Int) else (km:Int))≠kind∧any=false)
    (H1:Hid (Calls Tryz.prog 84 #[.pointer (some ⟨rb,0,none⟩),.int .i64 1,.bool false] (W.alloc (.cells #[.int .i64 0,.int .i64 0,.slice none 0 0,.slice none 0 0] 33)) fun e w'=>e=.returned (.int .u64 o)∧RS V w' rb l1 any bd false∧(W.alloc (.cells #[.int .i64 0,.int .i64 0,.slice none 0 0,.slice none 0 0] 33)).grownBy w' (some rb)))
    (H2:Hid (∀ w,RS V w rb l1 any bd false→Calls Tryz.prog 84 #[.pointer (some ⟨rb,0,none⟩),.int .i64 4,.bool big] w fun e w'=>e=.returned (.int .u64 c)∧RS V w' rb l2 any bd2 false∧w.grownBy w' (some rb))) :
    Calls Tryz.prog 36 #[.pointer (some ⟨rb,0,none⟩),.int .i64 kind] W (GPost (h+1) V W rb any (.bad false) len):=by
  have hwd:wrap64 (dm:Int)=(dm:Int):=by unfold wrap64;omega
  have hwc:IntKind.i64.wrap (c:Int)=(c:Int):=by rw [IntKind.wrap_i64];omega
  have hz:True:=trivial
  by_cases t1:1<o
  · by_cases hs:km=7
    · rcases kd_or 0 kind any with hkd | ⟨t6,t7,t8,t9,rfl⟩
      · exact gw_o1 h V W rb o c km dm any bd bd2 big kind len l1 l2 HW hob (by omega) (by omega) (by omega) (by omega) hwd hwc (by omega) hkd H1 H2
      · exact gwF_o1 h V W rb o c km dm bd bd2 big kind len l1 l2 HW hob (by omega) (by omega) (by omega) (by omega) hwd hwc (by omega) t6 t7 t8 t9 H1 H2
    · rcases kd_or (km:Int) kind any with hkd | ⟨t6,t7,t8,t9,rfl⟩
      · exact gw_o0 h V W rb o c km dm any bd bd2 big kind len l1 l2 HW hob (by omega) (by omega) (by omega) (by omega) hwd hwc (by omega) (by rw [beq_eq_false_iff_ne];omega) hkd H1 H2
      · exact gwF_o0 h V W rb o c km dm bd bd2 big kind len l1 l2 HW hob (by omega) (by omega) (by omega) (by omega) hwd hwc (by omega) (by rw [beq_eq_false_iff_ne];omega) t6 t7 t8 t9 H1 H2
  by_cases t2:km<1
  · rcases kd_or (km:Int) kind any with hkd | ⟨t6,t7,t8,t9,rfl⟩
    · exact gw_k00 h V W rb o c km dm any bd bd2 big kind len l1 l2 HW hob (by omega) (by omega) (by omega) (by omega) hwd hwc (by omega) (by omega) (by rw [beq_eq_false_iff_ne];omega) hkd H1 H2
    · exact gwF_k00 h V W rb o c km dm bd bd2 big kind len l1 l2 HW hob (by omega) (by omega) (by omega) (by omega) hwd hwc (by omega) (by omega) (by rw [beq_eq_false_iff_ne];omega) t6 t7 t8 t9 H1 H2
  by_cases t3:7<km
  · rcases kd_or (km:Int) kind any with hkd | ⟨t6,t7,t8,t9,rfl⟩
    · exact gw_k80 h V W rb o c km dm any bd bd2 big kind len l1 l2 HW hob (by omega) (by omega) (by omega) (by omega) hwd hwc (by omega) (by omega) (by omega) (by rw [beq_eq_false_iff_ne];omega) hkd H1 H2
    · exact gwF_k80 h V W rb o c km dm bd bd2 big kind len l1 l2 HW hob (by omega) (by omega) (by omega) (by omega) hwd hwc (by omega) (by omega) (by omega) (by rw [beq_eq_false_iff_ne];omega) t6 t7 t8 t9 H1 H2
  by_cases t4:3<dm
  · by_cases hs:km=7
    · rcases kd_or 0 kind any with hkd | ⟨t6,t7,t8,t9,rfl⟩
      · exact gw_d1 h V W rb o c km dm any bd bd2 big kind len l1 l2 HW hob (by omega) (by omega) (by omega) (by omega) hwd hwc (by omega) (by omega) hkd H1 H2
      · exact gwF_d1 h V W rb o c km dm bd bd2 big kind len l1 l2 HW hob (by omega) (by omega) (by omega) (by omega) hwd hwc (by omega) (by omega) t6 t7 t8 t9 H1 H2
    · rcases kd_or (km:Int) kind any with hkd | ⟨t6,t7,t8,t9,rfl⟩
      · exact gw_d0 h V W rb o c km dm any bd bd2 big kind len l1 l2 HW hob (by omega) (by omega) (by omega) (by omega) hwd hwc (by omega) (by omega) (by omega) (by omega) (by rw [beq_eq_false_iff_ne];omega) hkd H1 H2
      · exact gwF_d0 h V W rb o c km dm bd bd2 big kind len l1 l2 HW hob (by omega) (by omega) (by omega) (by omega) hwd hwc (by omega) (by omega) (by omega) (by omega) (by rw [beq_eq_false_iff_ne];omega) t6 t7 t8 t9 H1 H2
  by_cases hs:km=7
  · clear hz
    obtain ⟨t6,e,ha⟩:=hm (by omega) (by omega) (by omega) (by omega)
    subst ha
    rw [if_pos (by omega)] at e
    have e:¬ (0:Int)=kind:=e
    exact gwF_m1 h V W rb o c km dm bd bd2 big kind len l1 l2 HW hob (by omega) (by omega) (by omega) (by omega) hwd hwc (by omega) (by omega) t6 e (by exact fun h=>e h.symm) (by rw [beq_eq_false_iff_ne];exact e) H1 H2
  · clear hz
    obtain ⟨t6,e,ha⟩:=hm (by omega) (by omega) (by omega) (by omega)
    subst ha
    rw [if_neg (by omega)] at e
    have e:¬ (km:Int)=kind:=e
    exact gwF_m0 h V W rb o c km dm bd bd2 big kind len l1 l2 HW hob (by omega) (by omega) (by omega) (by omega) hwd hwc (by omega) (by omega) (by omega) (by omega) (by rw [beq_eq_false_iff_ne];omega) t6 e (by exact fun h=>e h.symm) (by rw [beq_eq_false_iff_ne];exact e) H1 H2
theorem geom_none (h:Nat) (V W:World) (rb:Nat) (any:Bool) (kind:Int) (len:Nat) (l:List UInt8) (hr:RS V W rb l any false false) (hH:∀ hd l1,rdHead l=.ok hd l1→0≤kind∧hd.k≠kind∧any=false) :
    Calls Tryz.prog 36 #[.pointer (some ⟨rb,0,none⟩),.int .i64 kind] W (GPost (h+1) V W rb any (.bad false) len):=by
  have HW:=Lib.hid (And.intro hr.lt hr.g.size)
  have hrA:=hr.kept (World.grownBy_alloc W (.cells #[.int .i64 0,.int .i64 0,.slice none 0 0,.slice none 0 0] 33) none)
  have hno:∀ (o:Nat) (big bd2:Bool) (l1 l2:List UInt8),(0:Nat)<4294967296:=fun _ _ _ _ _=>by decide
  cases l with
  | nil =>
    exact geom_wrong h V W rb 0 0 0 0 any true true true kind len [] [] HW rfl (by decide) rfl rfl (fun _ h=>absurd (by decide) h) (Lib.hid (u1_bad V _ rb any false false false [] (.inr (by simp)) hrA)) (Lib.hid fun w hw=>u4_bad V w rb any true false true [] (.inl rfl) hw)
  | cons b l =>
    have hob:((b.toNat:Int)==0)=(b.toNat==0):=by rw [Bool.eq_iff_iff];simp
    have e1:numL false ((b::l).take 1)=b.toNat:=by simp [numL,Lib.leNat]
    have hU1:=u1_ok V _ rb any false false (b::l) (by simp) hrA
    rw [e1] at hU1
    have e2:(b::l).drop 1=l:=rfl
    rw [e2] at hU1
    by_cases h4:l.length<4
    · exact geom_wrong h V W rb b.toNat 0 0 0 any false true (b.toNat==0) kind len l l HW hob (by decide) rfl rfl (fun _ h=>absurd (by decide) h) (Lib.hid hU1) (Lib.hid fun w hw=>u4_bad V w rb any false false _ l (.inr h4) hw)
    · have hlt:numL (b.toNat==0) (l.take 4)<4294967296:=by
        have:=numL_lt (b.toNat==0) (l.take 4) 4 (by rw [List.length_take];omega)
        have e:256 ^ 4=4294967296:=by decide
        omega
      refine geom_wrong h V W rb b.toNat (numL (b.toNat==0) (l.take 4)) _ _ any false false (b.toNat==0) kind len l (l.drop 4) HW hob hlt rfl rfl (fun h1 h2 h3 h4'=>?_) (Lib.hid hU1) (Lib.hid fun w hw=>u4_ok V w rb any false _ l (by omega) hw)
      have hN:rdN 4 (b.toNat==0) l=.ok (numL (b.toNat==0) (l.take 4)) (l.drop 4):=by unfold rdN;rw [if_neg h4]
      have hHd:rdHead (b::l)=.ok ⟨b.toNat==0,if numL (b.toNat==0) (l.take 4) % 1000=7 then 0 else (numL (b.toNat==0) (l.take 4) % 1000:Nat),numL (b.toNat==0) (l.take 4) / 1000⟩ (l.drop 4):=by
        rw [rdHead_cons,hN]
        show (if _ then _ else _)=_
        rw [if_neg (by omega)]
      exact hH _ _ hHd
end
end Go.Proofs.YtlpaecafpbbbkaaGreatDoor
