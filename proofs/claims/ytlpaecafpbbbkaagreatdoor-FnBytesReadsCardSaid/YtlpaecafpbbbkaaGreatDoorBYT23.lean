/- The package's reader of well known binary: a line, whatever the bytes. The package's reader of well known binary: collections. The package's reader of well known binary: several polygons. -/
import Derived.Test.YtlpaecafpbbbkaaGreatDoorBYT21
import Derived.Test.YtlpaecafpbbbkaaGreatDoorBYT22
set_option linter.unusedVariables false
set_option linter.unusedSimpArgs false
set_option maxRecDepth 100000
set_option maxHeartbeats 24000000
namespace Go.Proofs.YtlpaecafpbbbkaaGreatDoor
section
open Go.RowKit
theorem parseLS_eof (V W:World) (pb r k n N:Nat) (big no:Bool) (l:List UInt8) (hr:r<4) (hk:widN r=k) (hl:4≤l.length) (hn:numL big (l.take 4)=n) (hn2:n≤4096) (hN:N=n*k) (hlen:l.length - 4<8*N) (h:WP V W pb l (if big=true then 0 else 1) no) :
    Calls Tryz.prog 200 #[.pointer (some ⟨pb,0,none⟩),.int .u8 r] W fun e w'=>(∃ ty x,e=.returned (.tuple #[.agg #[.int .u8 0,.slice none 0 0],.iface ty x]))∧W.grownBy w' (some pb):=by
  have hpb:=h.lt
  have hk24:2≤k∧k≤4:=by rw [←hk];exact ⟨(widN_le r hr).1,(widN_le r hr).2⟩
  have hNb:N≤16384:=by rw [hN];exact Nat.le_trans (Nat.mul_le_mul hn2 hk24.2) (by decide)
  have HU:=Lib.hid (parseU32_ok V _ pb big no l hl (h.kept (World.grownBy_alloc W (.cells #[.int .u8 0,.slice none 0 0] 93) none)))
  rw [hn] at HU
  have HG:=Lib.hid (gt_some (World.grownBy_alloc W (.cells #[.int .u8 0,.slice none 0 0] 93) none) pb)
  have HC:Hid (∀ w,(W.alloc (.cells #[.int .u8 0,.slice none 0 0] 93)).grownBy w (some pb)→w.cell? ⟨W.heap.size,0,none⟩=some (.int .u8 0)∧w.cell? ⟨W.heap.size,1,none⟩=some (.slice none 0 0)∧∀ j,w.frozen? ⟨W.heap.size,j,none⟩=false):=fun w g=>by
    have hn:some W.heap.size≠some pb:=fun e=>by injection e with e;omega
    have hb:=g.block W.heap.size (by simp) hn
    exact ⟨g.cell (by simp) hn,g.cell (by simp) hn,fun j=>by rw [World.frozen?_of_block hb];simp⟩
  have HD:=Lib.hid (fun w=>Dimension_any r hr w)
  rw [hk] at HD
  obtain ⟨L,hL⟩ : ∃ L,L=(l.drop 4).length:=⟨_,rfl⟩
  have hLl:L=l.length - 4:=by rw [hL,List.length_drop]
  have HX:Hid (∀ w1,WP V w1 pb (l.drop 4) (if big=true then 0 else 1) no→∃ p c,w1.cell? ⟨pb,0,none⟩=some (.slice p L c)):=fun w1 hw=>by
    obtain ⟨x,hx,hv⟩:=hw.x
    obtain ⟨p,c,e,_⟩:=hv.ex
    rw [←hL] at e
    subst e
    exact ⟨p,c,hx⟩
  obtain ⟨i0,hi,hzz⟩:=Option.map_eq_some_iff.1 infoF8
  simp only [Prod.mk.injEq] at hzz
  have HI:=Lib.hid hzz
  have hmul:IntKind.i64.wrap ((n:Int)*(k:Int))=(N:Int):=by
    have e:(n:Int)*(k:Int)=(N:Int):=by rw [hN];push_cast;rfl
    rw [e,IntKind.wrap_i64];omega
  have hLN:(L:Int)<8*(N:Int):=by omega
  clear h hN hL hLl hn hzz hlen hl hk
  go_enter Tryz.func200,Tryz.ntmps200
  go_wp2_with (first
    | (go_at_call 198;refine HU.out.mono ?_;rintro e w1 ⟨rfl,hw1,hg1⟩)
    | (go_at_call 168;refine (HD.out _).mono ?_;rintro e w' ⟨rfl,hwd⟩;obtain rfl:=hwd.symm)
    | (at_make;(refine wpList_make_full _ rfl _ _ _ rfl w1.heap.size 26 i0 (.float .f64 0) 1 Tryz.underlying30 hi HI.out.1 HI.out.2.1 .i64 .i64 _ _ N rfl rfl rfl rfl (by rw [HI.out.2.2];omega) (by unfold maxLen;omega) (by simp) ?_;intro w2 hown hg2;clear hown;obtain ⟨p,c,hx⟩:=HX.out _ (hw1.kept hg2);have G2:=gt_trans hg1 hg2 (.inr (.inl rfl));obtain ⟨r0,r1,rf⟩:=HC.out _ G2;have rf0:=rf 0;have rf1:=rf 1;clear hw1)))
  refine bodyPost_ret (by simp [results,Tryz.results200,go_sem,r0,r1];try rfl) rfl ?_
  exact ⟨⟨_,_,rfl⟩,gt_set_r (gt_set_r (gt_trans HG.out G2 (.inl rfl)) _ _ (Nat.le_refl _)) _ _ (Nat.le_refl _)⟩
def zLine:Value:=.agg #[.int .u8 0,.slice none 0 0]
theorem newT_line (r N:Nat) (f:Nat→Nat) (hr:r<4) (hN:N % widN r=0):newT (.mk 2 (r:Nat) N f [])=.mk 2 (r:Nat) N f []:=by
  unfold newT
  have e1:kindN 2=2:=by decide
  have e2:((r:Int) % 4)=(r:Int):=by omega
  have hq:N / widN r*widN r=N:=by
    have:=Nat.div_add_mod N (widN r)
    rw [Nat.mul_comm] at this;omega
  rw [e1,if_neg (by decide),if_pos rfl,e2,Int.toNat_natCast,hq]
theorem parseLS_any (V W:World) (pb r:Nat) (big:Bool) (l:List UInt8) (hr:r<4) (hG:rdLine r big l≠.bad true) (h:WP V W pb l (if big=true then 0 else 1) (!big)) :
    Calls Tryz.prog 200 #[.pointer (some ⟨pb,0,none⟩),.int .u8 r] W (PrPost DLine zLine V W pb big (rdLine r big l)):=by
  by_cases h4:l.length<4
  · have hR:rdLine r big l=.bad false:=by
      unfold rdLine rdC rdN
      rw [if_pos h4];rfl
    refine (parseLS_short V W pb r _ _ l h4 h).mono fun e w' ⟨⟨ty,x,he⟩,hg⟩=>?_
    subst he
    exact PrPost.bad hg (fun t l' e=>by rw [hR] at e;cases e)
  have hC:rdC big l=if 4096<numL big (l.take 4) then .bad true else .ok (numL big (l.take 4)) (l.drop 4):=by
    unfold rdC rdN
    rw [if_neg h4];rfl
  by_cases h5:4096<numL big (l.take 4)
  · refine absurd ?_ hG
    unfold rdLine
    rw [hC,if_pos h5];rfl
  rw [if_neg h5] at hC
  have hLn:rdLine r big l=(rdF (numL big (l.take 4)*widN r) big (l.drop 4)).bind fun ns l2=>.ok (.mk 2 r (numL big (l.take 4)*widN r) (fOf ns) []) l2:=by
    unfold rdLine
    rw [hC];rfl
  by_cases h8:l.length - 4<8*(numL big (l.take 4)*widN r)
  · have hR:rdLine r big l=.bad false:=by
      rw [hLn]
      unfold rdF
      rw [if_pos (by rw [List.length_drop];exact h8)];rfl
    refine (parseLS_eof V W pb r _ _ _ big _ l hr rfl (by omega) rfl (by omega) rfl h8 h).mono fun e w' ⟨⟨ty,x,he⟩,hg⟩=>?_
    subst he
    exact PrPost.bad hg (fun t l' e=>by rw [hR] at e;cases e)
  have hR:rdLine r big l=.ok (.mk 2 r (numL big (l.take 4)*widN r) (fOf (numsOf big (numL big (l.take 4)*widN r) (l.drop 4))) []) ((l.drop 4).drop (8*(numL big (l.take 4)*widN r))):=by
    rw [hLn]
    unfold rdF
    rw [if_neg (by rw [List.length_drop];exact h8)];rfl
  have fin:∀ e w',(∃ g,e=.returned (.tuple #[.agg #[.int .u8 r,.slice (some ⟨g,0,none⟩) (numL big (l.take 4)*widN r) (numL big (l.take 4)*widN r)],.nilIface])∧FVal w' (some ⟨g,0,none⟩) (numL big (l.take 4)*widN r) (fOf (numsOf big (numL big (l.take 4)*widN r) (l.drop 4)))∧(W.heap.size≤g∧g<w'.heap.size)∧WP V w' pb ((l.drop 4).drop (8*(numL big (l.take 4)*widN r))) (if big=true then 0 else 1) (!big)∧W.grownBy w' (some pb))→PrPost DLine zLine V W pb big (rdLine r big l) e w':=by
    intro e w' ⟨g,he,hf,hgb,hw,hg⟩
    subst he
    have hm:(numL big (l.take 4)*widN r) % widN r=0:=Nat.mul_mod_left _ _
    refine PrPost.ok hg hR (by unfold okK okKs;simp) ?_ hw
    rw [newT_line r _ _ hr hm]
    exact ⟨r,_,_,_,rfl,hr,hm,rfl,hf,fun a ha=>by injection ha with ha;subst ha;exact hgb⟩
  cases big
  · exact (parseLS_le V W pb r _ _ _ l hr rfl (by omega) rfl (by omega) rfl (by omega) h).mono fin
  · exact (parseLS_be V W pb r _ _ _ l hr rfl (by omega) rfl (by omega) rfl (by omega) h).mono fin
end
section
open Go.RowKit
def zGc:Value:=.agg #[.slice none 0 0,.int .u8 0]
theorem parseGc_some (h:Nat) (ih:InC h) (V W:World) (pb r n:Nat) (big:Bool) (l:List UInt8) (hr:r<4) (hl:4≤l.length) (hn:numL big (l.take 4)=n) (hn0:0<n) (hn2:n≤4096) (hG:rdL (rdG true h (-1)) n (l.drop 4)≠.bad true)
    (hS:∀ ts l',rdL (rdG true h (-1)) n (l.drop 4)=.ok ts l'→wt (.mk 0 (r:Nat) 0 (fun _=>0) ts)≤2000) (hSm:∀ k lk ts,k<n→Rest (rdG true h (-1)) n (l.drop 4) k lk ts→Sm h lk) (hw0:WP V W pb l (if big=true then 0 else 1) (!big)) :
    Calls Tryz.prog 205 #[.pointer (some ⟨pb,0,none⟩),.int .u8 r] W (PrPost (DNode 0 (DGeo h)) zGc V W pb big ((rdL (rdG true h (-1)) n (l.drop 4)).bind fun ts l3=>.ok (.mk 0 r 0 (fun _=>0) ts) l3)):=by
  have hpb:=hw0.lt
  have HU:=Lib.hid (parseU32_ok V _ pb big (!big) l hl (hw0.kept (World.grownBy_alloc W (.cells #[.slice none 0 0,.int .u8 0] 112) none)))
  rw [hn] at HU
  have HG:=Lib.hid (gt_some (World.grownBy_alloc W (.cells #[.slice none 0 0,.int .u8 0] 112) none) pb)
  have HC:Hid (∀ w,(W.alloc (.cells #[.slice none 0 0,.int .u8 0] 112)).grownBy w (some pb)→w.cell? ⟨W.heap.size,0,none⟩=some (.slice none 0 0)∧w.cell? ⟨W.heap.size,1,none⟩=some (.int .u8 0)∧∀ j,w.frozen? ⟨W.heap.size,j,none⟩=false):=fun w g=>by
    have hn:some W.heap.size≠some pb:=fun e=>by injection e with e;omega
    have hb:=g.block W.heap.size (by simp) hn
    exact ⟨g.cell (by simp) hn,g.cell (by simp) hn,fun j=>by rw [World.frozen?_of_block hb];simp⟩
  obtain ⟨i0,hi,hzz⟩:=Option.map_eq_some_iff.1 infoGe
  simp only [Prod.mk.injEq] at hzz
  have HI:=Lib.hid hzz
  have hnb:((n:Int)==0)=false:=by rw [beq_eq_false_iff_ne];omega
  have HSt:=Lib.hid (Rest.start (rdG true h (-1)) n (l.drop 4))
  have HIn:Hid (∀ w lk,rdG true h (-1) lk≠.bad true→Sm h lk→WP V w pb lk (if big=true then 0 else 1) (!big)→Calls Tryz.prog 246 #[.pointer (some ⟨pb,0,none⟩)] w (InPost (DGeo h) zGeo V w pb (if big=true then 0 else 1) (!big) (rdG true h (-1) lk))):=fun w lk hb hs hw=>ih V w pb lk _ _ hw hb hs
  have HGd:=Lib.hid hG
  have HSz:=Lib.hid hS
  have HSm:=Lib.hid hSm
  have HVW:Hid (V.heap.size≤W.heap.size):=hw0.g.size
  have HU0:Hid (∀ w1,(W.alloc (.cells #[.slice none 0 0,.int .u8 0] 112)).grownBy w1 (some pb)→pb<w1.heap.size∧W.heap.size<w1.heap.size):=fun w1 g=>by have h1:=g.size;simp at h1;omega
  have HPut:Hid (∀ (wr w2:World) (base k:Nat) (cs:List Value) (ts:List Raw) (t:Raw) (c0 c1:Value),k<n→pb<base→ts.length=k→RowS (DGeo h) 57 base (fun _=>False) wr (.slice (some ⟨base,0,none⟩) n n) n (fun i=>if i<k then (newTs ts)[i]? else none) cs→wr.grownBy w2 (some pb)→(DGeo h) (Fr wr w2) w2 (.agg #[c0,c1]) (newT t) →
      RowS (DGeo h) 57 base (fun _=>False) ((w2.setCell ⟨base,k*2,none⟩ c0).setCell ⟨base,k*2+1,none⟩ c1) (.slice (some ⟨base,0,none⟩) n n) n (fun i=>if i<k+1 then (newTs (ts++[t]))[i]? else none) ((cs.set (k*2) c0).set (k*2+1) c1)):=fun wr w2 base k cs ts t c0 c1 hk hpb2 hts hq g hd=>by
    have hlt:base<wr.heap.size:=(hq.1.lt _ rfl).2
    have hlen:(newTs ts).length=k:=by rw [news_len,hts]
    refine (RowS.put (DGeo.dk h) (hq.keptR (DGeo.dk h) g hpb2) k hk ((DGeo.dk h).weak (fun b hb=>?_) hd)).sel (fun i t' hi=>?_)
    · exact ⟨.inr ⟨by have:=hb.1;omega,hb.2⟩,fun e=>by have:=hb.1;omega⟩
    · show (if i=k then some (newT t) else if i<k then _ else none)=some t'
      have hi':(if i<k+1 then (newTs (ts++[t]))[i]? else none)=some t':=hi
      rw [newTs_append] at hi'
      by_cases hik:i=k
      · subst hik
        rw [if_pos (by omega),List.getElem?_append_right (by omega),hlen,Nat.sub_self] at hi'
        rw [if_pos rfl];exact hi'
      · rw [if_neg hik]
        by_cases hl:i<k
        · rw [if_pos (by omega),List.getElem?_append_left (by omega)] at hi';rw [if_pos hl];exact hi'
        · rw [if_neg (by omega)] at hi';cases hi'
  have HCell:Hid (∀ (w:World) (base m k:Nat) (cs:List Value) (s:Nat→Option Raw),k<m→pb<base→RowS (DGeo h) 57 base (fun _=>False) w (.slice (some ⟨base,0,none⟩) m m) m s cs→(∃ v,w.cell? ⟨base,k*2,none⟩=some v)∧(∃ v,w.cell? ⟨base,k*2+1,none⟩=some v)∧∀ j,w.frozen? ⟨base,j,none⟩=false):=fun w base m k cs s hk _ h=>by
    have hl:cs.length=m*2:=h.1.1
    have key:∀ o,o<2→∃ v,w.cell? ⟨base,k*2+o,none⟩=some v:=fun o h6=>by
      rw [h.1.cellAt _ (by omega)]
      exact ⟨_,List.getElem?_eq_getElem (by omega)⟩
    exact ⟨key 0 (by omega),key 1 (by omega),fun j=>h.1.frozenAt j⟩
  have HYg:Hid (∀ (wr w2:World) (ek:Int) (ety eb:Nat),(W.alloc (.cells #[.slice none 0 0,.int .u8 0] 112)).grownBy wr (some pb)→wr.grownBy w2 (some pb)→∀ w3,(w2.alloc (.cells #[.int .i64 ek,.iface ety (.pointer (some ⟨eb,0,none⟩))] 57)).grownBy w3 none→w3.cell? ⟨w2.heap.size,0,none⟩=some (.int .i64 ek)∧w3.cell? ⟨w2.heap.size,1,none⟩=some (.iface ety (.pointer (some ⟨eb,0,none⟩)))∧(w3.cell? ⟨W.heap.size,0,none⟩=some (.slice none 0 0)∧w3.cell? ⟨W.heap.size,1,none⟩=some (.int .u8 0)∧∀ j,w3.frozen? ⟨W.heap.size,j,none⟩=false)∧(W.alloc (.cells #[.slice none 0 0,.int .u8 0] 112)).grownBy w3 (some pb)∧wr.grownBy w3 (some pb)∧w2.grownBy w3 none):=fun wr w2 ek ety eb g1 g2 w3 g3=>by
    have g23:=gt_trans (World.grownBy_alloc w2 (.cells #[.int .i64 ek,.iface ety (.pointer (some ⟨eb,0,none⟩))] 57) none) g3 (.inl rfl)
    have g13:=gt_trans g2 g23 (.inr (.inl rfl))
    have g03:=gt_trans g1 g13 (.inl rfl)
    exact ⟨g3.cell (by simp) (by simp),g3.cell (by simp) (by simp),HC.out _ g03,g03,g13,g23⟩
  generalize hl2:l.drop 4=l2 at HU HSt HGd HSz HSm ⊢
  clear hw0 hl hn hzz hG hS hSm hl2
  unfold zGc
  go_enter Tryz.func205,Tryz.ntmps205
  go_wp2_with (first
    | (go_at_call 198;refine HU.out.mono ?_;rintro e w1 ⟨rfl,hw1,hg1⟩;have HW1:=Lib.hid hw1;clear hw1)
    | (at_make;(refine wpList_make_full _ rfl _ _ _ rfl w1.heap.size 57 i0 (.agg #[.int .i64 0,.nilIface]) 2 Tryz.underlying110 hi HI.out.1 HI.out.2.1 .u32 .u32 _ _ n rfl rfl rfl rfl (by rw [HI.out.2.2];omega) (by unfold maxLen;omega) (by simp) ?_;intro w2 hown hg2)))
  obtain ⟨hpb1,hrb1⟩:=HU0.out w1 hg1
  obtain ⟨base,hbase⟩ : ∃ base,base=w1.heap.size:=⟨_,rfl⟩
  rw [←hbase] at hown hpb1 hrb1 ⊢
  obtain ⟨xs0,hxs0⟩ : ∃ xs0,xs0=(madeCells (Value.cells (.agg #[.int .i64 0,.nilIface])) (n*2)).toList:=⟨_,rfl⟩
  rw [←hxs0] at hown
  have Hb:=Lib.hid hbase
  clear hxs0 hbase
  have G2:=gt_trans hg1 hg2 (.inr (.inl rfl))
  have HVb:Hid (V.heap.size≤base):=Lib.hid (by have:=HVW.out;omega)
  go_loopw [9] (fun i wr=>∃ (k:Nat) (cs:List Value) (lk:List UInt8) (ts:List Raw),k≤n∧i=.int .u32 k∧(W.alloc (.cells #[.slice none 0 0,.int .u8 0] 112)).grownBy wr (some pb)∧WP V wr pb lk (if big=true then 0 else 1) (!big)∧RowS (DGeo h) 57 base (fun _=>False) wr (.slice (some ⟨base,0,none⟩) n n) n (fun i=>if i<k then (newTs ts)[i]? else none) cs∧Rest (rdG true h (-1)) n l2 k lk ts∧okKs 0 ts=true) (fun i _=>n - (intOf i).toNat)
  case atStart=>exact ⟨0,xs0,l2,[],by omega,rfl,G2,HW1.out.kept hg2,⟨hown,fun i t h=>absurd h (by simp)⟩,HSt.out,rfl⟩
  case round =>
    clear hown
    obtain ⟨k,cs,lk,ts,hk,rfl,Gr,hw,hrow,hrest,hoks⟩:=hrel
    rename World=>wr
    by_cases hkL:k<n
    · have hlg:rdG true h (-1) lk≠.bad true:=fun e=>HGd.out (hrest.bad hkL e)
      have HLk:=Lib.hid (HIn.out wr lk hlg (HSm.out k lk ts hkL hrest) hw)
      have HCel:=Lib.hid (fun w2 (g:wr.grownBy w2 (some pb))=>HCell.out w2 base n k cs _ hkL hpb1 (hrow.keptR (DGeo.dk h) g hpb1))
      have HPut1:=Lib.hid (fun w2 t c0 c1=>HPut.out wr w2 base k cs ts t c0 c1 hkL hpb1 hrest.1 hrow)
      have HNx:=Lib.hid (fun t l' (e:rdG true h (-1) lk=.ok t l')=>hrest.next hkL e)
      have HBd:=Lib.hid (fun g (e:rdG true h (-1) lk=.bad g)=>hrest.bad hkL e)
      have HOff:=Lib.hid (fun t l' (e:rdG true h (-1) lk=.ok t l') hb=>hrest.off (K:=0) hkL e hb r)
      have HOk:=Lib.hid hoks
      clear hrow hrest hoks hlg hw
      go_wp2_with (first
        | (go_at_call 246;go_loud (refine HLk.out.mono ?_;unfold zGeo;rintro e w2 ⟨hg2,⟨hbad,ty,x,rfl⟩ | ⟨t,l',v,hRt,hok,rfl,hd,hw2⟩⟩ <;> (first
            | (have HBad:=Lib.hid hbad;clear hbad;obtain ⟨⟨v0,x0⟩,⟨v1,x1⟩,xf⟩:=HCel.out _ hg2;have f0:=xf (k*2);have f1:=xf (k*2+1);have GG:=gt_trans Gr hg2 (.inl rfl);obtain ⟨r0,r1,rf⟩:=HC.out _ GG;have rf0:=rf 0;have rf1:=rf 1)
            | (obtain ⟨ek,ety,eb,rfl⟩:=DGeo.form hd;have HD:=Lib.hid hd;have HW2:=Lib.hid hw2;clear hd hw2;obtain ⟨⟨v0,x0⟩,⟨v1,x1⟩,xf⟩:=HCel.out _ hg2;have f0:=xf (k*2);have f1:=xf (k*2+1))))))
      · have hb0:(W.alloc (.cells #[.slice none 0 0,.int .u8 0] 112)).heap.size≤base:=by simp;omega
        have GGs:=gt_set_r (gt_set_r GG ⟨base,k*2,none⟩ (.int .i64 0) hb0) ⟨base,k*2+1,none⟩ .nilIface hb0
        obtain ⟨s0,s1,_⟩:=HC.out _ GGs
        refine bodyPost_ret (by simp [results,Tryz.results205,go_sem,s0,s1];try rfl) rfl ?_
        refine PrPost.bad (gt_set_r (gt_set_r (gt_trans HG.out GGs (.inl rfl)) _ _ (Nat.le_refl _)) _ _ (Nat.le_refl _)) (fun T l' e=>?_)
        cases hF:rdG true h (-1) lk with
        | bad g=>rw [HBd.out g hF] at e;cases e
        | ok t l1=>exact HOff.out t l1 hF (by rw [okKs_one,HBad.out t l1 hF,Bool.and_false]) T l' e
      · have hb0:(W.alloc (.cells #[.slice none 0 0,.int .u8 0] 112)).heap.size≤base:=by simp;omega
        refine ⟨⟨k+1,_,l',ts++[t],by omega,by go_num,gt_set_r (gt_set_r (gt_trans Gr hg2 (.inl rfl)) _ _ hb0) _ _ hb0,(HW2.out.put _ _ HVb.out).put _ _ HVb.out,HPut1.out _ t _ _ hg2 HD.out,HNx.out _ _ hRt,?_⟩,by simp [intOf];omega⟩
        have e1:decide (kidOf 0<0)=true:=by decide
        rw [okKs_app,okKs_one,HOk.out,hok,e1];rfl
    · have hkn:n=k:=by omega
      have hend:rdL (rdG true h (-1)) n l2=.ok ts lk:=by rw [←hkn] at hrest;exact hrest.end_
      have hw2000:=HSz.out ts lk hend
      have hlen:(newTs ts).length=n:=by rw [news_len,hrest.1,hkn]
      have hwk:wts ts≤2000:=by unfold wt at hw2000;omega
      have hn2000:n≤2000:=by have:=wts_len ts;rw [news_len] at hlen;omega
      rw [←hkn] at hrow
      have HNW:=Lib.hid (GcNew_of (DGeo.dk h) DGeo.form DGeo.d4 (GeoFC h) (GeoCC h) (fun b=>base≤b∧b<wr.heap.size) wr _ n n (newTs ts) (fun _=>0) (row_done (DGeo.dk h) hlen hrow) hlen hn0 hn2000 (okTs_of _ fun t ht=>(news_okU ts hwk t ht).1.ok) (fun b hb=>hb.2))
      have hne:newTs ts≠[]:=fun e=>by rw [e] at hlen;simp at hlen;omega
      have hbr:base<wr.heap.size:=(hrow.1.lt _ rfl).2
      have hoks2:okK (.mk 0 (r:Nat) 0 (fun _=>0) ts)=true:=by unfold okK;simp;exact hoks
      have HFin:Hid (∀ w2 v',wr.grownBy w2 none→DNode 0 (DGeo h) (fun b=>(base≤b∧b<wr.heap.size)∨Fr wr w2 b) w2 v' (nodeT 0 0 (fun _=>0) (newTs ts))→∃ px nx cx rx,v'=.agg #[.slice px nx cx,.int .u8 rx]∧PrPost (DNode 0 (DGeo h)) zGc V W pb big ((rdL (rdG true h (-1)) n l2).bind fun ts l3=>.ok (.mk 0 r 0 (fun _=>0) ts) l3) (.returned (.tuple #[.agg #[.slice px nx cx,.int .u8 rx],.nilIface])) ((w2.setCell ⟨W.heap.size,0,none⟩ (.slice px nx cx)).setCell ⟨W.heap.size,1,none⟩ (.int .u8 rx))):=fun w2 v' g hd=>by
        obtain ⟨px,nx,cx,rx,rfl⟩:=DNode.form hd
        have s2:=g.size
        have nB:∀ b,((base≤b∧b<wr.heap.size)∨Fr wr w2 b)→W.heap.size<b∧b<w2.heap.size:=fun b hb=>by
          rcases hb with hb | hb
          · omega
          · have h1:=hb.1;have h2:=hb.2;omega
        have h1:=(DNode.dk (DGeo.dk h)).keep (.set (q:=⟨W.heap.size,1,none⟩) (fun hb=>by have:=(nB _ hb).1;simp at this) (.int .u8 rx)) ((DNode.dk (DGeo.dk h)).keep (.set (q:=⟨W.heap.size,0,none⟩) (fun hb=>by have:=(nB _ hb).1;simp at this) (.slice px nx cx)) (node_any (r':=r) (f':=fun _=>0) hne hd))
        refine ⟨px,nx,cx,rx,rfl,PrPost.ok (gt_set_r (gt_set_r (gt_trans HG.out (gt_trans Gr g (.inr (.inl rfl))) (.inl rfl)) _ _ (Nat.le_refl _)) _ _ (Nat.le_refl _)) (by rw [hend];rfl) hoks2 ?_ (((hw.kept g).put _ _ HVW.out).put _ _ HVW.out)⟩
        rw [newT_part 0 (by decide) (by decide) (by decide) r hr ts hoks]
        exact (DNode.dk (DGeo.dk h)).weak (fun b hb=>⟨by have:=(nB _ hb).1;omega,by have:=(nB _ hb).2;simpa [World.setCell] using this⟩) h1
      subst hkn
      clear hrow hrest hoks hw hend hw2000 hlen hwk hne hoks2
      go_wp2_with fail
      go_wp2_with (first
        | (go_at_call 117;refine HNW.out.mono ?_;rintro e w2 ⟨v',rfl,hd,hg2⟩;obtain ⟨px,nx,cx,rx,rfl,hmp⟩:=HFin.out _ _ hg2 hd;have HMP:=Lib.hid hmp;clear hmp hd;obtain ⟨x0,x1,xf⟩:=HC.out _ (gt_trans Gr hg2 (.inr (.inl rfl)));have f0:=xf 0;have f1:=xf 1))
      refine bodyPost_ret (by simp [results,Tryz.results205,go_sem,x0,x1];try rfl) rfl ?_
      exact HMP.out
theorem parseGc_short (V W:World) (pb r o:Nat) (no:Bool) (l:List UInt8) (hl:l.length<4) (h:WP V W pb l o no):Calls Tryz.prog 205 #[.pointer (some ⟨pb,0,none⟩),.int .u8 r] W fun e w'=>(∃ ty x,e=.returned (.tuple #[zGc,.iface ty x]))∧W.grownBy w' (some pb):=by
  have hpb:=h.lt
  have HU:=Lib.hid (parseU32_bad V _ pb o no l hl (h.kept (World.grownBy_alloc W (.cells #[.slice none 0 0,.int .u8 0] 112) none)))
  have HG:=Lib.hid (gt_some (World.grownBy_alloc W (.cells #[.slice none 0 0,.int .u8 0] 112) none) pb)
  have HC:Hid (∀ w,(W.alloc (.cells #[.slice none 0 0,.int .u8 0] 112)).grownBy w (some pb)→w.cell? ⟨W.heap.size,0,none⟩=some (.slice none 0 0)∧w.cell? ⟨W.heap.size,1,none⟩=some (.int .u8 0)∧∀ j,w.frozen? ⟨W.heap.size,j,none⟩=false):=fun w g=>by
    have hn:some W.heap.size≠some pb:=fun e=>by injection e with e;omega
    have hb:=g.block W.heap.size (by simp) hn
    exact ⟨g.cell (by simp) hn,g.cell (by simp) hn,fun j=>by rw [World.frozen?_of_block hb];simp⟩
  clear h
  unfold zGc
  go_enter Tryz.func205,Tryz.ntmps205
  go_wp2_with (first
    | (go_at_call 198;refine HU.out.mono ?_;rintro e w1 ⟨⟨ty,x,rfl⟩,hg1⟩;obtain ⟨r0,r1,rf⟩:=HC.out _ hg1;have rf0:=rf 0;have rf1:=rf 1))
  refine bodyPost_ret (by simp [results,Tryz.results205,go_sem,r0,r1];try rfl) rfl ?_
  exact ⟨⟨_,_,rfl⟩,gt_set_r (gt_set_r (gt_trans HG.out hg1 (.inl rfl)) _ _ (Nat.le_refl _)) _ _ (Nat.le_refl _)⟩
theorem parseGc_none (hh:Nat) (V W:World) (pb r:Nat) (big:Bool) (l:List UInt8) (hr:r<4) (hl:4≤l.length) (hn:numL big (l.take 4)=0) (h:WP V W pb l (if big=true then 0 else 1) (!big)) :
    Calls Tryz.prog 205 #[.pointer (some ⟨pb,0,none⟩),.int .u8 r] W (PrPost (DNode 0 (DGeo hh)) zGc V W pb big (.ok (.mk 0 r 0 (fun _=>0) []) (l.drop 4))):=by
  have hpb:=h.lt
  have HU:=Lib.hid (parseU32_ok V _ pb big (!big) l hl (h.kept (World.grownBy_alloc W (.cells #[.slice none 0 0,.int .u8 0] 112) none)))
  rw [hn] at HU
  have HG:=Lib.hid (gt_some (World.grownBy_alloc W (.cells #[.slice none 0 0,.int .u8 0] 112) none) pb)
  have HC:Hid (∀ w,(W.alloc (.cells #[.slice none 0 0,.int .u8 0] 112)).grownBy w (some pb)→w.cell? ⟨W.heap.size,0,none⟩=some (.slice none 0 0)∧w.cell? ⟨W.heap.size,1,none⟩=some (.int .u8 0)∧∀ j,w.frozen? ⟨W.heap.size,j,none⟩=false):=fun w g=>by
    have hn:some W.heap.size≠some pb:=fun e=>by injection e with e;omega
    have hb:=g.block W.heap.size (by simp) hn
    exact ⟨g.cell (by simp) hn,g.cell (by simp) hn,fun j=>by rw [World.frozen?_of_block hb];simp⟩
  have HVW:Hid (V.heap.size≤W.heap.size):=h.g.size
  have HF0:=Lib.hid (fun w=>GcForce_of (DGeo.dk hh) DGeo.form (GeoFC hh) (fun _=>False) w zGc (.mk 0 ((0:Nat):Int) 0 (fun _=>0) []) r ⟨0,(fun _=>0),[],none,0,rfl,by omega,rfl,Nat.le_refl _,by decide,fun h=>by simp at h,fun a ha=>by cases ha⟩ (by unfold okT okTs;exact ⟨by omega,by simp,trivial⟩) hr (fun b hb=>hb.elim))
  have HFin:Hid (∀ w1 w2 v',(W.alloc (.cells #[.slice none 0 0,.int .u8 0] 112)).grownBy w1 (some pb)→WP V w1 pb (l.drop 4) (if big=true then 0 else 1) (!big)→w1.grownBy w2 none→(DNode 0 (DGeo hh)) (fun b=>False∨Fr w1 w2 b) w2 v' (forceT r (.mk 0 ((0:Nat):Int) 0 (fun _=>0) []))→∃ px nx cx rx,v'=.agg #[.slice px nx cx,.int .u8 rx]∧PrPost (DNode 0 (DGeo hh)) zGc V W pb big (.ok (.mk 0 r 0 (fun _=>0) []) (l.drop 4)) (.returned (.tuple #[.agg #[.slice px nx cx,.int .u8 rx],.nilIface])) ((w2.setCell ⟨W.heap.size,0,none⟩ (.slice px nx cx)).setCell ⟨W.heap.size,1,none⟩ (.int .u8 rx))):=fun w1 w2 v' g1 hw g hd=>by
    obtain ⟨px,nx,cx,rx,rfl⟩:=DNode.form hd
    have s2:=g.size
    have s1:W.heap.size<w1.heap.size:=by have:=g1.size;simp at this;omega
    have nB:∀ b,(False∨Fr w1 w2 b)→W.heap.size<b∧b<w2.heap.size:=fun b hb=>by
      rcases hb with hb | hb
      · exact hb.elim
      · have h1:=hb.1;have h2:=hb.2;omega
    rw [force_node] at hd
    have h1:=(DNode.dk (DGeo.dk hh)).keep (.set (q:=⟨W.heap.size,1,none⟩) (fun hb=>by have:=(nB _ hb).1;simp at this) (.int .u8 rx)) ((DNode.dk (DGeo.dk hh)).keep (.set (q:=⟨W.heap.size,0,none⟩) (fun hb=>by have:=(nB _ hb).1;simp at this) (.slice px nx cx)) (hd.anyf (f':=fun _=>0)))
    refine ⟨px,nx,cx,rx,rfl,PrPost.ok (gt_set_r (gt_set_r (gt_trans HG.out (gt_trans g1 g (.inr (.inl rfl))) (.inl rfl)) _ _ (Nat.le_refl _)) _ _ (Nat.le_refl _)) rfl (by unfold okK okKs;simp) ?_ (((hw.kept g).put _ _ HVW.out).put _ _ HVW.out)⟩
    rw [newT_part 0 (by decide) (by decide) (by decide) r hr [] rfl]
    exact (DNode.dk (DGeo.dk hh)).weak (fun b hb=>⟨by have:=(nB _ hb).1;omega,by have:=(nB _ hb).2;simpa [World.setCell] using this⟩) h1
  generalize l.drop 4=l2 at HU HFin ⊢
  clear h hl hn
  unfold zGc at *
  go_enter Tryz.func205,Tryz.ntmps205
  go_wp2_with (first
    | (go_at_call 198;refine HU.out.mono ?_;rintro e w1 ⟨rfl,hw1,hg1⟩;have HW1:=Lib.hid hw1;clear hw1;obtain ⟨r0,r1,rf⟩:=HC.out _ hg1;have rf0:=rf 0;have rf1:=rf 1)
    | (go_at_call 116;refine (HF0.out _).mono ?_;rintro e w2 ⟨v',rfl,hd,hg2⟩;obtain ⟨px,nx,cx,rx,rfl,hmp⟩:=HFin.out _ _ _ hg1 HW1.out hg2 hd;have HMP:=Lib.hid hmp;clear hmp hd;obtain ⟨x0,x1,xf⟩:=HC.out _ (gt_trans hg1 hg2 (.inr (.inl rfl)));have f0:=xf 0;have f1:=xf 1))
  refine bodyPost_ret (by simp [results,Tryz.results205,go_sem,x0,x1];try rfl) rfl ?_
  exact HMP.out
theorem parseGc_any (h:Nat) (ih:InC h) (V W:World) (pb r:Nat) (big:Bool) (l:List UInt8) (hr:r<4) (hG:rdK 0 h r big l≠.bad true) (hS:∀ t l',rdK 0 h r big l=.ok t l'→wt t≤2000) (hSm:∀ n l2,rdC big l=.ok n l2→∀ k lk ts,k<n→Rest (rdG true h (-1)) n l2 k lk ts→Sm h lk) (hw:WP V W pb l (if big=true then 0 else 1) (!big)) :
    Calls Tryz.prog 205 #[.pointer (some ⟨pb,0,none⟩),.int .u8 r] W (PrPost (DNode 0 (DGeo h)) zGc V W pb big (rdK 0 h r big l)):=by
  by_cases h4:l.length<4
  · have hR:rdK 0 h r big l=.bad false:=by
      unfold rdK rdC rdN
      rw [if_pos h4];rfl
    refine (parseGc_short V W pb r _ _ l h4 hw).mono fun e w' ⟨⟨ty,x,he⟩,hg⟩=>?_
    subst he
    exact PrPost.bad hg (fun t l' e=>by rw [hR] at e;cases e)
  have hC:rdC big l=if 4096<numL big (l.take 4) then .bad true else .ok (numL big (l.take 4)) (l.drop 4):=by
    unfold rdC rdN
    rw [if_neg h4];rfl
  by_cases h5:4096<numL big (l.take 4)
  · refine absurd ?_ hG
    unfold rdK
    rw [hC,if_pos h5];rfl
  rw [if_neg h5] at hC
  have hP:rdK 0 h r big l=(rdL (rdG true h (-1)) (numL big (l.take 4)) (l.drop 4)).bind fun ts l3=>.ok (.mk 0 r 0 (fun _=>0) ts) l3:=by
    unfold rdK
    rw [hC];rfl
  by_cases h0:numL big (l.take 4)=0
  · rw [hP,h0]
    exact parseGc_none h V W pb r big l hr (by omega) h0 hw
  have hSm2:=hSm _ _ hC
  rw [hP] at hG hS ⊢
  refine parseGc_some h ih V W pb r _ big l hr (by omega) rfl (by omega) (by omega) (fun e=>hG (by rw [e];rfl)) (fun ts l' e=>hS _ l' (by rw [e];rfl)) hSm2 hw
end
section
open Go.RowKit
def zMp:Value:=.agg #[.slice none 0 0,.int .u8 0]
theorem IsPg (k:Int) (ty b:Nat) (W:World):Calls Tryz.prog 249 #[.agg #[.int .i64 k,.iface ty (.pointer (some ⟨b,0,none⟩))]] W fun e w'=>e=.returned (.bool (k==3))∧W.grownBy w' none:=by
  go_enter Tryz.func249,Tryz.ntmps249
  go_wp2_with fail
  go_returns
  exact ⟨rfl,by first | exact gt_refl _ _ | exact World.grownBy_alloc _ _ _⟩
theorem mustPg (h:Nat) (B:Nat→Prop) (W:World) (ty b:Nat) (t:Raw) (hd:DGeo h B W (.agg #[.int .i64 3,.iface ty (.pointer (some ⟨b,0,none⟩))]) t) (hB:∀ b,B b→b<W.heap.size):∃ er ep en ec,DPg B W (.agg #[.slice ep en ec,.int .u8 er]) t∧Calls Tryz.prog 66 #[.agg #[.int .i64 3,.iface ty (.pointer (some ⟨b,0,none⟩))]] W fun e w'=>e=.returned (.agg #[.slice ep en ec,.int .u8 er])∧W.grownBy w' none:=by
  cases h with
  | zero=>exact hd.elim
  | succ h =>
    rcases hd with hd | hd | hd | hd | hd | hd | hd
    all_goals (obtain ⟨b',x,hk,hv,hb,hx,hd⟩:=hd;simp at hv)
    obtain ⟨rfl,rfl⟩:=hv
    obtain ⟨ep,en,ec,er,rfl⟩:=DNode.form hd
    exact ⟨er,ep,en,ec,hd,MustAsPolygon ep en ec er _ W (hx 0 _ rfl) (hx 1 _ rfl) (hB _ hb)⟩
theorem infoPg1:(Tryz.prog.info? 97).map (fun i=>(i.zero,i.size,i.bytes))=some (some (.agg #[.slice none 0 0,.int .u8 0]),2,32):=by kernel_rfl
theorem parseMp_some (h:Nat) (ih:InC h) (V W:World) (pb r n:Nat) (big:Bool) (l:List UInt8) (hr:r<4) (hl:4≤l.length) (hn:numL big (l.take 4)=n) (hn0:0<n) (hn2:n≤4096) (hG:rdL (rdG true h (-1)) n (l.drop 4)≠.bad true)
    (hS:∀ ts l',rdL (rdG true h (-1)) n (l.drop 4)=.ok ts l'→wt (.mk 6 (r:Nat) 0 (fun _=>0) ts)≤2000) (hSm:∀ k lk ts,k<n→Rest (rdG true h (-1)) n (l.drop 4) k lk ts→Sm h lk) (hw0:WP V W pb l (if big=true then 0 else 1) (!big)) :
    Calls Tryz.prog 204 #[.pointer (some ⟨pb,0,none⟩),.int .u8 r] W (PrPost DMp zMp V W pb big ((rdL (rdG true h (-1)) n (l.drop 4)).bind fun ts l3=>.ok (.mk 6 r 0 (fun _=>0) ts) l3)):=by
  have hpb:=hw0.lt
  have HU:=Lib.hid (parseU32_ok V _ pb big (!big) l hl (hw0.kept (World.grownBy_alloc W (.cells #[.slice none 0 0,.int .u8 0] 108) none)))
  rw [hn] at HU
  have HG:=Lib.hid (gt_some (World.grownBy_alloc W (.cells #[.slice none 0 0,.int .u8 0] 108) none) pb)
  have HC:Hid (∀ w,(W.alloc (.cells #[.slice none 0 0,.int .u8 0] 108)).grownBy w (some pb)→w.cell? ⟨W.heap.size,0,none⟩=some (.slice none 0 0)∧w.cell? ⟨W.heap.size,1,none⟩=some (.int .u8 0)∧∀ j,w.frozen? ⟨W.heap.size,j,none⟩=false):=fun w g=>by
    have hn:some W.heap.size≠some pb:=fun e=>by injection e with e;omega
    have hb:=g.block W.heap.size (by simp) hn
    exact ⟨g.cell (by simp) hn,g.cell (by simp) hn,fun j=>by rw [World.frozen?_of_block hb];simp⟩
  obtain ⟨i0,hi,hzz⟩:=Option.map_eq_some_iff.1 infoPg1
  simp only [Prod.mk.injEq] at hzz
  have HI:=Lib.hid hzz
  have hnb:((n:Int)==0)=false:=by rw [beq_eq_false_iff_ne];omega
  have HSt:=Lib.hid (Rest.start (rdG true h (-1)) n (l.drop 4))
  have HIn:Hid (∀ w lk,rdG true h (-1) lk≠.bad true→Sm h lk→WP V w pb lk (if big=true then 0 else 1) (!big)→Calls Tryz.prog 246 #[.pointer (some ⟨pb,0,none⟩)] w (InPost (DGeo h) zGeo V w pb (if big=true then 0 else 1) (!big) (rdG true h (-1) lk))):=fun w lk hb hs hw=>ih V w pb lk _ _ hw hb hs
  have HGd:=Lib.hid hG
  have HSz:=Lib.hid hS
  have HSm:=Lib.hid hSm
  have HVW:Hid (V.heap.size≤W.heap.size):=hw0.g.size
  have HU0:Hid (∀ w1,(W.alloc (.cells #[.slice none 0 0,.int .u8 0] 108)).grownBy w1 (some pb)→pb<w1.heap.size∧W.heap.size<w1.heap.size):=fun w1 g=>by have h1:=g.size;simp at h1;omega
  have HPut:Hid (∀ (wr w2:World) (base k:Nat) (cs:List Value) (ts:List Raw) (t:Raw) (c0 c1:Value),k<n→pb<base→ts.length=k→RowS DPg 97 base (fun _=>False) wr (.slice (some ⟨base,0,none⟩) n n) n (fun i=>if i<k then (newTs ts)[i]? else none) cs→wr.grownBy w2 (some pb)→DPg (Fr wr w2) w2 (.agg #[c0,c1]) (newT t) →
      RowS DPg 97 base (fun _=>False) ((w2.setCell ⟨base,k*2,none⟩ c0).setCell ⟨base,k*2+1,none⟩ c1) (.slice (some ⟨base,0,none⟩) n n) n (fun i=>if i<k+1 then (newTs (ts++[t]))[i]? else none) ((cs.set (k*2) c0).set (k*2+1) c1)):=fun wr w2 base k cs ts t c0 c1 hk hpb2 hts hq g hd=>by
    have hlt:base<wr.heap.size:=(hq.1.lt _ rfl).2
    have hlen:(newTs ts).length=k:=by rw [news_len,hts]
    refine (RowS.put DPg.dk (hq.keptR DPg.dk g hpb2) k hk (DPg.dk.weak (fun b hb=>?_) hd)).sel (fun i t' hi=>?_)
    · exact ⟨.inr ⟨by have:=hb.1;omega,hb.2⟩,fun e=>by have:=hb.1;omega⟩
    · show (if i=k then some (newT t) else if i<k then _ else none)=some t'
      have hi':(if i<k+1 then (newTs (ts++[t]))[i]? else none)=some t':=hi
      rw [newTs_append] at hi'
      by_cases hik:i=k
      · subst hik
        rw [if_pos (by omega),List.getElem?_append_right (by omega),hlen,Nat.sub_self] at hi'
        rw [if_pos rfl];exact hi'
      · rw [if_neg hik]
        by_cases hl:i<k
        · rw [if_pos (by omega),List.getElem?_append_left (by omega)] at hi';rw [if_pos hl];exact hi'
        · rw [if_neg (by omega)] at hi';cases hi'
  have HCell:Hid (∀ (w:World) (base m k:Nat) (cs:List Value) (s:Nat→Option Raw),k<m→pb<base→RowS DPg 97 base (fun _=>False) w (.slice (some ⟨base,0,none⟩) m m) m s cs→(∃ v,w.cell? ⟨base,k*2,none⟩=some v)∧(∃ v,w.cell? ⟨base,k*2+1,none⟩=some v)∧∀ j,w.frozen? ⟨base,j,none⟩=false):=fun w base m k cs s hk _ h=>by
    have hl:cs.length=m*2:=h.1.1
    have key:∀ o,o<2→∃ v,w.cell? ⟨base,k*2+o,none⟩=some v:=fun o h6=>by
      rw [h.1.cellAt _ (by omega)]
      exact ⟨_,List.getElem?_eq_getElem (by omega)⟩
    exact ⟨key 0 (by omega),key 1 (by omega),fun j=>h.1.frozenAt j⟩
  have HYg:Hid (∀ (wr w2:World) (ek:Int) (ety eb:Nat),(W.alloc (.cells #[.slice none 0 0,.int .u8 0] 108)).grownBy wr (some pb)→wr.grownBy w2 (some pb)→∀ w3,(w2.alloc (.cells #[.int .i64 ek,.iface ety (.pointer (some ⟨eb,0,none⟩))] 57)).grownBy w3 none→w3.cell? ⟨w2.heap.size,0,none⟩=some (.int .i64 ek)∧w3.cell? ⟨w2.heap.size,1,none⟩=some (.iface ety (.pointer (some ⟨eb,0,none⟩)))∧(w3.cell? ⟨W.heap.size,0,none⟩=some (.slice none 0 0)∧w3.cell? ⟨W.heap.size,1,none⟩=some (.int .u8 0)∧∀ j,w3.frozen? ⟨W.heap.size,j,none⟩=false)∧(W.alloc (.cells #[.slice none 0 0,.int .u8 0] 108)).grownBy w3 (some pb)∧wr.grownBy w3 (some pb)∧w2.grownBy w3 none):=fun wr w2 ek ety eb g1 g2 w3 g3=>by
    have g23:=gt_trans (World.grownBy_alloc w2 (.cells #[.int .i64 ek,.iface ety (.pointer (some ⟨eb,0,none⟩))] 57) none) g3 (.inl rfl)
    have g13:=gt_trans g2 g23 (.inr (.inl rfl))
    have g03:=gt_trans g1 g13 (.inl rfl)
    exact ⟨g3.cell (by simp) (by simp),g3.cell (by simp) (by simp),HC.out _ g03,g03,g13,g23⟩
  generalize hl2:l.drop 4=l2 at HU HSt HGd HSz HSm ⊢
  clear hw0 hl hn hzz hG hS hSm hl2
  unfold zMp
  go_enter Tryz.func204,Tryz.ntmps204
  go_wp2_with (first
    | (go_at_call 198;refine HU.out.mono ?_;rintro e w1 ⟨rfl,hw1,hg1⟩;have HW1:=Lib.hid hw1;clear hw1)
    | (at_make;(refine wpList_make_full _ rfl _ _ _ rfl w1.heap.size 97 i0 (.agg #[.slice none 0 0,.int .u8 0]) 2 Tryz.underlying106 hi HI.out.1 HI.out.2.1 .u32 .u32 _ _ n rfl rfl rfl rfl (by rw [HI.out.2.2];omega) (by unfold maxLen;omega) (by simp) ?_;intro w2 hown hg2)))
  obtain ⟨hpb1,hrb1⟩:=HU0.out w1 hg1
  obtain ⟨base,hbase⟩ : ∃ base,base=w1.heap.size:=⟨_,rfl⟩
  rw [←hbase] at hown hpb1 hrb1 ⊢
  obtain ⟨xs0,hxs0⟩ : ∃ xs0,xs0=(madeCells (Value.cells (.agg #[.slice none 0 0,.int .u8 0])) (n*2)).toList:=⟨_,rfl⟩
  rw [←hxs0] at hown
  have Hb:=Lib.hid hbase
  clear hxs0 hbase
  have G2:=gt_trans hg1 hg2 (.inr (.inl rfl))
  have HVb:Hid (V.heap.size≤base):=Lib.hid (by have:=HVW.out;omega)
  go_loopw [9] (fun i wr=>∃ (k:Nat) (cs:List Value) (lk:List UInt8) (ts:List Raw),k≤n∧i=.int .u32 k∧(W.alloc (.cells #[.slice none 0 0,.int .u8 0] 108)).grownBy wr (some pb)∧WP V wr pb lk (if big=true then 0 else 1) (!big)∧RowS DPg 97 base (fun _=>False) wr (.slice (some ⟨base,0,none⟩) n n) n (fun i=>if i<k then (newTs ts)[i]? else none) cs∧Rest (rdG true h (-1)) n l2 k lk ts∧okKs 6 ts=true) (fun i _=>n - (intOf i).toNat)
  case atStart=>exact ⟨0,xs0,l2,[],by omega,rfl,G2,HW1.out.kept hg2,⟨hown,fun i t h=>absurd h (by simp)⟩,HSt.out,rfl⟩
  case round =>
    clear hown
    obtain ⟨k,cs,lk,ts,hk,rfl,Gr,hw,hrow,hrest,hoks⟩:=hrel
    rename World=>wr
    by_cases hkL:k<n
    · have hlg:rdG true h (-1) lk≠.bad true:=fun e=>HGd.out (hrest.bad hkL e)
      have HLk:=Lib.hid (HIn.out wr lk hlg (HSm.out k lk ts hkL hrest) hw)
      have HCel:=Lib.hid (fun w2 (g:wr.grownBy w2 (some pb))=>HCell.out w2 base n k cs _ hkL hpb1 (hrow.keptR DPg.dk g hpb1))
      have HPut1:=Lib.hid (fun w2 t c0 c1=>HPut.out wr w2 base k cs ts t c0 c1 hkL hpb1 hrest.1 hrow)
      have HNx:=Lib.hid (fun t l' (e:rdG true h (-1) lk=.ok t l')=>hrest.next hkL e)
      have HBd:=Lib.hid (fun g (e:rdG true h (-1) lk=.bad g)=>hrest.bad hkL e)
      have HOff:=Lib.hid (fun t l' (e:rdG true h (-1) lk=.ok t l') hb=>hrest.off (K:=6) hkL e hb r)
      have HOk:=Lib.hid hoks
      clear hrow hrest hoks hlg hw
      go_wp2_with (first
        | (go_at_call 246;go_loud (refine HLk.out.mono ?_;unfold zGeo;rintro e w2 ⟨hg2,⟨hbad,ty,x,rfl⟩ | ⟨t,l',v,hRt,hok,rfl,hd,hw2⟩⟩ <;> (first
            | (have HBad:=Lib.hid hbad;clear hbad;have GG:=gt_trans Gr (gt_alloc_r hg2 (.cells #[.int .i64 0,.nilIface] 57)) (.inl rfl);obtain ⟨r0,r1,rf⟩:=HC.out _ GG;have rf0:=rf 0;have rf1:=rf 1)
            | (obtain ⟨ek,ety,eb,rfl⟩:=DGeo.form hd;have HD:=Lib.hid hd;have HW2:=Lib.hid hw2;have HY:=Lib.hid (HYg.out wr w2 ek ety eb Gr hg2);clear hd hw2;by_cases hk2:ek=3 <;> (first | (subst hk2;have hb2:((3:Int)==3)=true:=rfl;have HMu:=Lib.hid (fun w3 (g:w2.grownBy w3 none)=>mustPg h _ w3 ety eb _ ((DGeo.dk h).toDK0.mono g HD.out) (fun b hb=>Nat.lt_of_lt_of_le hb.2 g.size))) | (have hb2:(ek==3)=false:=beq_eq_false_iff_ne.2 hk2))))))
        | (go_at_call 249;go_loud (refine (IsPg _ _ _ _).mono ?_;rintro e w3 ⟨rfl,hg3⟩;obtain ⟨y0,y1,⟨r0,r1,rf⟩,G3,g3r,g23⟩:=HY.out _ hg3;have rf0:=rf 0;have rf1:=rf 1))
        | (go_at_call 66;go_loud (obtain ⟨er,ep,en,ec,hdl,hcall⟩:=HMu.out w3 g23;refine hcall.mono ?_;rintro e w4 ⟨rfl,hg4⟩;have g4:=gt_trans g3r hg4 (.inr (.inl rfl));have g24:=gt_trans g23 hg4 (.inl rfl);obtain ⟨⟨v0,x0⟩,⟨v1,x1⟩,xf⟩:=HCel.out _ g4;have f0:=xf (k*2);have f1:=xf (k*2+1);have s24:=g24.size;have HDL:=Lib.hid (DPg.dk.weak (B':=Fr wr w4) (fun b hb=>⟨hb.1,Nat.lt_of_lt_of_le hb.2 s24⟩) (DPg.dk.toDK0.mono hg4 hdl));clear hdl hcall)))
      · refine bodyPost_ret (by simp [results,Tryz.results204,go_sem,r0,r1];try rfl) rfl ?_
        refine PrPost.bad (gt_set_r (gt_set_r (gt_trans HG.out GG (.inl rfl)) _ _ (Nat.le_refl _)) _ _ (Nat.le_refl _)) (fun T l' e=>?_)
        cases hF:rdG true h (-1) lk with
        | bad g=>rw [HBd.out g hF] at e;cases e
        | ok t l1=>exact HOff.out t l1 hF (by rw [okKs_one,HBad.out t l1 hF,Bool.and_false]) T l' e
      · have hb0:(W.alloc (.cells #[.slice none 0 0,.int .u8 0] 108)).heap.size≤base:=by simp;omega
        have hk9:kindOf t=3:=kind_is (by decide) (by decide) (HD.out.kind)
        refine ⟨⟨k+1,_,l',ts++[t],by omega,by go_num,gt_set_r (gt_set_r (gt_trans Gr g4 (.inl rfl)) _ _ hb0) _ _ hb0,((HW2.out.kept g24).put _ _ HVb.out).put _ _ HVb.out,HPut1.out _ t _ _ g4 HDL.out,HNx.out _ _ hRt,?_⟩,by simp [intOf];omega⟩
        rw [okKs_app,okKs_one,HOk.out,hok,hk9];decide
      · refine bodyPost_ret (by simp [results,Tryz.results204,go_sem,r0,r1];try rfl) rfl ?_
        refine PrPost.bad (gt_set_r (gt_set_r (gt_trans HG.out G3 (.inl rfl)) _ _ (Nat.le_refl _)) _ _ (Nat.le_refl _)) (fun T l1 e=>HOff.out t l' hRt ?_ T l1 e)
        have hk9:kindOf t≠3:=fun e=>hk2 (by have:=HD.out.kind;rw [kindOf_new,e] at this;rw [←this];decide)
        have e1:decide (kidOf 6<0)=false:=by decide
        have e2:decide (kindOf t=kidOf 6)=false:=decide_eq_false (by rw [show kidOf 6=3 by decide];exact hk9)
        rw [okKs_one,e1,e2];rfl
    · have hkn:n=k:=by omega
      have hend:rdL (rdG true h (-1)) n l2=.ok ts lk:=by rw [←hkn] at hrest;exact hrest.end_
      have hw2000:=HSz.out ts lk hend
      have hlen:(newTs ts).length=n:=by rw [news_len,hrest.1,hkn]
      have hwk:wts ts≤2000:=by unfold wt at hw2000;omega
      have hn2000:n≤2000:=by have:=wts_len ts;rw [news_len] at hlen;omega
      rw [←hkn] at hrow
      have HNW:=Lib.hid (MpNew_of DPg.dk DNode.form DNode.d4 PgFC (PgCT DLine) (fun b=>base≤b∧b<wr.heap.size) wr _ n n (newTs ts) (fun _=>0) (row_done DPg.dk hlen hrow) hlen hn0 hn2000 (okTs_of _ fun t ht=>(news_okU ts hwk t ht).1.ok) (fun b hb=>hb.2))
      have hne:newTs ts≠[]:=fun e=>by rw [e] at hlen;simp at hlen;omega
      have hbr:base<wr.heap.size:=(hrow.1.lt _ rfl).2
      have hoks2:okK (.mk 6 (r:Nat) 0 (fun _=>0) ts)=true:=by unfold okK;simp;exact hoks
      have HFin:Hid (∀ w2 v',wr.grownBy w2 none→DNode 6 DPg (fun b=>(base≤b∧b<wr.heap.size)∨Fr wr w2 b) w2 v' (nodeT 6 0 (fun _=>0) (newTs ts))→∃ px nx cx rx,v'=.agg #[.slice px nx cx,.int .u8 rx]∧PrPost DMp zMp V W pb big ((rdL (rdG true h (-1)) n l2).bind fun ts l3=>.ok (.mk 6 r 0 (fun _=>0) ts) l3) (.returned (.tuple #[.agg #[.slice px nx cx,.int .u8 rx],.nilIface])) ((w2.setCell ⟨W.heap.size,0,none⟩ (.slice px nx cx)).setCell ⟨W.heap.size,1,none⟩ (.int .u8 rx))):=fun w2 v' g hd=>by
        obtain ⟨px,nx,cx,rx,rfl⟩:=DNode.form hd
        have s2:=g.size
        have nB:∀ b,((base≤b∧b<wr.heap.size)∨Fr wr w2 b)→W.heap.size<b∧b<w2.heap.size:=fun b hb=>by
          rcases hb with hb | hb
          · omega
          · have h1:=hb.1;have h2:=hb.2;omega
        have h1:=(DNode.dk DPg.dk).keep (.set (q:=⟨W.heap.size,1,none⟩) (fun hb=>by have:=(nB _ hb).1;simp at this) (.int .u8 rx)) ((DNode.dk DPg.dk).keep (.set (q:=⟨W.heap.size,0,none⟩) (fun hb=>by have:=(nB _ hb).1;simp at this) (.slice px nx cx)) (node_any (r':=r) (f':=fun _=>0) hne hd))
        refine ⟨px,nx,cx,rx,rfl,PrPost.ok (gt_set_r (gt_set_r (gt_trans HG.out (gt_trans Gr g (.inr (.inl rfl))) (.inl rfl)) _ _ (Nat.le_refl _)) _ _ (Nat.le_refl _)) (by rw [hend];rfl) hoks2 ?_ (((hw.kept g).put _ _ HVW.out).put _ _ HVW.out)⟩
        rw [newT_part 6 (by decide) (by decide) (by decide) r hr ts hoks]
        exact (DNode.dk DPg.dk).weak (fun b hb=>⟨by have:=(nB _ hb).1;omega,by have:=(nB _ hb).2;simpa [World.setCell] using this⟩) h1
      subst hkn
      clear hrow hrest hoks hw hend hw2000 hlen hwk hne hoks2
      go_wp2_with fail
      go_wp2_with (first
        | (go_at_call 115;refine HNW.out.mono ?_;rintro e w2 ⟨v',rfl,hd,hg2⟩;obtain ⟨px,nx,cx,rx,rfl,hmp⟩:=HFin.out _ _ hg2 hd;have HMP:=Lib.hid hmp;clear hmp hd;obtain ⟨x0,x1,xf⟩:=HC.out _ (gt_trans Gr hg2 (.inr (.inl rfl)));have f0:=xf 0;have f1:=xf 1))
      refine bodyPost_ret (by simp [results,Tryz.results204,go_sem,x0,x1];try rfl) rfl ?_
      exact HMP.out
theorem parseMp_short (V W:World) (pb r o:Nat) (no:Bool) (l:List UInt8) (hl:l.length<4) (h:WP V W pb l o no):Calls Tryz.prog 204 #[.pointer (some ⟨pb,0,none⟩),.int .u8 r] W fun e w'=>(∃ ty x,e=.returned (.tuple #[zMp,.iface ty x]))∧W.grownBy w' (some pb):=by
  have hpb:=h.lt
  have HU:=Lib.hid (parseU32_bad V _ pb o no l hl (h.kept (World.grownBy_alloc W (.cells #[.slice none 0 0,.int .u8 0] 108) none)))
  have HG:=Lib.hid (gt_some (World.grownBy_alloc W (.cells #[.slice none 0 0,.int .u8 0] 108) none) pb)
  have HC:Hid (∀ w,(W.alloc (.cells #[.slice none 0 0,.int .u8 0] 108)).grownBy w (some pb)→w.cell? ⟨W.heap.size,0,none⟩=some (.slice none 0 0)∧w.cell? ⟨W.heap.size,1,none⟩=some (.int .u8 0)∧∀ j,w.frozen? ⟨W.heap.size,j,none⟩=false):=fun w g=>by
    have hn:some W.heap.size≠some pb:=fun e=>by injection e with e;omega
    have hb:=g.block W.heap.size (by simp) hn
    exact ⟨g.cell (by simp) hn,g.cell (by simp) hn,fun j=>by rw [World.frozen?_of_block hb];simp⟩
  clear h
  unfold zMp
  go_enter Tryz.func204,Tryz.ntmps204
  go_wp2_with (first
    | (go_at_call 198;refine HU.out.mono ?_;rintro e w1 ⟨⟨ty,x,rfl⟩,hg1⟩;obtain ⟨r0,r1,rf⟩:=HC.out _ hg1;have rf0:=rf 0;have rf1:=rf 1))
  refine bodyPost_ret (by simp [results,Tryz.results204,go_sem,r0,r1];try rfl) rfl ?_
  exact ⟨⟨_,_,rfl⟩,gt_set_r (gt_set_r (gt_trans HG.out hg1 (.inl rfl)) _ _ (Nat.le_refl _)) _ _ (Nat.le_refl _)⟩
theorem parseMp_none (V W:World) (pb r:Nat) (big:Bool) (l:List UInt8) (hr:r<4) (hl:4≤l.length) (hn:numL big (l.take 4)=0) (h:WP V W pb l (if big=true then 0 else 1) (!big)) :
    Calls Tryz.prog 204 #[.pointer (some ⟨pb,0,none⟩),.int .u8 r] W (PrPost DMp zMp V W pb big (.ok (.mk 6 r 0 (fun _=>0) []) (l.drop 4))):=by
  have hpb:=h.lt
  have HU:=Lib.hid (parseU32_ok V _ pb big (!big) l hl (h.kept (World.grownBy_alloc W (.cells #[.slice none 0 0,.int .u8 0] 108) none)))
  rw [hn] at HU
  have HG:=Lib.hid (gt_some (World.grownBy_alloc W (.cells #[.slice none 0 0,.int .u8 0] 108) none) pb)
  have HC:Hid (∀ w,(W.alloc (.cells #[.slice none 0 0,.int .u8 0] 108)).grownBy w (some pb)→w.cell? ⟨W.heap.size,0,none⟩=some (.slice none 0 0)∧w.cell? ⟨W.heap.size,1,none⟩=some (.int .u8 0)∧∀ j,w.frozen? ⟨W.heap.size,j,none⟩=false):=fun w g=>by
    have hn:some W.heap.size≠some pb:=fun e=>by injection e with e;omega
    have hb:=g.block W.heap.size (by simp) hn
    exact ⟨g.cell (by simp) hn,g.cell (by simp) hn,fun j=>by rw [World.frozen?_of_block hb];simp⟩
  have HVW:Hid (V.heap.size≤W.heap.size):=h.g.size
  have HF0:=Lib.hid (fun w=>MpFC (fun _=>False) w zMp (.mk 6 ((0:Nat):Int) 0 (fun _=>0) []) r ⟨0,(fun _=>0),[],none,0,rfl,by omega,rfl,Nat.le_refl _,by decide,fun h=>by simp at h,fun a ha=>by cases ha⟩ (by unfold okT okTs;exact ⟨by omega,by simp,trivial⟩) hr (fun b hb=>hb.elim))
  have HFin:Hid (∀ w1 w2 v',(W.alloc (.cells #[.slice none 0 0,.int .u8 0] 108)).grownBy w1 (some pb)→WP V w1 pb (l.drop 4) (if big=true then 0 else 1) (!big)→w1.grownBy w2 none→DMp (fun b=>False∨Fr w1 w2 b) w2 v' (forceT r (.mk 6 ((0:Nat):Int) 0 (fun _=>0) []))→∃ px nx cx rx,v'=.agg #[.slice px nx cx,.int .u8 rx]∧PrPost DMp zMp V W pb big (.ok (.mk 6 r 0 (fun _=>0) []) (l.drop 4)) (.returned (.tuple #[.agg #[.slice px nx cx,.int .u8 rx],.nilIface])) ((w2.setCell ⟨W.heap.size,0,none⟩ (.slice px nx cx)).setCell ⟨W.heap.size,1,none⟩ (.int .u8 rx))):=fun w1 w2 v' g1 hw g hd=>by
    obtain ⟨px,nx,cx,rx,rfl⟩:=DNode.form hd
    have s2:=g.size
    have s1:W.heap.size<w1.heap.size:=by have:=g1.size;simp at this;omega
    have nB:∀ b,(False∨Fr w1 w2 b)→W.heap.size<b∧b<w2.heap.size:=fun b hb=>by
      rcases hb with hb | hb
      · exact hb.elim
      · have h1:=hb.1;have h2:=hb.2;omega
    rw [force_node] at hd
    have h1:=(DNode.dk DPg.dk).keep (.set (q:=⟨W.heap.size,1,none⟩) (fun hb=>by have:=(nB _ hb).1;simp at this) (.int .u8 rx)) ((DNode.dk DPg.dk).keep (.set (q:=⟨W.heap.size,0,none⟩) (fun hb=>by have:=(nB _ hb).1;simp at this) (.slice px nx cx)) (hd.anyf (f':=fun _=>0)))
    refine ⟨px,nx,cx,rx,rfl,PrPost.ok (gt_set_r (gt_set_r (gt_trans HG.out (gt_trans g1 g (.inr (.inl rfl))) (.inl rfl)) _ _ (Nat.le_refl _)) _ _ (Nat.le_refl _)) rfl (by unfold okK okKs;simp) ?_ (((hw.kept g).put _ _ HVW.out).put _ _ HVW.out)⟩
    rw [newT_part 6 (by decide) (by decide) (by decide) r hr [] rfl]
    exact (DNode.dk DPg.dk).weak (fun b hb=>⟨by have:=(nB _ hb).1;omega,by have:=(nB _ hb).2;simpa [World.setCell] using this⟩) h1
  generalize l.drop 4=l2 at HU HFin ⊢
  clear h hl hn
  unfold zMp at *
  go_enter Tryz.func204,Tryz.ntmps204
  go_wp2_with (first
    | (go_at_call 198;refine HU.out.mono ?_;rintro e w1 ⟨rfl,hw1,hg1⟩;have HW1:=Lib.hid hw1;clear hw1;obtain ⟨r0,r1,rf⟩:=HC.out _ hg1;have rf0:=rf 0;have rf1:=rf 1)
    | (go_at_call 114;refine (HF0.out _).mono ?_;rintro e w2 ⟨v',rfl,hd,hg2⟩;obtain ⟨px,nx,cx,rx,rfl,hmp⟩:=HFin.out _ _ _ hg1 HW1.out hg2 hd;have HMP:=Lib.hid hmp;clear hmp hd;obtain ⟨x0,x1,xf⟩:=HC.out _ (gt_trans hg1 hg2 (.inr (.inl rfl)));have f0:=xf 0;have f1:=xf 1))
  refine bodyPost_ret (by simp [results,Tryz.results204,go_sem,x0,x1];try rfl) rfl ?_
  exact HMP.out
theorem parseMp_any (h:Nat) (ih:InC h) (V W:World) (pb r:Nat) (big:Bool) (l:List UInt8) (hr:r<4) (hG:rdK 6 h r big l≠.bad true) (hS:∀ t l',rdK 6 h r big l=.ok t l'→wt t≤2000) (hSm:∀ n l2,rdC big l=.ok n l2→∀ k lk ts,k<n→Rest (rdG true h (-1)) n l2 k lk ts→Sm h lk) (hw:WP V W pb l (if big=true then 0 else 1) (!big)) :
    Calls Tryz.prog 204 #[.pointer (some ⟨pb,0,none⟩),.int .u8 r] W (PrPost DMp zMp V W pb big (rdK 6 h r big l)):=by
  by_cases h4:l.length<4
  · have hR:rdK 6 h r big l=.bad false:=by
      unfold rdK rdC rdN
      rw [if_pos h4];rfl
    refine (parseMp_short V W pb r _ _ l h4 hw).mono fun e w' ⟨⟨ty,x,he⟩,hg⟩=>?_
    subst he
    exact PrPost.bad hg (fun t l' e=>by rw [hR] at e;cases e)
  have hC:rdC big l=if 4096<numL big (l.take 4) then .bad true else .ok (numL big (l.take 4)) (l.drop 4):=by
    unfold rdC rdN
    rw [if_neg h4];rfl
  by_cases h5:4096<numL big (l.take 4)
  · refine absurd ?_ hG
    unfold rdK
    rw [hC,if_pos h5];rfl
  rw [if_neg h5] at hC
  have hP:rdK 6 h r big l=(rdL (rdG true h (-1)) (numL big (l.take 4)) (l.drop 4)).bind fun ts l3=>.ok (.mk 6 r 0 (fun _=>0) ts) l3:=by
    unfold rdK
    rw [hC];rfl
  by_cases h0:numL big (l.take 4)=0
  · rw [hP,h0]
    exact parseMp_none V W pb r big l hr (by omega) h0 hw
  have hSm2:=hSm _ _ hC
  rw [hP] at hG hS ⊢
  refine parseMp_some h ih V W pb r _ big l hr (by omega) rfl (by omega) (by omega) (fun e=>hG (by rw [e];rfl)) (fun ts l' e=>hS _ l' (by rw [e];rfl)) hSm2 hw
end
end Go.Proofs.YtlpaecafpbbbkaaGreatDoor
