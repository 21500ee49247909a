/- The package's reader of well known binary: bytes turned about, eight by eight. The package's reader of well known binary: lines. The package's reader of well known binary: lines whose greatest bytes come first. -/
import Derived.BigRegion
import Derived.RegionTactic
import Derived.Test.YtlpaecafpbbbkaaGreatDoorBYT13
import Derived.Test.YtlpaecafpbbbkaaGreatDoorBYT21
set_option linter.unusedVariables false
set_option linter.unusedSimpArgs false
set_option maxRecDepth 100000
set_option maxHeartbeats 24000000
namespace Go.Proofs.YtlpaecafpbbbkaaGreatDoor
section
open Go.RowKit
def bcs (bs:List UInt8):List Value:=bs.map fun b=>.int .u8 b.toNat
def BB (base:Nat) (w:World) (g M:Nat) (bs:List UInt8):Prop:=w.ownsRow base 5 1 (.slice (some ⟨g,0,none⟩) M M) M (bcs bs)
theorem BB.len {base:Nat} {w:World} {g M:Nat} {bs:List UInt8} (h:BB base w g M bs):bs.length=M:=by
  have:(bcs bs).length=M*1:=h.1
  unfold bcs at this
  simpa using this
theorem BB.cell {base:Nat} {w:World} {g M:Nat} {bs:List UInt8} (h:BB base w g M bs) (i:Nat) (b:UInt8) (hi:bs[i]?=some b):w.cell? ⟨g,i,none⟩=some (.int .u8 b.toNat):=by
  have hl:=h.len
  have hlt:=(List.getElem?_eq_some_iff.1 hi).1
  rw [World.ownsRow.cellAt h i (by omega)]
  unfold bcs
  rw [List.getElem?_map,hi]
  rfl
theorem BB.put {base:Nat} {w:World} {g M:Nat} {bs:List UInt8} (h:BB base w g M bs) (i:Nat) (b:UInt8):BB base (w.setCell ⟨g,i,none⟩ (.int .u8 b.toNat)) g M (bs.set i b):=by
  have:=(World.ownsRow.stored h i (.int .u8 b.toNat)).1
  unfold BB
  have e:bcs (bs.set i b)=(bcs bs).set i (.int .u8 b.toNat):=by unfold bcs;rw [List.map_set]
  rw [e]
  exact this
theorem BB.fz {base:Nat} {w:World} {g M:Nat} {bs:List UInt8} (h:BB base w g M bs) (j:Nat):w.frozen? ⟨g,j,none⟩=false:=World.ownsRow.frozenAt h j
theorem BB.drew {base:Nat} {w:World} {g M:Nat} {bs:List UInt8} (h:BB base w g M bs):BB base w.drew g M bs:=World.ownsRow.kept h (gt_drew_r (gt_refl w none)) (by simp [Value.ownBlock])
theorem BB.lt {base:Nat} {w:World} {g M:Nat} {bs:List UInt8} (h:BB base w g M bs):base≤g∧g<w.heap.size:=World.ownsRow.lt h g rfl
def swapB (bs:List UInt8) (i j:Nat) (bi bj:UInt8):List UInt8:=(bs.set i bj).set j bi
theorem swapB_at {bs:List UInt8} {i j:Nat} {bi bj:UInt8} (hi:bs[i]?=some bi) (hj:bs[j]?=some bj) (x:Nat):(swapB bs i j bi bj)[x]?=if x=j then some bi else if x=i then some bj else bs[x]?:=by
  have h1:=(List.getElem?_eq_some_iff.1 hi).1
  have h2:=(List.getElem?_eq_some_iff.1 hj).1
  unfold swapB
  by_cases hx:x=j
  · subst hx
    rw [if_pos rfl]
    exact List.getElem?_set_self (by rw [List.length_set];exact h2)
  · rw [if_neg hx,List.getElem?_set_ne (fun e=>hx e.symm)]
    by_cases hx2:x=i
    · subst hx2
      rw [if_pos rfl]
      exact List.getElem?_set_self h1
    · rw [if_neg hx2,List.getElem?_set_ne (fun e=>hx2 e.symm)]
theorem swapB_len (bs:List UInt8) (i j:Nat) (bi bj:UInt8):(swapB bs i j bi bj).length=bs.length:=by simp [swapB]
def Turned (l bs:List UInt8) (k:Nat):Prop:=bs.length=l.length∧∀ i,bs[i]?=if i<8*k then l[8*(i / 8)+7 - i % 8]? else l[i]?
theorem Turned.next {l bs:List UInt8} {k:Nat} (h:Turned l bs k) {b0 b1 b2 b3 b4 b5 b6 b7:UInt8} (h0:bs[8*k]?=some b0) (h1:bs[8*k+1]?=some b1) (h2:bs[8*k+2]?=some b2) (h3:bs[8*k+3]?=some b3) (h4:bs[8*k+4]?=some b4) (h5:bs[8*k+5]?=some b5) (h6:bs[8*k+6]?=some b6) (h7:bs[8*k+7]?=some b7) :
    Turned l (swapB (swapB (swapB (swapB bs (8*k) (8*k+7) b0 b7) (8*k+1) (8*k+6) b1 b6) (8*k+2) (8*k+5) b2 b5) (8*k+3) (8*k+4) b3 b4) (k+1):=by
  have a0:=swapB_at h0 h7
  have g1:(swapB bs (8*k) (8*k+7) b0 b7)[8*k+1]?=some b1:=by rw [a0,if_neg (by omega),if_neg (by omega)];exact h1
  have g6:(swapB bs (8*k) (8*k+7) b0 b7)[8*k+6]?=some b6:=by rw [a0,if_neg (by omega),if_neg (by omega)];exact h6
  have a1:=swapB_at g1 g6
  have g2:(swapB (swapB bs (8*k) (8*k+7) b0 b7) (8*k+1) (8*k+6) b1 b6)[8*k+2]?=some b2:=by rw [a1,if_neg (by omega),if_neg (by omega),a0,if_neg (by omega),if_neg (by omega)];exact h2
  have g5:(swapB (swapB bs (8*k) (8*k+7) b0 b7) (8*k+1) (8*k+6) b1 b6)[8*k+5]?=some b5:=by rw [a1,if_neg (by omega),if_neg (by omega),a0,if_neg (by omega),if_neg (by omega)];exact h5
  have a2:=swapB_at g2 g5
  have g3:(swapB (swapB (swapB bs (8*k) (8*k+7) b0 b7) (8*k+1) (8*k+6) b1 b6) (8*k+2) (8*k+5) b2 b5)[8*k+3]?=some b3:=by rw [a2,if_neg (by omega),if_neg (by omega),a1,if_neg (by omega),if_neg (by omega),a0,if_neg (by omega),if_neg (by omega)];exact h3
  have g4:(swapB (swapB (swapB bs (8*k) (8*k+7) b0 b7) (8*k+1) (8*k+6) b1 b6) (8*k+2) (8*k+5) b2 b5)[8*k+4]?=some b4:=by rw [a2,if_neg (by omega),if_neg (by omega),a1,if_neg (by omega),if_neg (by omega),a0,if_neg (by omega),if_neg (by omega)];exact h4
  have a3:=swapB_at g3 g4
  obtain ⟨hl,hb⟩:=h
  refine ⟨by simp only [swapB_len];exact hl,fun i=>?_⟩
  have hat:∀ o b,o<8→bs[8*k+o]?=some b→l[8*k+o]?=some b:=fun o b ho e=>by rw [hb,if_neg (by omega)] at e;exact e
  rw [a3,a2,a1,a0]
  by_cases hlow:i<8*k
  · rw [if_neg (by omega),if_neg (by omega),if_neg (by omega),if_neg (by omega),if_neg (by omega),if_neg (by omega),if_neg (by omega),if_neg (by omega),hb,if_pos hlow,if_pos (by omega)]
  · by_cases hhi:i<8*(k+1)
    · rw [if_pos hhi]
      have hd:i / 8=k:=by omega
      have hc:i % 8=0∨i % 8=1∨i % 8=2∨i % 8=3∨i % 8=4∨i % 8=5∨i % 8=6∨i % 8=7:=by omega
      rw [hd]
      rcases hc with hc | hc | hc | hc | hc | hc | hc | hc
      · obtain rfl:i=8*k:=by omega
        rw [hc,if_neg (by omega),if_neg (by omega),if_neg (by omega),if_neg (by omega),if_neg (by omega),if_neg (by omega),if_neg (by omega),if_pos rfl]
        exact (hat 7 b7 (by omega) h7).symm
      · obtain rfl:i=8*k+1:=by omega
        rw [hc,if_neg (by omega),if_neg (by omega),if_neg (by omega),if_neg (by omega),if_neg (by omega),if_pos rfl]
        exact (hat 6 b6 (by omega) h6).symm
      · obtain rfl:i=8*k+2:=by omega
        rw [hc,if_neg (by omega),if_neg (by omega),if_neg (by omega),if_pos rfl]
        exact (hat 5 b5 (by omega) h5).symm
      · obtain rfl:i=8*k+3:=by omega
        rw [hc,if_neg (by omega),if_pos rfl]
        exact (hat 4 b4 (by omega) h4).symm
      · obtain rfl:i=8*k+4:=by omega
        rw [hc,if_pos rfl]
        exact (hat 3 b3 (by omega) h3).symm
      · obtain rfl:i=8*k+5:=by omega
        rw [hc,if_neg (by omega),if_neg (by omega),if_pos rfl]
        exact (hat 2 b2 (by omega) h2).symm
      · obtain rfl:i=8*k+6:=by omega
        rw [hc,if_neg (by omega),if_neg (by omega),if_neg (by omega),if_neg (by omega),if_pos rfl]
        exact (hat 1 b1 (by omega) h1).symm
      · obtain rfl:i=8*k+7:=by omega
        rw [hc,if_neg (by omega),if_neg (by omega),if_neg (by omega),if_neg (by omega),if_neg (by omega),if_neg (by omega),if_pos rfl]
        exact (hat 0 b0 (by omega) h0).symm
    · rw [if_neg hhi,if_neg (by omega),if_neg (by omega),if_neg (by omega),if_neg (by omega),if_neg (by omega),if_neg (by omega),if_neg (by omega),if_neg (by omega),hb,if_neg hlow]
theorem flip_any (W:World) (base g M N:Nat) (l:List UInt8) (hM:M=8*N) (hN:N≤100000) (h:BB base W g M l) :
    Calls Tryz.prog 244 #[.slice (some ⟨g,0,none⟩) M M] W fun e w'=>e=.returned (.tuple #[])∧(∃ bs,BB base w' g M bs∧Turned l bs N)∧W.grownBy w' (some g):=by
  have hT0:Turned l l 0:=⟨rfl,fun i=>by rw [if_neg (by omega)]⟩
  have HT0:=Lib.hid hT0
  have H0:=Lib.hid h
  have hll:=h.len
  have HM:=Lib.hid hM
  clear h hT0 hM
  go_enter Tryz.func244,Tryz.ntmps244
  go_wp2_with fail
  go_loopw [2] (fun i wr=>∃ (k:Nat) (bs:List UInt8),k≤N∧i=.int .i64 (8*k:Nat)∧W.grownBy wr (some g)∧BB base wr g M bs∧Turned l bs k) (fun i _=>M - (intOf i).toNat)
  case atStart=>exact ⟨0,l,by omega,rfl,gt_refl _ _,H0.out,HT0.out⟩
  case round =>
    obtain ⟨k,bs,hk,rfl,Gr,hbb,ht⟩:=hrel
    rename World=>wr
    by_cases hkL:k<N
    · have hM:=HM.out
      have hlen:=hbb.len
      have ex:∀ o,o<8→∃ b,bs[8*k+o]?=some b:=fun o ho=>⟨_,List.getElem?_eq_getElem (by omega)⟩
      obtain ⟨b0,e0⟩:=ex 0 (by omega)
      obtain ⟨b1,e1⟩:=ex 1 (by omega)
      obtain ⟨b2,e2⟩:=ex 2 (by omega)
      obtain ⟨b3,e3⟩:=ex 3 (by omega)
      obtain ⟨b4,e4⟩:=ex 4 (by omega)
      obtain ⟨b5,e5⟩:=ex 5 (by omega)
      obtain ⟨b6,e6⟩:=ex 6 (by omega)
      obtain ⟨b7,e7⟩:=ex 7 (by omega)
      rw [Nat.add_zero] at e0
      have HN:=Lib.hid (ht.next e0 e1 e2 e3 e4 e5 e6 e7)
      have a0:=swapB_at e0 e7
      have g1:(swapB bs (8*k) (8*k+7) b0 b7)[8*k+1]?=some b1:=by rw [a0,if_neg (by omega),if_neg (by omega)];exact e1
      have g6:(swapB bs (8*k) (8*k+7) b0 b7)[8*k+6]?=some b6:=by rw [a0,if_neg (by omega),if_neg (by omega)];exact e6
      have a1:=swapB_at g1 g6
      have g2:(swapB (swapB bs (8*k) (8*k+7) b0 b7) (8*k+1) (8*k+6) b1 b6)[8*k+2]?=some b2:=by rw [a1,if_neg (by omega),if_neg (by omega),a0,if_neg (by omega),if_neg (by omega)];exact e2
      have g5:(swapB (swapB bs (8*k) (8*k+7) b0 b7) (8*k+1) (8*k+6) b1 b6)[8*k+5]?=some b5:=by rw [a1,if_neg (by omega),if_neg (by omega),a0,if_neg (by omega),if_neg (by omega)];exact e5
      have a2:=swapB_at g2 g5
      have g3:(swapB (swapB (swapB bs (8*k) (8*k+7) b0 b7) (8*k+1) (8*k+6) b1 b6) (8*k+2) (8*k+5) b2 b5)[8*k+3]?=some b3:=by rw [a2,if_neg (by omega),if_neg (by omega),a1,if_neg (by omega),if_neg (by omega),a0,if_neg (by omega),if_neg (by omega)];exact e3
      have g4:(swapB (swapB (swapB bs (8*k) (8*k+7) b0 b7) (8*k+1) (8*k+6) b1 b6) (8*k+2) (8*k+5) b2 b5)[8*k+4]?=some b4:=by rw [a2,if_neg (by omega),if_neg (by omega),a1,if_neg (by omega),if_neg (by omega),a0,if_neg (by omega),if_neg (by omega)];exact e4
      have E0:=Lib.hid e0
      have E7:=Lib.hid e7
      have G1':=Lib.hid g1
      have G6':=Lib.hid g6
      have G2':=Lib.hid g2
      have G5':=Lib.hid g5
      have G3':=Lib.hid g3
      have G4':=Lib.hid g4
      have HB0:=Lib.hid hbb
      clear ex e0 e1 e2 e3 e4 e5 e6 e7 ht hbb a0 a1 a2 g1 g2 g3 g4 g5 g6
      obtain ⟨j,hj⟩ : ∃ j,j=8*k:=⟨_,rfl⟩
      rw [←hj] at E0 E7 G1' G6' G2' G5' G3' G4' HN ⊢
      have hjM:(j:Int)+7<(M:Int):=by omega
      have hjl:(j:Int)<(M:Int):=by omega
      have hj0:(0:Int)≤(j:Int):=by omega
      obtain ⟨i1,hi1⟩ : ∃ i,i=j+1:=⟨_,rfl⟩
      have p1:(0:Int)≤(i1:Int):=by omega
      have l1:(i1:Int)<(M:Int):=by omega
      have V1:Hid (IntKind.i64.wrap ((j:Int)+1)=(i1:Int)):=by show IntKind.i64.wrap ((j:Int)+1)=(i1:Int);rw [IntKind.wrap_i64];omega
      have HI1:=Lib.hid hi1
      clear hi1
      obtain ⟨i2,hi2⟩ : ∃ i,i=j+2:=⟨_,rfl⟩
      have p2:(0:Int)≤(i2:Int):=by omega
      have l2:(i2:Int)<(M:Int):=by omega
      have V2:Hid (IntKind.i64.wrap ((j:Int)+2)=(i2:Int)):=by show IntKind.i64.wrap ((j:Int)+2)=(i2:Int);rw [IntKind.wrap_i64];omega
      have HI2:=Lib.hid hi2
      clear hi2
      obtain ⟨i3,hi3⟩ : ∃ i,i=j+3:=⟨_,rfl⟩
      have p3:(0:Int)≤(i3:Int):=by omega
      have l3:(i3:Int)<(M:Int):=by omega
      have V3:Hid (IntKind.i64.wrap ((j:Int)+3)=(i3:Int)):=by show IntKind.i64.wrap ((j:Int)+3)=(i3:Int);rw [IntKind.wrap_i64];omega
      have HI3:=Lib.hid hi3
      clear hi3
      obtain ⟨i4,hi4⟩ : ∃ i,i=j+4:=⟨_,rfl⟩
      have p4:(0:Int)≤(i4:Int):=by omega
      have l4:(i4:Int)<(M:Int):=by omega
      have V4:Hid (IntKind.i64.wrap ((j:Int)+4)=(i4:Int)):=by show IntKind.i64.wrap ((j:Int)+4)=(i4:Int);rw [IntKind.wrap_i64];omega
      have HI4:=Lib.hid hi4
      clear hi4
      obtain ⟨i5,hi5⟩ : ∃ i,i=j+5:=⟨_,rfl⟩
      have p5:(0:Int)≤(i5:Int):=by omega
      have l5:(i5:Int)<(M:Int):=by omega
      have V5:Hid (IntKind.i64.wrap ((j:Int)+5)=(i5:Int)):=by show IntKind.i64.wrap ((j:Int)+5)=(i5:Int);rw [IntKind.wrap_i64];omega
      have HI5:=Lib.hid hi5
      clear hi5
      obtain ⟨i6,hi6⟩ : ∃ i,i=j+6:=⟨_,rfl⟩
      have p6:(0:Int)≤(i6:Int):=by omega
      have l6:(i6:Int)<(M:Int):=by omega
      have V6:Hid (IntKind.i64.wrap ((j:Int)+6)=(i6:Int)):=by show IntKind.i64.wrap ((j:Int)+6)=(i6:Int);rw [IntKind.wrap_i64];omega
      have HI6:=Lib.hid hi6
      clear hi6
      obtain ⟨i7,hi7⟩ : ∃ i,i=j+7:=⟨_,rfl⟩
      have p7:(0:Int)≤(i7:Int):=by omega
      have l7:(i7:Int)<(M:Int):=by omega
      have V7:Hid (IntKind.i64.wrap ((j:Int)+7)=(i7:Int)):=by show IntKind.i64.wrap ((j:Int)+7)=(i7:Int);rw [IntKind.wrap_i64];omega
      have HI7:=Lib.hid hi7
      clear hi7
      have HJ:=Lib.hid hj
      have w0j:IntKind.i64.wrap (j:Int)=(j:Int):=by rw [IntKind.wrap_i64];omega
      have V0:=Lib.hid w0j
      have w8i:IntKind.i64.wrap ((j:Int)+8)=((8*(k+1):Nat):Int):=by rw [IntKind.wrap_i64];omega
      have w8j:wrap64 ((j:Int)+8)=((8*(k+1):Nat):Int):=(IntWalk.i64_left _).symm.trans w8i
      have V8:=Lib.hid w8j
      clear hj hM w0j w8j w8i hjM
      go_wp2_with fail
      have c0:wr.cell? ⟨g,j,none⟩=some (.int .u8 b0.toNat):=by exact HB0.out.cell _ _ E0.out
      have c7:wr.cell? ⟨g,i7,none⟩=some (.int .u8 b7.toNat):=by rw [HI7.out];exact HB0.out.cell _ _ E7.out
      have f0:=HB0.out.fz j
      have f7:=HB0.out.fz i7
      have v0:=V0.out
      have v7:=V7.out
      have hne:¬ j=i7:=by have:=HI7.out;omega
      have hne':¬ i7=j:=fun e=>hne e.symm
      go_region
      clear v0 v7 hne hne' c0 c7 f0 f7
      have hb1:=((HB0.out.put (j) b7).put (i7) b0).drew
      have G1:W.grownBy ((wr.setCell ⟨g,j,none⟩ (.int .u8 b7.toNat)).setCell ⟨g,i7,none⟩ (.int .u8 b0.toNat)).drew (some g):=gt_drew_r (gt_trans Gr (gt_trans (grown_set wr ⟨g,j,none⟩ (.int .u8 b7.toNat)) (grown_set _ ⟨g,i7,none⟩ (.int .u8 b0.toNat)) (.inl rfl)) (.inl rfl))
      generalize ((wr.setCell ⟨g,j,none⟩ (.int .u8 b7.toNat)).setCell ⟨g,i7,none⟩ (.int .u8 b0.toNat)).drew=wr1 at hb1 G1 ⊢
      rw [HI7.out] at hb1
      have HB1:=Lib.hid hb1
      have Gr1:=G1
      clear hb1 G1
      go_wp2_with fail
      have c1:wr1.cell? ⟨g,i1,none⟩=some (.int .u8 b1.toNat):=by rw [HI1.out];exact HB1.out.cell _ _ G1'.out
      have c6:wr1.cell? ⟨g,i6,none⟩=some (.int .u8 b6.toNat):=by rw [HI6.out];exact HB1.out.cell _ _ G6'.out
      have f1:=HB1.out.fz i1
      have f6:=HB1.out.fz i6
      have v1:=V1.out
      have v6:=V6.out
      have hne:¬ i1=i6:=by have:=HI1.out;have:=HI6.out;omega
      have hne':¬ i6=i1:=fun e=>hne e.symm
      go_region
      clear v1 v6 hne hne' c1 c6 f1 f6
      have hb2:=((HB1.out.put (i1) b6).put (i6) b1).drew
      have G2:W.grownBy ((wr1.setCell ⟨g,i1,none⟩ (.int .u8 b6.toNat)).setCell ⟨g,i6,none⟩ (.int .u8 b1.toNat)).drew (some g):=gt_drew_r (gt_trans Gr1 (gt_trans (grown_set wr1 ⟨g,i1,none⟩ (.int .u8 b6.toNat)) (grown_set _ ⟨g,i6,none⟩ (.int .u8 b1.toNat)) (.inl rfl)) (.inl rfl))
      generalize ((wr1.setCell ⟨g,i1,none⟩ (.int .u8 b6.toNat)).setCell ⟨g,i6,none⟩ (.int .u8 b1.toNat)).drew=wr2 at hb2 G2 ⊢
      rw [HI1.out] at hb2
      rw [HI6.out] at hb2
      have HB2:=Lib.hid hb2
      have Gr2:=G2
      clear hb2 G2
      go_wp2_with fail
      have c2:wr2.cell? ⟨g,i2,none⟩=some (.int .u8 b2.toNat):=by rw [HI2.out];exact HB2.out.cell _ _ G2'.out
      have c5:wr2.cell? ⟨g,i5,none⟩=some (.int .u8 b5.toNat):=by rw [HI5.out];exact HB2.out.cell _ _ G5'.out
      have f2:=HB2.out.fz i2
      have f5:=HB2.out.fz i5
      have v2:=V2.out
      have v5:=V5.out
      have hne:¬ i2=i5:=by have:=HI2.out;have:=HI5.out;omega
      have hne':¬ i5=i2:=fun e=>hne e.symm
      go_region
      clear v2 v5 hne hne' c2 c5 f2 f5
      have hb3:=((HB2.out.put (i2) b5).put (i5) b2).drew
      have G3:W.grownBy ((wr2.setCell ⟨g,i2,none⟩ (.int .u8 b5.toNat)).setCell ⟨g,i5,none⟩ (.int .u8 b2.toNat)).drew (some g):=gt_drew_r (gt_trans Gr2 (gt_trans (grown_set wr2 ⟨g,i2,none⟩ (.int .u8 b5.toNat)) (grown_set _ ⟨g,i5,none⟩ (.int .u8 b2.toNat)) (.inl rfl)) (.inl rfl))
      generalize ((wr2.setCell ⟨g,i2,none⟩ (.int .u8 b5.toNat)).setCell ⟨g,i5,none⟩ (.int .u8 b2.toNat)).drew=wr3 at hb3 G3 ⊢
      rw [HI2.out] at hb3
      rw [HI5.out] at hb3
      have HB3:=Lib.hid hb3
      have Gr3:=G3
      clear hb3 G3
      go_wp2_with fail
      have c3:wr3.cell? ⟨g,i3,none⟩=some (.int .u8 b3.toNat):=by rw [HI3.out];exact HB3.out.cell _ _ G3'.out
      have c4:wr3.cell? ⟨g,i4,none⟩=some (.int .u8 b4.toNat):=by rw [HI4.out];exact HB3.out.cell _ _ G4'.out
      have f3:=HB3.out.fz i3
      have f4:=HB3.out.fz i4
      have v3:=V3.out
      have v4:=V4.out
      have hne:¬ i3=i4:=by have:=HI3.out;have:=HI4.out;omega
      have hne':¬ i4=i3:=fun e=>hne e.symm
      go_region
      clear v3 v4 hne hne' c3 c4 f3 f4
      have hb4:=((HB3.out.put (i3) b4).put (i4) b3).drew
      have G4:W.grownBy ((wr3.setCell ⟨g,i3,none⟩ (.int .u8 b4.toNat)).setCell ⟨g,i4,none⟩ (.int .u8 b3.toNat)).drew (some g):=gt_drew_r (gt_trans Gr3 (gt_trans (grown_set wr3 ⟨g,i3,none⟩ (.int .u8 b4.toNat)) (grown_set _ ⟨g,i4,none⟩ (.int .u8 b3.toNat)) (.inl rfl)) (.inl rfl))
      generalize ((wr3.setCell ⟨g,i3,none⟩ (.int .u8 b4.toNat)).setCell ⟨g,i4,none⟩ (.int .u8 b3.toNat)).drew=wr4 at hb4 G4 ⊢
      rw [HI3.out] at hb4
      rw [HI4.out] at hb4
      have HB4:=Lib.hid hb4
      have Gr4:=G4
      clear hb4 G4
      go_wp2_with fail
      rw [V8.out]
      refine ⟨⟨k+1,_,by omega,rfl,Gr4,HB4.out,?_⟩,?_⟩
      · have:=HN.out
        unfold swapB at this
        exact this
      · have:=HJ.out
        simp [intOf]
        omega
    · obtain rfl:k=N:=by omega
      have hM:=HM.out
      have hge:¬ ((8*k:Nat):Int)<(M:Int):=by omega
      have HB:=Lib.hid hbb
      have HT:=Lib.hid ht
      clear hM hbb ht
      go_wp2_with fail
      go_wp2_with fail
      first | (go_ret;exact ⟨rfl,⟨_,HB.out,HT.out⟩,Gr⟩) | (go_returns;exact ⟨rfl,⟨_,HB.out,HT.out⟩,Gr⟩) | exact bodyPost_ret (by simp [results,Tryz.results244,go_sem];try rfl) rfl ⟨rfl,⟨_,HB.out,HT.out⟩,Gr⟩
end
section
open Go.RowKit
theorem BV.take {W:World} {pb:Nat} {p:Option Addr} {n c:Nat} {l:List UInt8} (h:BV W pb (.slice p n c) l) (k:Nat) (hk:k≤n):BV W pb (sliced p 0 k c 1) (l.take k):=by
  obtain ⟨p',c',e,h1,h2,h3,h4⟩:=h.ex
  injection e with e1 e2 e3
  subst e1 e2 e3
  have hl:(l.take k).length=k:=by rw [List.length_take];omega
  unfold sliced
  by_cases hc:c=0
  · refine ⟨_,c - 0,by rw [if_pos hc,hl];rfl,by rw [hl];omega,by omega,fun _=>by omega,fun h0=>?_⟩
    rw [hl] at h0
    omega
  · refine ⟨_,c - 0,by rw [if_neg hc,hl];rfl,by rw [hl];omega,by omega,fun hn=>?_,fun h0=>?_⟩
    · cases p with
      | none=>have:=h3 rfl;omega
      | some a=>cases hn
    · rw [hl] at h0
      obtain ⟨b,o,ep,hb,hcl⟩:=h4 (by omega)
      refine ⟨b,o,by rw [ep];simp [Addr.add],hb,fun i u hi=>?_⟩
      rw [List.getElem?_take] at hi
      split at hi
      · exact hcl i u hi
      · cases hi
def Cuts2 (V:World) (z:Int) (pb M L:Nat) (l:List UInt8) (p:Option Addr) (c:Nat):Prop:=∃ ps cs pd nd cd,(∀ w,(Instr.slice 39 (.slice p L c) none (some (.int .i64 z)) none).run Tryz.prog w=.ok (.slice ps M cs) w)∧BV V pb (.slice ps M cs) (l.take M)∧(∀ w,(Instr.slice 39 (.slice p L c) (some (.int .i64 z)) none none).run Tryz.prog w=.ok (.slice pd nd cd) w)∧BZ V pb (.slice pd nd cd) (l.drop M)
theorem Cuts2.of {V:World} {z:Int} {pb M L:Nat} {l:List UInt8} {p:Option Addr} {c:Nat} (h:BZ V pb (.slice p L c) l) (hM:M≤L) (hz:z=(M:Int)):Cuts2 V z pb M L l p c:=by
  have hLc:L≤c:=by
    obtain ⟨p',c',e,h1,_⟩:=h.ex
    injection e with e1 e2 e3
    omega
  have ht:=h.toBV.take M hM
  have hd:=h.drop M hM
  obtain ⟨ps,ns,cs,hxs⟩ : ∃ ps ns cs,sliced p 0 M c 1=.slice ps ns cs:=⟨_,_,_,rfl⟩
  obtain ⟨pd,nd,cd,hxd⟩ : ∃ pd nd cd,sliced p M L c 1=.slice pd nd cd:=⟨_,_,_,rfl⟩
  have hns:ns=M:=by
    unfold sliced at hxs
    injection hxs with e1 e2 e3
    omega
  subst hns
  rw [hxs] at ht
  rw [hxd] at hd
  subst hz
  refine ⟨ps,cs,pd,nd,cd,fun w=>?_,ht,fun w=>?_,hd⟩
  · rw [run_slice_h _ _ _ _ _ Tryz.underlying39 .i64 (ns:Int) (by omega) (by omega),Int.toNat_natCast,←hxs]
    rfl
  · rw [run_slice_l _ _ _ _ _ Tryz.underlying39 .i64 (ns:Int) (by omega) (by omega),Int.toNat_natCast,←hxd]
    rfl
theorem parseLS_short (V W:World) (pb r o:Nat) (no:Bool) (l:List UInt8) (hl:l.length<4) (h:WP V W pb l o no):Calls Tryz.prog 200 #[.pointer (some ⟨pb,0,none⟩),.int .u8 r] W fun e w'=>(∃ ty x,e=.returned (.tuple #[.agg #[.int .u8 0,.slice none 0 0],.iface ty x]))∧W.grownBy w' (some pb):=by
  have hpb:=h.lt
  have HU:=Lib.hid (parseU32_bad V _ pb o no l hl (h.kept (World.grownBy_alloc W (.cells #[.int .u8 0,.slice none 0 0] 93) none)))
  have HG:=Lib.hid (gt_some (World.grownBy_alloc W (.cells #[.int .u8 0,.slice none 0 0] 93) none) pb)
  have HC:Hid (∀ w,(W.alloc (.cells #[.int .u8 0,.slice none 0 0] 93)).grownBy w (some pb)→w.cell? ⟨W.heap.size,0,none⟩=some (.int .u8 0)∧w.cell? ⟨W.heap.size,1,none⟩=some (.slice none 0 0)∧∀ j,w.frozen? ⟨W.heap.size,j,none⟩=false):=fun w g=>by
    have hn:some W.heap.size≠some pb:=fun e=>by injection e with e;omega
    have hb:=g.block W.heap.size (by simp) hn
    exact ⟨g.cell (by simp) hn,g.cell (by simp) hn,fun j=>by rw [World.frozen?_of_block hb];simp⟩
  clear h
  go_enter Tryz.func200,Tryz.ntmps200
  go_wp2_with (first
    | (go_at_call 198;refine HU.out.mono ?_;rintro e w1 ⟨⟨ty,x,rfl⟩,hg1⟩;obtain ⟨r0,r1,rf⟩:=HC.out _ hg1;have rf0:=rf 0;have rf1:=rf 1))
  refine bodyPost_ret (by simp [results,Tryz.results200,go_sem,r0,r1];try rfl) rfl ?_
  exact ⟨⟨_,_,rfl⟩,gt_set_r (gt_set_r (gt_trans HG.out hg1 (.inl rfl)) _ _ (Nat.le_refl _)) _ _ (Nat.le_refl _)⟩
theorem gt_part {a b c:World} {r:Option Nat} {B:Nat} (h:a.grownBy b r) (k:Below B b c) (hB:a.heap.size≤B):a.grownBy c r :=
  ⟨k.os.trans h.os,k.tape.trans h.tape,k.output.trans h.output,Nat.le_trans h.size k.size,fun i hi hne=>(k.block i (Nat.lt_of_lt_of_le hi hB)).trans (h.block i hi hne)⟩
theorem WP.below {V W w:World} {pb B:Nat} {l:List UInt8} {o:Nat} {no:Bool} (h:WP V W pb l o no) (k:Below B W w) (hp:pb<B) (hV:V.heap.size≤B):WP V w pb l o no:=by
  obtain ⟨x,hx,hv⟩:=h.x
  exact ⟨gt_part h.g k hV,h.blt,⟨x,(k.cell (p:=⟨pb,0,none⟩) hp).trans hx,hv⟩,(k.cell (p:=⟨pb,1,none⟩) hp).trans h.c1,(k.cell (p:=⟨pb,2,none⟩) hp).trans h.c2,fun j=>(k.frozen (p:=⟨pb,j,none⟩) hp).trans (h.fz j)⟩
theorem FlB.heap {base:Nat} {w:World} {g n:Nat} {f:Nat→Nat} (h:FlB base w g n n f):∀ j v,(flC f n)[j]?=some v→w.cell? ((⟨g,0,none⟩ : Addr).add j)=some v:=fun j v hj=>by
  obtain ⟨cs,h1,h2⟩:=h
  have hlt:=(List.getElem?_eq_some_iff.1 hj).1
  rw [flC_len] at hlt
  rw [flC_at f n j hlt] at hj
  rw [addr0,h1.cellAt j (by have:cs.length=n*1:=h1.1;omega),h2 j hlt]
  exact hj
theorem splice_all (cur cs:List Value) (h:cur.length=cs.length):splice cur 0 cs=cs:=by simp [splice,←h]
theorem fval_of_heap {w:World} {g n:Nat} {f:Nat→Nat} {cur:List Value} (hc:cur.length=n) (hg:w.heap[g]?=some (.cells (splice cur 0 (flC f n)).toArray 26 (0,0))) (hf:∀ i,f i<18446744073709551616):FVal w (some ⟨g,0,none⟩) n f:=by
  refine ⟨fun _=>⟨_,rfl⟩,fun a ha i hi=>?_,hf⟩
  injection ha with ha
  subst ha
  rw [splice_all _ _ (by rw [flC_len];exact hc)] at hg
  have hci:=flC_at f n i hi
  rw [addr0]
  simp [World.cell?,hg,hci]
theorem parseLS_le (V W:World) (pb r k n N:Nat) (l:List UInt8) (hr:r<4) (hk:widN r=k) (hl:4≤l.length) (hn:numL false (l.take 4)=n) (hn2:n≤4096) (hN:N=n*k) (hlen:8*N≤l.length - 4) (h:WP V W pb l 1 true) :
    Calls Tryz.prog 200 #[.pointer (some ⟨pb,0,none⟩),.int .u8 r] W fun e w'=>∃ g,e=.returned (.tuple #[.agg #[.int .u8 r,.slice (some ⟨g,0,none⟩) N N],.nilIface])∧FVal w' (some ⟨g,0,none⟩) N (fOf (numsOf false N (l.drop 4)))∧(W.heap.size≤g∧g<w'.heap.size)∧WP V w' pb ((l.drop 4).drop (8*N)) 1 true∧W.grownBy w' (some pb):=by
  have hpb:=h.lt
  have hk24:2≤k∧k≤4:=by rw [←hk];exact ⟨(widN_le r hr).1,(widN_le r hr).2⟩
  have hNb:N≤16384:=by rw [hN];exact Nat.le_trans (Nat.mul_le_mul hn2 hk24.2) (by decide)
  have HU:=Lib.hid (parseU32_ok V _ pb false true l hl (h.kept (World.grownBy_alloc W (.cells #[.int .u8 0,.slice none 0 0] 93) none)))
  rw [hn] at HU
  have HG:=Lib.hid (gt_some (World.grownBy_alloc W (.cells #[.int .u8 0,.slice none 0 0] 93) none) pb)
  have HC:Hid (∀ w,(W.alloc (.cells #[.int .u8 0,.slice none 0 0] 93)).grownBy w (some pb)→w.cell? ⟨W.heap.size,0,none⟩=some (.int .u8 0)∧w.cell? ⟨W.heap.size,1,none⟩=some (.slice none 0 0)∧∀ j,w.frozen? ⟨W.heap.size,j,none⟩=false):=fun w g=>by
    have hn:some W.heap.size≠some pb:=fun e=>by injection e with e;omega
    have hb:=g.block W.heap.size (by simp) hn
    exact ⟨g.cell (by simp) hn,g.cell (by simp) hn,fun j=>by rw [World.frozen?_of_block hb];simp⟩
  have HD:=Lib.hid (fun w=>Dimension_any r hr w)
  rw [hk] at HD
  obtain ⟨L,hL⟩ : ∃ L,L=(l.drop 4).length:=⟨_,rfl⟩
  have hLl:L=l.length - 4:=by rw [hL,List.length_drop]
  obtain ⟨M,hM⟩ : ∃ M,M=8*N:=⟨_,rfl⟩
  have hML:M≤L:=by omega
  have HX:Hid (∀ w1,WP V w1 pb (l.drop 4) 1 true→∃ p c,w1.cell? ⟨pb,0,none⟩=some (.slice p L c)∧Cuts2 V (8*(N:Int)) pb M L (l.drop 4) p c):=fun w1 hw=>by
    obtain ⟨x,hx,hv⟩:=hw.x
    obtain ⟨p,c,e,_⟩:=hv.ex
    rw [←hL] at e
    subst e
    exact ⟨p,c,hx,Cuts2.of hv hML (by omega)⟩
  have HF:Hid (∀ w ps cs,V.grownBy w (some pb)→BV V pb (.slice ps M cs) ((l.drop 4).take M)→Calls Tryz.prog 245 #[.slice ps M cs] w fun e w'=>∃ q,e=.returned (.slice q N N)∧(0<(flC (fOf (numsOf false N (l.drop 4))) N).length→∃ ad,q=some ad∧∀ j v,(flC (fOf (numsOf false N (l.drop 4))) N)[j]?=some v→w'.cell? (ad.add j)=some v)∧w.grownBy w' none):=fun w ps cs g hv=>by
    by_cases hN0:N=0
    · subst hN0
      obtain rfl:M=0:=by omega
      exact (bytesAsFloats_nil w ps cs).mono fun e w' ⟨he,hw⟩=>⟨none,he,fun h=>by rw [flC_len] at h;omega,by rw [hw];exact gt_refl _ _⟩
    have e9:numsOf false N ((l.drop 4).take M)=numsOf false N (l.drop 4):=numsOf_take false N _ _ (by omega)
    have:=bytesAsFloats_any w pb ps N M cs _ hM (by rw [List.length_take,←hL];omega) (by omega) (by omega) (hv.grow g (.inr rfl))
    rw [e9] at this
    exact this.mono fun e w' ⟨g,he,hf,hg⟩=>⟨_,he,fun _=>⟨_,rfl,hf.heap⟩,hg⟩
  have hff:=fOf_lt false N (l.drop 4)
  have HS:=Lib.hid (fun w g=>NewSequence_any r N (some ⟨g,0,none⟩) N hr (by rw [hN,hk];exact Nat.mul_mod_left _ _) w)
  have HNL:=Lib.hid (fun w g=>NewLineString_any (.int .u8 r) (.slice (some ⟨g,0,none⟩) N N) ⟨_,_,rfl⟩ ⟨_,_,_,rfl⟩ w)
  have HP:Hid (∀ w pd nd cd,WP V w pb (l.drop 4) 1 true→BZ V pb (.slice pd nd cd) ((l.drop 4).drop M)→WP V (w.setCell ⟨pb,0,none⟩ (.slice pd nd cd)) pb ((l.drop 4).drop M) 1 true):=fun w pd nd cd hw hv=>(hw.set hv).1
  rw [←hM]
  generalize fOf (numsOf false N (l.drop 4))=f at HF hff ⊢
  obtain ⟨i0,hi,hzz⟩:=Option.map_eq_some_iff.1 infoF8
  simp only [Prod.mk.injEq] at hzz
  have HI:=Lib.hid hzz
  have hsz:(Tryz.prog.info? 26).map (·.size)=some 1:=by kernel_rfl
  have hmul:IntKind.i64.wrap ((n:Int)*(k:Int))=(N:Int):=by
    have e:(n:Int)*(k:Int)=(N:Int):=by rw [hN];push_cast;rfl
    rw [e,IntKind.wrap_i64];omega
  have hLN:¬ (L:Int)<8*(N:Int):=by omega
  have h1c:Hid (∀ v ∈ flC f N,v.oneCell'=true):=fun v hv=>by
    unfold flC at hv
    obtain ⟨i,_,rfl⟩:=List.mem_map.1 hv
    rfl
  have HfL:=Lib.hid (flC_len f N)
  have HB3:Hid (∀ (w1 w2 w3:World) (cur:List Value) (pd:Option Addr) (nd cd:Nat),(W.alloc (.cells #[.int .u8 0,.slice none 0 0] 93)).grownBy w1 (some pb)→w1.grownBy w2 none→w2.heap[w1.heap.size]?=some (.cells cur.toArray 26 (0,0))→(w2.setCell ⟨pb,0,none⟩ (.slice pd nd cd)).grownBy w3 none→w3.heap[w1.heap.size]?=some (.cells cur.toArray 26 (0,0))):=fun w1 w2 w3 cur pd nd cd hg1 hg2 hc hg3=>by
    have h1:=hg1.size
    simp at h1
    have hlt:w1.heap.size<w2.heap.size:=(Array.getElem?_eq_some_iff.1 hc).1
    rw [hg3.block w1.heap.size (by simpa [World.setCell] using hlt) (by simp),Below.heap_setCell w2 _ _ _ (by show w1.heap.size≠pb;omega)]
    exact hc
  have HBl:Hid (∀ (w1 w2 w3:World) (pd:Option Addr) (nd cd:Nat),w1.grownBy w2 none→(w2.setCell ⟨pb,0,none⟩ (.slice pd nd cd)).grownBy w3 none→Below w1.heap.size (w2.setCell ⟨pb,0,none⟩ (.slice pd nd cd)) w3):=fun w1 w2 w3 pd nd cd hg2 hg3=>(below_gt hg3).mono (by have:=hg2.size;simpa [World.setCell] using this)
  have HPl:Hid (∀ w1:World,(W.alloc (.cells #[.int .u8 0,.slice none 0 0] 93)).grownBy w1 (some pb)→pb<w1.heap.size):=fun w1 g=>by have h1:=g.size;simp at h1;omega
  have hVW:=h.g.size
  have HVl:Hid (∀ w1:World,(W.alloc (.cells #[.int .u8 0,.slice none 0 0] 93)).grownBy w1 (some pb)→V.heap.size≤w1.heap.size):=fun w1 g=>by have h1:=g.size;simp at h1;omega
  have HVW:Hid (V.heap.size≤W.heap.size):=hVW
  clear h hM hN hL hLl hn hzz hlen hl hk
  go_enter Tryz.func200,Tryz.ntmps200
  go_wp2_with (first
    | (go_at_call 198;refine HU.out.mono ?_;rintro e w1 ⟨rfl,hw1,hg1⟩)
    | (go_at_call 168;refine (HD.out _).mono ?_;rintro e w' ⟨rfl,hwd⟩;obtain rfl:=hwd.symm)
    | (at_make;(refine wpList_make_full _ rfl _ _ _ rfl w1.heap.size 26 i0 (.float .f64 0) 1 Tryz.underlying30 hi HI.out.1 HI.out.2.1 .i64 .i64 _ _ N rfl rfl rfl rfl (by rw [HI.out.2.2];omega) (by unfold maxLen;omega) (by simp) ?_;intro w2 hown hg2;obtain ⟨cur,hcur,hcl⟩:=own_heap hown;clear hown;have hw2:=hw1.kept hg2;obtain ⟨p,c,hx,ps,cs,pd,nd,cd,hs1,hb1,hs2,hb2⟩:=HX.out _ hw2;have k2:=hw2.c2;have kf:=hw2.fz 0;have HW3:=Lib.hid (HP.out _ _ _ _ hw2 hb2);have HB1:=Lib.hid hb1;have HCur:=Lib.hid hcur;have HCl:=Lib.hid hcl;clear hw1 hw2 hb1 hb2 hcur hcl))
    | (go_at_call 245;go_loud (refine (HF.out _ _ _ HW3.out.g HB1.out).mono ?_;rintro e w3 ⟨q3,rfl,hfc,hg3⟩;have HFc:=Lib.hid hfc;have hcur3:=HB3.out w1 w2 w3 cur pd nd cd hg1 hg2 HCur.out hg3;have hbel:=HBl.out w1 w2 w3 pd nd cd hg2 hg3;clear hfc))
    | ((refine wpList_copy_splice rfl _ _ _ _ rfl 26 Tryz.underlying30 hsz _ _ _ _ _ _ rfl rfl w1.heap.size 0 cur 26 hcur3 (flC f N) (by rw [HfL.out];exact (Nat.min_self N).symm) (fun hp=>⟨rfl,HFc.out hp⟩) (by rw [HfL.out,HCl.out];omega) h1c.out w1.heap.size (w2.setCell ⟨pb,0,none⟩ (.slice pd nd cd)) hbel (Nat.le_refl _) ?_;intro w4 HG4 hB4;have G4:=gt_part (gt_trans (gt_trans hg1 hg2 (.inr (.inl rfl))) (grown_set w2 ⟨pb,0,none⟩ (.slice pd nd cd)) (.inl rfl)) hB4 hg1.size;have HW4:=Lib.hid (WP.below HW3.out hB4 (HPl.out w1 hg1) (HVl.out w1 hg1));have HV4:=Lib.hid (fval_of_heap HCl.out HG4.out hff);clear hB4))
    | (go_at_call 125;go_loud (refine (HS.out _ _).mono ?_;rintro e w5 ⟨rfl,hg5⟩))
    | (go_at_call 107;go_loud (refine (HNL.out _ _).mono ?_;rintro e w6 ⟨rfl,hg6⟩;have g46:=gt_trans (gt_alloc_r hg5 _) hg6 (.inl rfl);have G6:=gt_trans G4 g46 (.inr (.inl rfl));obtain ⟨r0,r1,rf⟩:=HC.out _ G6;have rf0:=rf 0;have rf1:=rf 1)))
  have hw1s:W.heap.size+1≤w1.heap.size:=by have:=hg1.size;simpa using this
  have hv:=(HV4.out.mono g46)
  have z0:=World.cell?_setCell_same (w:=w6) (v:=.int .u8 r) (h:=r0)
  have z1:(w6.setCell ⟨W.heap.size,0,none⟩ (.int .u8 r)).cell? ⟨W.heap.size,1,none⟩=some (.slice none 0 0):=(World.cell?_setCell_other (w:=w6) (a:=⟨W.heap.size,0,none⟩) (b:=⟨W.heap.size,1,none⟩) (v:=.int .u8 r) (h:=by simp)).trans r1
  have z2:=World.cell?_setCell_same (v:=.slice (some ⟨w1.heap.size,0,none⟩) N N) (h:=z1)
  refine bodyPost_ret (by simp [results,Tryz.results200,go_sem,z0,z2,r0,r1];try rfl) rfl ?_
  have hne:w1.heap.size≠W.heap.size:=by omega
  refine ⟨w1.heap.size,rfl,((hv.set (q:=⟨W.heap.size,0,none⟩) (by simpa using hne) _).set (q:=⟨W.heap.size,1,none⟩) (by simpa using hne) _),⟨by omega,?_⟩,((HW4.out.kept g46).put _ _ HVW.out).put _ _ HVW.out,gt_set_r (gt_set_r (gt_trans HG.out G6 (.inl rfl)) _ _ (Nat.le_refl _)) _ _ (Nat.le_refl _)⟩
  have h4:w1.heap.size<w4.heap.size:=(Array.getElem?_eq_some_iff.1 HG4.out).1
  have:=g46.size
  simp [World.setCell]
  omega
end
section
open Go.RowKit
theorem leNat_append:∀ (a b:List UInt8),Lib.leNat (a++b)=Lib.leNat a+256 ^ a.length*Lib.leNat b
  | [],b=>by simp [Lib.leNat]
  | x::a,b=>by
    simp only [List.cons_append,Lib.leNat,leNat_append a b,List.length_cons,Nat.pow_succ]
    rw [Nat.mul_add,Nat.mul_comm (256 ^ a.length) 256,Nat.mul_assoc]
    omega
theorem beNat_rev:∀ l:List UInt8,Lib.beNat l=Lib.leNat l.reverse
  | []=>rfl
  | x::l=>by
    have ih:=beNat_rev l
    unfold Lib.beNat at ih ⊢
    unfold Lib.beFrom
    rw [beFrom_eq,ih,List.reverse_cons,leNat_append,List.length_reverse]
    simp only [Lib.leNat,Nat.zero_mul,Nat.zero_add,Nat.mul_zero,Nat.add_zero]
    rw [Nat.mul_comm]
    omega
theorem turned_eight {l bs:List UInt8} {N i:Nat} (h:Turned l bs N) (hl:l.length=8*N) (hi:i<N):(bs.drop (8*i)).take 8=((l.drop (8*i)).take 8).reverse:=by
  obtain ⟨hlen,hb⟩:=h
  have hA:((bs.drop (8*i)).take 8).length=8:=by rw [List.length_take,List.length_drop];omega
  have hB:((l.drop (8*i)).take 8).length=8:=by rw [List.length_take,List.length_drop];omega
  refine List.ext_getElem? fun j=>?_
  by_cases hj:j<8
  · rw [List.getElem?_take,if_pos hj,List.getElem?_drop,hb,if_pos (by omega),List.getElem?_reverse (by omega),hB,List.getElem?_take,if_pos (by omega),List.getElem?_drop]
    congr 1
    omega
  · rw [List.getElem?_eq_none (by omega),List.getElem?_eq_none (by rw [List.length_reverse];omega)]
theorem turned_num {l bs:List UInt8} {N i:Nat} (h:Turned l bs N) (hl:l.length=8*N) (hi:i<N):fOf (numsOf false N bs) i=fOf (numsOf true N l) i:=by
  rw [fOf_at false N bs i hi,fOf_at true N l i hi,turned_eight h hl hi]
  show Lib.leNat _=Lib.beNat _
  rw [beNat_rev]
theorem BB.of_heap {base:Nat} {w:World} {g M:Nat} {cur:List Value} {bs:List UInt8} (hb:base≤g) (hc:cur.length=M) (hbs:bs.length=M) (hM:M≤maxLen) (h:w.heap[g]?=some (.cells (splice cur 0 (bcs bs)).toArray 5 (0,0))):BB base w g M bs:=by
  have hl:(bcs bs).length=M:=by unfold bcs;rw [List.length_map];exact hbs
  rw [splice_all _ _ (by rw [hl];exact hc)] at h
  exact ⟨by rw [hl,Nat.mul_one],.inr ⟨g,M,(bcs bs).toArray,rfl,hb,h,Nat.le_refl _,hM,by simp [hl],by rw [Nat.mul_one];exact List.take_of_length_le (by simp [hl])⟩⟩
theorem BB.bv {base:Nat} {w:World} {g M nb:Nat} {bs:List UInt8} (h:BB base w g M bs) (hM:M≤maxLen) (hne:g≠nb):BV w nb (.slice (some ⟨g,0,none⟩) M M) bs :=
  ⟨_,M,by rw [h.len],by rw [h.len];exact Nat.le_refl _,hM,fun e=>(by cases e),fun _=>⟨g,0,rfl,hne,fun i u hi=>by rw [Nat.zero_add];exact h.cell i u hi⟩⟩
theorem infoU8:(Tryz.prog.info? 5).map (fun i=>(i.zero,i.size,i.bytes))=some (some (.int .u8 0),1,1):=by kernel_rfl
theorem parseLS_be (V W:World) (pb r k n N:Nat) (l:List UInt8) (hr:r<4) (hk:widN r=k) (hl:4≤l.length) (hn:numL true (l.take 4)=n) (hn2:n≤4096) (hN:N=n*k) (hlen:8*N≤l.length - 4) (h:WP V W pb l 0 false) :
    Calls Tryz.prog 200 #[.pointer (some ⟨pb,0,none⟩),.int .u8 r] W fun e w'=>∃ g,e=.returned (.tuple #[.agg #[.int .u8 r,.slice (some ⟨g,0,none⟩) N N],.nilIface])∧FVal w' (some ⟨g,0,none⟩) N (fOf (numsOf true N (l.drop 4)))∧(W.heap.size≤g∧g<w'.heap.size)∧WP V w' pb ((l.drop 4).drop (8*N)) 0 false∧W.grownBy w' (some pb):=by
  have hpb:=h.lt
  have hk24:2≤k∧k≤4:=by rw [←hk];exact ⟨(widN_le r hr).1,(widN_le r hr).2⟩
  have hNb:N≤16384:=by rw [hN];exact Nat.le_trans (Nat.mul_le_mul hn2 hk24.2) (by decide)
  have HU:=Lib.hid (parseU32_ok V _ pb true false l hl (h.kept (World.grownBy_alloc W (.cells #[.int .u8 0,.slice none 0 0] 93) none)))
  rw [hn] at HU
  have HG:=Lib.hid (gt_some (World.grownBy_alloc W (.cells #[.int .u8 0,.slice none 0 0] 93) none) pb)
  have HC:Hid (∀ w,(W.alloc (.cells #[.int .u8 0,.slice none 0 0] 93)).grownBy w (some pb)→w.cell? ⟨W.heap.size,0,none⟩=some (.int .u8 0)∧w.cell? ⟨W.heap.size,1,none⟩=some (.slice none 0 0)∧∀ j,w.frozen? ⟨W.heap.size,j,none⟩=false):=fun w g=>by
    have hn:some W.heap.size≠some pb:=fun e=>by injection e with e;omega
    have hb:=g.block W.heap.size (by simp) hn
    exact ⟨g.cell (by simp) hn,g.cell (by simp) hn,fun j=>by rw [World.frozen?_of_block hb];simp⟩
  have HD:=Lib.hid (fun w=>Dimension_any r hr w)
  rw [hk] at HD
  obtain ⟨L,hL⟩ : ∃ L,L=(l.drop 4).length:=⟨_,rfl⟩
  have hLl:L=l.length - 4:=by rw [hL,List.length_drop]
  obtain ⟨M,hM⟩ : ∃ M,M=8*N:=⟨_,rfl⟩
  have hML:M≤L:=by omega
  have hMb:M≤131072:=by omega
  have HX:Hid (∀ w1,WP V w1 pb (l.drop 4) 0 false→∃ p c pd nd cd,w1.cell? ⟨pb,0,none⟩=some (.slice p L c)∧(∀ w,(Instr.slice 39 (.slice p L c) (some (.int .i64 (8*(N:Int)))) none none).run Tryz.prog w=.ok (.slice pd nd cd) w)∧BZ V pb (.slice pd nd cd) ((l.drop 4).drop M)∧∀ w,V.grownBy w (some pb)→0<M→∃ ad,p=some ad∧∀ j v,(bcs ((l.drop 4).take M))[j]?=some v→w.cell? (ad.add j)=some v):=fun w1 hw=>by
    obtain ⟨x,hx,hv⟩:=hw.x
    obtain ⟨p,c,e,_⟩:=hv.ex
    rw [←hL] at e
    subst e
    obtain ⟨ps,cs,pd,nd,cd,_,_,hs2,hb2⟩:=Cuts2.of (z:=8*(N:Int)) hv hML (by omega)
    refine ⟨p,c,pd,nd,cd,hx,hs2,hb2,fun w g hM0=>?_⟩
    obtain ⟨_,b,o,rfl,hc⟩:=(hv.grow g (.inr rfl)).cells (by omega)
    refine ⟨_,rfl,fun j v hj=>?_⟩
    unfold bcs at hj
    rw [List.getElem?_map] at hj
    obtain ⟨u,hu,rfl⟩:=Option.map_eq_some_iff.1 hj
    rw [List.getElem?_take] at hu
    split at hu
    · have h9:=hc j u hu
      unfold Addr.add
      by_cases hj0:j=0
      · rw [if_pos hj0]
        subst hj0
        rw [Nat.add_zero] at h9
        exact h9
      · rw [if_neg hj0]
        exact h9
    · cases hu
  have hlt:((l.drop 4).take M).length=M:=by rw [List.length_take,←hL];omega
  have hbl:(bcs ((l.drop 4).take M)).length=M:=by unfold bcs;rw [List.length_map];exact hlt
  have HbL:=Lib.hid hbl
  have hb1c:Hid (∀ v ∈ bcs ((l.drop 4).take M),v.oneCell'=true):=fun v hv=>by
    unfold bcs at hv
    obtain ⟨u,_,rfl⟩:=List.mem_map.1 hv
    rfl
  have hmax:M≤maxLen:=by unfold maxLen;omega
  have HFl:Hid (∀ w base g cur,base≤g→cur.length=M→w.heap[g]?=some (.cells (splice cur 0 (bcs ((l.drop 4).take M))).toArray 5 (0,0))→Calls Tryz.prog 244 #[.slice (some ⟨g,0,none⟩) M M] w fun e w'=>e=.returned (.tuple #[])∧(∃ bs,BB base w' g M bs∧Turned ((l.drop 4).take M) bs N)∧w.grownBy w' (some g)):=fun w base g cur h1 h2 h3=>flip_any w base g M N _ hM (by omega) (BB.of_heap h1 h2 hlt hmax h3)
  have HF:Hid (∀ w g (base:Nat) bs,g≠pb→BB base w g M bs→Turned ((l.drop 4).take M) bs N→Calls Tryz.prog 245 #[.slice (some ⟨g,0,none⟩) M M] w fun e w'=>∃ q,e=.returned (.slice q N N)∧(0<(flC (fOf (numsOf true N (l.drop 4))) N).length→∃ ad,q=some ad∧∀ j v,(flC (fOf (numsOf true N (l.drop 4))) N)[j]?=some v→w'.cell? (ad.add j)=some v)∧w.grownBy w' none):=fun w g base bs hne hb ht=>by
    have e9:numsOf true N ((l.drop 4).take M)=numsOf true N (l.drop 4):=numsOf_take true N _ _ (by omega)
    by_cases hN0:N=0
    · subst hN0
      obtain rfl:M=0:=by omega
      exact (bytesAsFloats_nil w _ 0).mono fun e w' ⟨he,hw⟩=>⟨none,he,fun h=>by rw [flC_len] at h;omega,by rw [hw];exact gt_refl _ _⟩
    refine (bytesAsFloats_any w pb _ N M M bs hM hb.len (by omega) (by omega) (hb.bv hmax hne)).mono fun e w' ⟨g',he,hf,hg⟩=>⟨_,he,fun _=>⟨_,rfl,fun j v hj=>?_⟩,hg⟩
    refine hf.heap j v ?_
    have hjN:j<N:=by have:=(List.getElem?_eq_some_iff.1 hj).1;rw [flC_len] at this;exact this
    rw [flC_at _ N j hjN] at hj ⊢
    rw [turned_num ht (by rw [hlt,hM]) hjN,e9]
    exact hj
  have hff:=fOf_lt true N (l.drop 4)
  have HS:=Lib.hid (fun w g=>NewSequence_any r N (some ⟨g,0,none⟩) N hr (by rw [hN,hk];exact Nat.mul_mod_left _ _) w)
  have HNL:=Lib.hid (fun w g=>NewLineString_any (.int .u8 r) (.slice (some ⟨g,0,none⟩) N N) ⟨_,_,rfl⟩ ⟨_,_,_,rfl⟩ w)
  have HP:Hid (∀ w pd nd cd,WP V w pb (l.drop 4) 0 false→BZ V pb (.slice pd nd cd) ((l.drop 4).drop M)→WP V (w.setCell ⟨pb,0,none⟩ (.slice pd nd cd)) pb ((l.drop 4).drop M) 0 false):=fun w pd nd cd hw hv=>(hw.set hv).1
  rw [←hM]
  generalize fOf (numsOf true N (l.drop 4))=f at HF hff ⊢
  obtain ⟨i0,hi,hzz⟩:=Option.map_eq_some_iff.1 infoF8
  simp only [Prod.mk.injEq] at hzz
  have HI:=Lib.hid hzz
  have hsz:(Tryz.prog.info? 26).map (·.size)=some 1:=by kernel_rfl
  have hmul:IntKind.i64.wrap ((n:Int)*(k:Int))=(N:Int):=by
    have e:(n:Int)*(k:Int)=(N:Int):=by rw [hN];push_cast;rfl
    rw [e,IntKind.wrap_i64];omega
  have hLN:¬ (L:Int)<8*(N:Int):=by omega
  have hzM:(8*(N:Int))=(M:Int):=by omega
  have HzM:=Lib.hid hzM
  clear hzM
  have h1c:Hid (∀ v ∈ flC f N,v.oneCell'=true):=fun v hv=>by
    unfold flC at hv
    obtain ⟨i,_,rfl⟩:=List.mem_map.1 hv
    rfl
  have HfL:=Lib.hid (flC_len f N)
  obtain ⟨i8,hi8,hzz8⟩:=Option.map_eq_some_iff.1 infoU8
  simp only [Prod.mk.injEq] at hzz8
  have HI8:=Lib.hid hzz8
  have hsz8:(Tryz.prog.info? 5).map (·.size)=some 1:=by kernel_rfl
  clear hzz8
  have HPl:Hid (∀ w1:World,(W.alloc (.cells #[.int .u8 0,.slice none 0 0] 93)).grownBy w1 (some pb)→pb<w1.heap.size):=fun w1 g=>by have h1:=g.size;simp at h1;omega
  have hVW:=h.g.size
  have HVl:Hid (∀ w1:World,(W.alloc (.cells #[.int .u8 0,.slice none 0 0] 93)).grownBy w1 (some pb)→V.heap.size≤w1.heap.size):=fun w1 g=>by have h1:=g.size;simp at h1;omega
  have HVW:Hid (V.heap.size≤W.heap.size):=hVW
  have HPl2:Hid (∀ w1 w2:World,(W.alloc (.cells #[.int .u8 0,.slice none 0 0] 93)).grownBy w1 (some pb)→w1.grownBy w2 none→pb<w2.heap.size):=fun w1 w2 g g2=>by have h1:=g.size;simp at h1;have:=g2.size;omega
  have HVl2:Hid (∀ w1 w2:World,(W.alloc (.cells #[.int .u8 0,.slice none 0 0] 93)).grownBy w1 (some pb)→w1.grownBy w2 none→V.heap.size≤w2.heap.size):=fun w1 w2 g g2=>by have h1:=g.size;simp at h1;have:=g2.size;omega
  have HNe:Hid (∀ w1 w2:World,(W.alloc (.cells #[.int .u8 0,.slice none 0 0] 93)).grownBy w1 (some pb)→w1.grownBy w2 none→w2.heap.size≠pb):=fun w1 w2 g g2=>by have h1:=g.size;simp at h1;have:=g2.size;omega
  have HSz:Hid (∀ w1 w2:World,(W.alloc (.cells #[.int .u8 0,.slice none 0 0] 93)).grownBy w1 (some pb)→w1.grownBy w2 none→(W.alloc (.cells #[.int .u8 0,.slice none 0 0] 93)).heap.size≤w2.heap.size):=fun w1 w2 g g2=>Nat.le_trans g.size g2.size
  have HTr:Hid (∀ w2 w4 w5:World,Below w2.heap.size w2 w4→w4.grownBy w5 (some w2.heap.size)→Below w2.heap.size w2 w5):=fun w2 w4 w5 h1 h2=>h1.trans ⟨h2.os,h2.tape,h2.output,h2.size,fun k hk=>h2.block k (Nat.lt_of_lt_of_le hk h1.size) (fun e=>by injection e with e;omega)⟩
  have HBs:Hid (∀ (w:World) (base g:Nat) (bs:List UInt8) (pd:Option Addr) (nd cd:Nat),g≠pb→BB base w g M bs→BB base (w.setCell ⟨pb,0,none⟩ (.slice pd nd cd)) g M bs):=fun w base g bs pd nd cd hne hb=>World.ownsRow.kept hb (grown_set w ⟨pb,0,none⟩ _) (.inr fun e=>by injection e with e;exact hne e)
  have HB3:Hid (∀ (w1 w2 w5 w6:World) (cur:List Value) (pd:Option Addr) (nd cd:Nat),(W.alloc (.cells #[.int .u8 0,.slice none 0 0] 93)).grownBy w1 (some pb)→w1.grownBy w2 none→w2.heap[w1.heap.size]?=some (.cells cur.toArray 26 (0,0))→Below w2.heap.size w2 w5→(w5.setCell ⟨pb,0,none⟩ (.slice pd nd cd)).grownBy w6 none→w6.heap[w1.heap.size]?=some (.cells cur.toArray 26 (0,0))):=fun w1 w2 w5 w6 cur pd nd cd hg1 hg2 hc hb hg6=>by
    have h1:=hg1.size
    simp at h1
    have hlt:w1.heap.size<w2.heap.size:=(Array.getElem?_eq_some_iff.1 hc).1
    have h5:=hb.size
    rw [hg6.block w1.heap.size (by simp [World.setCell];omega) (by simp),Below.heap_setCell w5 _ _ _ (by show w1.heap.size≠pb;omega),hb.block _ hlt]
    exact hc
  have HBl:Hid (∀ (w1 w2 w5 w6:World) (pd:Option Addr) (nd cd:Nat),w1.grownBy w2 none→Below w2.heap.size w2 w5→(w5.setCell ⟨pb,0,none⟩ (.slice pd nd cd)).grownBy w6 none→Below w1.heap.size (w5.setCell ⟨pb,0,none⟩ (.slice pd nd cd)) w6):=fun w1 w2 w5 w6 pd nd cd hg2 hb hg6=>(below_gt hg6).mono (by have:=hg2.size;have:=hb.size;simp [World.setCell];omega)
  clear h hM hN hL hLl hn hzz hlen hl hk hlt hbl hmax
  go_enter Tryz.func200,Tryz.ntmps200
  go_wp2_with (first
    | (go_at_call 198;refine HU.out.mono ?_;rintro e w1 ⟨rfl,hw1,hg1⟩)
    | (go_at_call 168;refine (HD.out _).mono ?_;rintro e w' ⟨rfl,hwd⟩;obtain rfl:=hwd.symm)
    | (at_make;(refine wpList_make_full _ rfl _ _ _ rfl w1.heap.size 26 i0 (.float .f64 0) 1 Tryz.underlying30 hi HI.out.1 HI.out.2.1 .i64 .i64 _ _ N rfl rfl rfl rfl (by rw [HI.out.2.2];omega) (by unfold maxLen;omega) (by simp) ?_;intro w2 hown hg2;obtain ⟨cur,hcur,hcl⟩:=own_heap hown;clear hown;have hw2:=hw1.kept hg2;obtain ⟨p,c,pd,nd,cd,hx,hs2,hb2,hsrc⟩:=HX.out _ hw2;have k2:=hw2.c2;have HW2:=Lib.hid hw2;have HB2:=Lib.hid hb2;have HSrc:=Lib.hid hsrc;have HCur:=Lib.hid hcur;have HCl:=Lib.hid hcl;clear hw1 hw2 hb2 hcur hcl hsrc))
    | (at_make;(refine wpList_make_full _ rfl _ _ _ rfl w2.heap.size 5 i8 (.int .u8 0) 1 Tryz.underlying39 hi8 HI8.out.1 HI8.out.2.1 .i64 .i64 _ _ M rfl rfl HzM.out HzM.out (by rw [HI8.out.2.2];omega) (by unfold maxLen;omega) (by simp) ?_;intro w3 hown3 hg3;obtain ⟨cur3,hcur3,hcl3⟩:=own_heap hown3;clear hown3;have hx3:=hg3.cell hx (by simp);have HCur3:=Lib.hid hcur3;have HCl3:=Lib.hid hcl3;clear hcur3 hcl3))
    | ((refine wpList_copy_splice rfl _ _ _ _ rfl 5 Tryz.underlying39 hsz8 _ _ _ _ _ _ rfl rfl w2.heap.size 0 cur3 5 HCur3.out (bcs ((l.drop 4).take M)) (by rw [HbL.out];exact (Nat.min_eq_right hML).symm) (fun hp=>⟨rfl,HSrc.out _ (gt_trans HW2.out.g hg3 (.inr (.inl rfl))) (by rw [HbL.out] at hp;exact hp)⟩) (by rw [HbL.out,HCl3.out];omega) hb1c.out w2.heap.size w2 (below_gt hg3) (Nat.le_refl _) ?_;intro w4 HG4 hB4;have HBel4:=Lib.hid hB4;clear hB4))
    | (go_at_call 244;go_loud (refine (HFl.out _ w2.heap.size _ cur3 (Nat.le_refl _) HCl3.out HG4.out).mono ?_;rintro e w5 ⟨rfl,⟨bs,hbb,htt⟩,hg5⟩;have HBB:=Lib.hid hbb;have HTT:=Lib.hid htt;clear hbb htt;have hB25:=Lib.hid (HTr.out w2 w4 w5 HBel4.out hg5);have HW5:=Lib.hid (WP.below HW2.out hB25.out (HPl2.out w1 w2 hg1 hg2) (HVl2.out w1 w2 hg1 hg2));have hx5:=(hB25.out.cell (p:=⟨pb,0,none⟩) (HPl2.out w1 w2 hg1 hg2)).trans hx;have kf5:=HW5.out.fz 0))
    | (go_at_call 245;go_loud (refine (HF.out _ _ w2.heap.size bs (HNe.out w1 w2 hg1 hg2) (HBs.out w5 w2.heap.size w2.heap.size bs pd nd cd (HNe.out w1 w2 hg1 hg2) HBB.out) HTT.out).mono ?_;rintro e w6 ⟨q6,rfl,hfc,hg6⟩;have HFc:=Lib.hid hfc;have HW6:=Lib.hid ((HP.out _ _ _ _ HW5.out HB2.out).kept hg6);have hcur6:=HB3.out w1 w2 w5 w6 cur pd nd cd hg1 hg2 HCur.out hB25.out hg6;have hbel6:=HBl.out w1 w2 w5 w6 pd nd cd hg2 hB25.out hg6;clear hfc))
    | ((refine wpList_copy_splice rfl _ _ _ _ rfl 26 Tryz.underlying30 hsz _ _ _ _ _ _ rfl rfl w1.heap.size 0 cur 26 hcur6 (flC f N) (by rw [HfL.out];exact (Nat.min_self N).symm) (fun hp=>⟨rfl,HFc.out hp⟩) (by rw [HfL.out,HCl.out];omega) h1c.out w1.heap.size (w5.setCell ⟨pb,0,none⟩ (.slice pd nd cd)) hbel6 (Nat.le_refl _) ?_;intro w7 HG7 hB7;have G4:=gt_part (gt_trans (gt_part (gt_trans hg1 hg2 (.inr (.inl rfl))) hB25.out (HSz.out w1 w2 hg1 hg2)) (grown_set w5 ⟨pb,0,none⟩ (.slice pd nd cd)) (.inl rfl)) hB7 hg1.size;have HW4:=Lib.hid (WP.below (HP.out _ _ _ _ HW5.out HB2.out) hB7 (HPl.out w1 hg1) (HVl.out w1 hg1));have HV4:=Lib.hid (fval_of_heap HCl.out HG7.out hff);clear hB7))
    | (go_at_call 125;go_loud (refine (HS.out _ _).mono ?_;rintro e w8 ⟨rfl,hg8⟩))
    | (go_at_call 107;go_loud (refine (HNL.out _ _).mono ?_;rintro e w9 ⟨rfl,hg9⟩;have g46:=gt_trans (gt_alloc_r hg8 _) hg9 (.inl rfl);have G6:=gt_trans G4 g46 (.inr (.inl rfl));obtain ⟨r0,r1,rf⟩:=HC.out _ G6;have rf0:=rf 0;have rf1:=rf 1)))
  have hw1s:W.heap.size+1≤w1.heap.size:=by have:=hg1.size;simpa using this
  have hv:=(HV4.out.mono g46)
  have z0:=World.cell?_setCell_same (w:=w9) (v:=.int .u8 r) (h:=r0)
  have z1:(w9.setCell ⟨W.heap.size,0,none⟩ (.int .u8 r)).cell? ⟨W.heap.size,1,none⟩=some (.slice none 0 0):=(World.cell?_setCell_other (w:=w9) (a:=⟨W.heap.size,0,none⟩) (b:=⟨W.heap.size,1,none⟩) (v:=.int .u8 r) (h:=by simp)).trans r1
  have z2:=World.cell?_setCell_same (v:=.slice (some ⟨w1.heap.size,0,none⟩) N N) (h:=z1)
  refine bodyPost_ret (by simp [results,Tryz.results200,go_sem,z0,z2,r0,r1];try rfl) rfl ?_
  have hne:w1.heap.size≠W.heap.size:=by omega
  refine ⟨w1.heap.size,rfl,((hv.set (q:=⟨W.heap.size,0,none⟩) (by simpa using hne) _).set (q:=⟨W.heap.size,1,none⟩) (by simpa using hne) _),⟨by omega,?_⟩,((HW4.out.kept g46).put _ _ HVW.out).put _ _ HVW.out,gt_set_r (gt_set_r (gt_trans HG.out G6 (.inl rfl)) _ _ (Nat.le_refl _)) _ _ (Nat.le_refl _)⟩
  have h4:w1.heap.size<w7.heap.size:=(Array.getElem?_eq_some_iff.1 HG7.out).1
  have:=g46.size
  simp [World.setCell]
  omega
end
end Go.Proofs.YtlpaecafpbbbkaaGreatDoor
