/- The reference's writer of well known binary: whatever the geometry; WriteWKB. Well known binary: what is read on the way is small, where the whole is, however many bytes; the bytes in front of others are read as with them. What the reference writes of a geometry without NaN, is read; less of it is not: plain law. -/
import Derived.Test.YtlpaecafpbbbkaaGreatDoorBYT2
import Derived.Test.YtlpaecafpbbbkaaGreatDoorBYT20
import Derived.Test.YtlpaecafpbbbkaaGreatDoorBYT42
import Derived.Test.YtlpaecafpbbbkaaGreatDoorBYT44
set_option linter.unusedVariables false
set_option linter.unusedSimpArgs false
set_option maxRecDepth 100000
set_option maxHeartbeats 24000000
namespace Go.Proofs.YtlpaecafpbbbkaaGreatDoor
section
open Go.RowKit
theorem wrT_eq (k:Int) (dm n:Nat) (f:Nat→Nat) (kids:List Raw):wrT (.mk k dm n f kids)=[1]++Lib.leBytes 4 (codeN k+1000*dm)++(if k=1 then (if n=0 then numsW (widN dm) (fun _=>emptyN) else numsW n f) else if k=2 then bLine (.mk k dm n f kids) else Lib.leBytes 4 kids.length++wrTs (decide (k=3)) kids):=by
  unfold wrT
  rw [Int.toNat_natCast]
theorem gdTs_mem {k d:Int} : ∀ {ts:List Raw} {j:Nat} {t:Raw},gdTs k d ts→ts[j]?=some t→gdT t∧(0≤kidOf k→kindOf t=kidOf k)∧(k=3→dimR t=d.toNat)
  | [],_,_,_,h=>by simp at h
  | s::ts,0,t,h,hj=>by
    unfold gdTs at h
    simp at hj
    subst hj
    exact ⟨h.1,h.2.1,h.2.2.1⟩
  | s::ts,j+1,t,h,hj=>by
    unfold gdTs at h
    exact gdTs_mem h.2.2.2 (by simpa using hj)
theorem bLine_len (t:Raw):(bLine t).length≤50*wt t:=by
  obtain ⟨k,d,n,f,kids⟩:=t
  have e8:=numsW_len n f
  unfold bLine wt
  rw [List.length_append,leB_len,e8]
  omega
theorem wgeom_any:∀ (h:Nat) (B:Nat→Prop) (V:World) (v:Value) (t:Raw),KD B h V v t→gdT t→∀ (W:World) (rb:Nat) (x:Value) (l:List UInt8),WS V W rb x l→l.length+50*wt t≤999000 →
    Calls Tryz.prog 89 #[.pointer (some ⟨rb,0,none⟩),v] W fun e w'=>e=.returned (.tuple #[])∧∃ x',WT V W w' rb x x' (l++wrT t)
  | 0,_,_,_,_,hk,_,_,_,_,_,_,_=>hk.elim
  | h+1,B,V,v,.mk k d n f kids,hk,hg,W,rb,x,l,hs,hl=>by
    obtain ⟨p,cap,q,c2,rfl,hf,h1,h2,h3,hm1,hm2,hm3,hm4,_⟩:=hk
    unfold gdT at hg
    obtain ⟨k0,k6,d0,d4,hnf,g1,g2,g3,g4,g5,gks⟩:=hg
    obtain ⟨dm,rfl⟩ : ∃ dm:Nat,d=(dm:Int):=⟨d.toNat,by omega⟩
    rw [Int.toNat_natCast] at g1 g2
    have hd:dm<4:=by omega
    unfold wt at hl
    have hL:∀ c,(l++[1]++Lib.leBytes 4 c).length=l.length+5:=fun c=>by simp [List.length_append,leB_len]
    rw [wrT_eq]
    have fin:∀ (c:Nat) (b:List UInt8) {e:Ending} {w':World},(e=.returned (.tuple #[])∧∃ x',WT V W w' rb x x' (l++[1]++Lib.leBytes 4 c++b))→e=.returned (.tuple #[])∧∃ x',WT V W w' rb x x' (l++([1]++Lib.leBytes 4 c++b)):=fun c b e w' ⟨he,x',hx⟩=>⟨he,x',by rw [←List.append_assoc,←List.append_assoc];exact hx⟩
    by_cases hk1:k=1
    · subst hk1
      rw [if_pos rfl]
      by_cases hn:n=0
      · subst hn
        rw [if_pos rfl]
        exact (wpt0 V W rb x l _ dm hd p q cap kids.length c2 rfl (by rw [hL];omega) hs).mono fun e w' hh=>fin _ _ hh
      · rw [if_neg hn]
        exact (wpt1 V W rb x l _ dm hd p q n cap kids.length c2 f rfl (by rw [hL];omega) hn hf hs).mono fun e w' hh=>fin _ _ hh
    · by_cases hk2:k=2
      · subst hk2
        rw [if_neg (by decide),if_pos rfl]
        exact (wln V W rb x l _ dm hd p q n cap kids.length c2 f kids rfl (by rw [hL];omega) hf hs).mono fun e w' hh=>fin _ _ hh
      · rw [if_neg hk1,if_neg hk2]
        have fin2:∀ (c:Nat) (b b2:List UInt8) {e:Ending} {w':World},(e=.returned (.tuple #[])∧∃ x',WT V W w' rb x x' (l++[1]++Lib.leBytes 4 c++b++b2))→e=.returned (.tuple #[])∧∃ x',WT V W w' rb x x' (l++([1]++Lib.leBytes 4 c++(b++b2))):=fun c b b2 e w' ⟨he,x',hx⟩=>⟨he,x',by simpa only [List.append_assoc] using hx⟩
        have hkid:∀ (j:Nat) (t:Raw),kids[j]?=some t→∃ a k6 d6 n6 f6 kids6 p6 c6 q6 c7,q=some a∧V.cell? (a.add (j*4))=some (.int .i64 k6)∧V.cell? ⟨(a.add (j*4)).block,(a.add (j*4)).off+1,none⟩=some (.int .i64 d6)∧V.cell? ⟨(a.add (j*4)).block,(a.add (j*4)).off+2,none⟩=some (.slice p6 n6 c6)∧V.cell? ⟨(a.add (j*4)).block,(a.add (j*4)).off+3,none⟩=some (.slice q6 kids6.length c7)∧KD B h V (.agg #[.int .i64 k6,.int .i64 d6,.slice p6 n6 c6,.slice q6 kids6.length c7]) t∧t=.mk k6 d6 n6 f6 kids6:=fun j t hj=>by
          have hlt:=(List.getElem?_eq_some_iff.1 hj).1
          obtain ⟨a,rfl⟩ : ∃ a,q=some a:=by
            cases q with
            | none=>have:=hm3 rfl;omega
            | some a=>exact ⟨a,rfl⟩
          obtain ⟨c0,c1,c2,c3,kk,z0,z1,z2,z3⟩:=hm4 a rfl j t hj
          obtain ⟨k6,d6,n6,f6,kids6,p6,c6,q6,c7,e,rfl,rfl,rfl,rfl⟩:=kk.form4
          exact ⟨a,k6,d6,n6,f6,kids6,p6,c6,q6,c7,rfl,z0,z1,z2,z3,kk,e⟩
        have hgeo:k≠3→∀ (j:Nat) (t:Raw),kids[j]?=some t→∃ a k6 d6 p6 n6 c6 q6 m6 c7,q=some a∧V.cell? (a.add (j*4))=some (.int .i64 k6)∧V.cell? ⟨(a.add (j*4)).block,(a.add (j*4)).off+1,none⟩=some (.int .i64 d6)∧V.cell? ⟨(a.add (j*4)).block,(a.add (j*4)).off+2,none⟩=some (.slice p6 n6 c6)∧V.cell? ⟨(a.add (j*4)).block,(a.add (j*4)).off+3,none⟩=some (.slice q6 m6 c7)∧(wrT t).length≤50*wt t ∧
            ∀ w x1 l1,WS V w rb x1 l1→l1.length+50*wt t≤999000→Calls Tryz.prog 89 #[.pointer (some ⟨rb,0,none⟩),.agg #[.int .i64 k6,.int .i64 d6,.slice p6 n6 c6,.slice q6 m6 c7]] w fun e w'=>e=.returned (.tuple #[])∧∃ x',WT V w w' rb x1 x' (l1++wrT t):=fun _ j t hj=>by
          obtain ⟨a,k6,d6,n6,f6,kids6,p6,c6,q6,c7,rfl,z0,z1,z2,z3,kk,e⟩:=hkid j t hj
          have hgt:=(gdTs_mem gks hj).1
          exact ⟨a,k6,d6,p6,n6,c6,q6,_,c7,rfl,z0,z1,z2,z3,wrT_len t hgt,fun w x1 l1 hs1 hl1=>wgeom_any h B V _ t kk hgt w rb x1 l1 hs1 hl1⟩
        rcases (by omega:k=3∨k=0∨k=4∨k=5∨k=6) with rfl | rfl | rfl | rfl | rfl
        · refine (wco3 V W rb x l _ dm hd p q n cap kids.length c2 kids rfl (by rw [hL];omega) rfl g3 (fun j t hj=>?_) hs).mono fun e w' hh=>fin2 _ _ _ hh
          obtain ⟨a,k6,d6,n6,f6,kids6,p6,c6,q6,c7,rfl,z0,z1,z2,z3,kk,e⟩:=hkid j t hj
          obtain ⟨hgt,_,_⟩:=gdTs_mem gks hj
          refine ⟨a,k6,d6,p6,n6,c6,q6,_,c7,rfl,z0,z1,z2,z3,bLine_len t,fun w x1 l1 hs1 hl1=>?_⟩
          subst e
          unfold gdT at hgt
          obtain ⟨dm6,rfl⟩ : ∃ dm:Nat,d6=(dm:Int):=⟨d6.toNat,by omega⟩
          unfold wt at hl1
          cases h with
          | zero=>exact kk.elim
          | succ h =>
            obtain ⟨p',cap',q',c2',he,hf',_⟩:=kk
            simp only [Value.agg.injEq,Array.mk.injEq,List.cons.injEq,Value.slice.injEq,and_true,true_and] at he
            obtain ⟨⟨rfl,rfl⟩,rfl,rfl⟩:=he
            exact wline_any V w rb x1 l1 k6 dm6 (by omega) p6 q6 n6 c6 _ c7 f6 kids6 (by omega) hf' hs1
        · exact (wco0 V W rb x l _ dm hd 0 7 (fun w=>wkbCode_0 w) (by decide) (by decide) (by decide) (by decide) (by decide) (by decide) (by decide) p q n cap kids.length c2 kids rfl (by rw [hL];omega) rfl g3 (hgeo (by decide)) hs).mono fun e w' hh=>fin2 _ _ _ hh
        · exact (wco0 V W rb x l _ dm hd 4 4 (fun w=>wkbCode_4 w) (by decide) (by decide) (by decide) (by decide) (by decide) (by decide) (by decide) p q n cap kids.length c2 kids rfl (by rw [hL];omega) rfl g3 (hgeo (by decide)) hs).mono fun e w' hh=>fin2 _ _ _ hh
        · exact (wco0 V W rb x l _ dm hd 5 5 (fun w=>wkbCode_5 w) (by decide) (by decide) (by decide) (by decide) (by decide) (by decide) (by decide) p q n cap kids.length c2 kids rfl (by rw [hL];omega) rfl g3 (hgeo (by decide)) hs).mono fun e w' hh=>fin2 _ _ _ hh
        · exact (wco0 V W rb x l _ dm hd 6 6 (fun w=>wkbCode_6 w) (by decide) (by decide) (by decide) (by decide) (by decide) (by decide) (by decide) p q n cap kids.length c2 kids rfl (by rw [hL];omega) rfl g3 (hgeo (by decide)) hs).mono fun e w' hh=>fin2 _ _ _ hh
theorem ownsRow_lower {w:World} {base base' size n:Nat} {e:TypeId} {v:Value} {xs:List Value} (h:w.ownsRow base e size v n xs) (hb:base'≤base):w.ownsRow base' e size v n xs :=
  ⟨h.1,h.2.imp id fun ⟨g,cap,cur,e1,e2,rest⟩=>⟨g,cap,cur,e1,Nat.le_trans hb e2,rest⟩⟩
def WrP (W:World) (l:List UInt8) (e:Ending) (w':World):Prop:=∃ x,e=.returned x∧w'.ownsRow W.heap.size 5 1 x l.length (Bs l)∧W.grownBy w' none
theorem WriteAs_any (h:Nat) (B:Nat→Prop) (W:World) (k d:Int) (p q:Option Addr) (n c m c2:Nat) (t:Raw) (hk:KD B h W (.agg #[.int .i64 k,.int .i64 d,.slice p n c,.slice q m c2]) t) (hg:gdT t) (hw:wt t≤2000) :
    Calls Tryz.prog 40 #[.agg #[.int .i64 k,.int .i64 d,.slice p n c,.slice q m c2],.slice none 0 0] W (WrP W (wrT t)):=by
  have hs0:WS W ((W.alloc (.cells #[.int .i64 k,.int .i64 d,.slice p n c,.slice q m c2] 33)).alloc (.cells #[.slice none 0 0,.slice none 0 0] 152)) (W.heap.size+1) (.slice none 0 0) [] :=
    ⟨gt_alloc_r (World.grownBy_alloc W _ none) _,by omega,by simp,by simp,fun j=>by simp,World.ownsRow_nil _ _ _ _,by simp [Value.ownBlock]⟩
  have HG:=Lib.hid (wgeom_any h B W _ t hk hg _ (W.heap.size+1) (.slice none 0 0) [] hs0 (by simp;omega))
  generalize wrT t=L at HG ⊢
  clear hk hg hw hs0
  go_enter Tryz.func40,Tryz.ntmps40
  go_wp2_with (first
    | (go_at_call 89;go_loud (refine HG.out.mono ?_;rintro e w1 ⟨rfl,x1,hx1⟩;have HX:=Lib.hid hx1;have c0:=hx1.s.c0;clear hx1)))
  go_ret
  exact ⟨_,rfl,HX.out.s.own,HX.out.s.g⟩
theorem WriteWKB_any (h:Nat) (B:Nat→Prop) (W:World) (k d:Int) (p q:Option Addr) (n c m c2:Nat) (t:Raw) (hk:KD B h W (.agg #[.int .i64 k,.int .i64 d,.slice p n c,.slice q m c2]) t) (hg:gdT t) (hw:wt t≤2000) :
    Calls Tryz.prog 21 #[.agg #[.int .i64 k,.int .i64 d,.slice p n c,.slice q m c2]] W fun e w'=>∃ x,e=.returned x∧w'.ownsRow W.heap.size 5 1 x (wrT t).length (Bs (wrT t))∧W.grownBy w' none:=by
  have G1:=World.grownBy_alloc W (.cells #[.int .i64 k,.int .i64 d,.slice p n c,.slice q m c2] 33) none
  have HA:=Lib.hid (WriteAs_any h B _ k d p q n c m c2 t (hk.mono G1) hg hw)
  clear hk hg hw
  go_enter Tryz.func21,Tryz.ntmps21
  go_wp2_with (first
    | (go_at_call 40;refine HA.out.mono ?_;unfold WrP;rintro e w1 ⟨x,rfl,hown,hg⟩))
  go_ret
  exact ⟨_,rfl,ownsRow_lower hown (by simp),gt_trans G1 hg (.inl rfl)⟩
end
section
open Go.RowKit
end
section
open Go.RowKit
end
end Go.Proofs.YtlpaecafpbbbkaaGreatDoor
