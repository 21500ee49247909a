/- A place of a row of numbers, of each type of coordinates (printed by genget.py). -/
import Derived.Test.YtlpaecafpbbbkaaGreatDoorRCT1
set_option linter.unusedVariables false
set_option linter.unusedSimpArgs false
set_option maxRecDepth 100000
set_option maxHeartbeats 24000000
namespace Go.Proofs.YtlpaecafpbbbkaaGreatDoor
section
open Go.RowKit
theorem Get_0 (n i:Nat) (a:Addr) (f:Nat→Nat) (hn:n≤2513169434843) (hi:i*2+1<n) (W:World) (hf:FVal W (some a) n f) :
    Calls Tryz.prog 106 #[.agg #[.int .u8 0,.slice (some a) n n],.int .i64 i] W fun e w'=>e=.returned (.agg #[.float .f64 (f (i*2)),.float .f64 (f (i*2+1)),.float .f64 0,.float .f64 0,.int .u8 0])∧W.grownBy w' none:=by
  have HD:=Lib.hid (fun w=>Dimension_lit 0 2 (.inl ⟨rfl,rfl⟩) w)
  obtain ⟨j1,e1⟩ : ∃ j1,j1=i*2+1:=⟨_,rfl⟩
  rw [←e1] at hi ⊢
  obtain ⟨j0,e0⟩ : ∃ j0,j0=i*2:=⟨_,rfl⟩
  rw [←e0] at e1 ⊢
  have q0:=hf.at_ a rfl j0 (by omega)
  have q1:=hf.at_ a rfl j1 (by omega)
  have hw0:IntKind.i64.wrap ((i:Int)*2)=(j0:Int):=by rw [IntKind.wrap_i64];omega
  have hw1:IntKind.i64.wrap ((j0:Int)+1)=(j1:Int):=by rw [IntKind.wrap_i64];omega
  have b00:(0:Int)≤(j0:Int):=by omega
  have b01:(j0:Int)<(n:Int):=by omega
  have b10:(0:Int)≤(j1:Int):=by omega
  have b11:(j1:Int)<(n:Int):=by omega
  clear e0 e1
  have hsf:=run_store_flt Tryz.prog
  have HS:Hid (∀ w',((W.alloc (.cells #[.int .u8 0,.slice (some a) n n] 91)).alloc (.cells #[.float .f64 0,.float .f64 0,.float .f64 0,.float .f64 0,.int .u8 0] 85)).grownBy w' none→w'.cell? ⟨W.heap.size,0,none⟩=some (.int .u8 0)∧w'.cell? ⟨W.heap.size,1,none⟩=some (.slice (some a) n n)∧w'.cell? (a.add j0)=some (.float .f64 (f j0))∧w'.cell? (a.add j1)=some (.float .f64 (f j1))):=fun w' g=>by
    have g0:=gt_trans (gt_alloc_r (World.grownBy_alloc W _ none) _) g (.inl rfl)
    exact ⟨g.cell (by simp) (by simp),g.cell (by simp) (by simp),g0.cell q0 (by simp),g0.cell q1 (by simp)⟩
  go_enter Tryz.func106,Tryz.ntmps106
  go_wp2_with (go_at_call 168;refine (HD.out _).mono ?_;rintro e w' ⟨rfl,rfl⟩)
  go_region_held3 (fun w'=>w'.cell? ⟨W.heap.size,0,none⟩=some (.int .u8 0)∧w'.cell? ⟨W.heap.size,1,none⟩=some (.slice (some a) n n)∧w'.cell? (a.add j0)=some (.float .f64 (f j0))∧w'.cell? (a.add j1)=some (.float .f64 (f j1))) (first | exact HS.out _ (gt_below (by go_grown) none))
    (first | (fail))
  rename_i hHeld
  obtain ⟨h0,h1,p0,p1⟩:=hHeld
  clear q0 q1
  go_wp2_with fail
  go_returns
  exact ⟨rfl,gt_below (by go_grown) none⟩
theorem Get_1 (n i:Nat) (a:Addr) (f:Nat→Nat) (hn:n≤2513169434843) (hi:i*3+2<n) (W:World) (hf:FVal W (some a) n f) :
    Calls Tryz.prog 106 #[.agg #[.int .u8 1,.slice (some a) n n],.int .i64 i] W fun e w'=>e=.returned (.agg #[.float .f64 (f (i*3)),.float .f64 (f (i*3+1)),.float .f64 (f (i*3+2)),.float .f64 0,.int .u8 1])∧W.grownBy w' none:=by
  have HD:=Lib.hid (fun w=>Dimension_lit 1 3 (.inr (.inl ⟨rfl,rfl⟩)) w)
  obtain ⟨j2,e2⟩ : ∃ j2,j2=i*3+2:=⟨_,rfl⟩
  rw [←e2] at hi ⊢
  obtain ⟨j1,e1⟩ : ∃ j1,j1=i*3+1:=⟨_,rfl⟩
  rw [←e1]
  obtain ⟨j0,e0⟩ : ∃ j0,j0=i*3:=⟨_,rfl⟩
  rw [←e0] at e1 e2 ⊢
  have q0:=hf.at_ a rfl j0 (by omega)
  have q1:=hf.at_ a rfl j1 (by omega)
  have q2:=hf.at_ a rfl j2 (by omega)
  have hw0:IntKind.i64.wrap ((i:Int)*3)=(j0:Int):=by rw [IntKind.wrap_i64];omega
  have hw1:IntKind.i64.wrap ((j0:Int)+1)=(j1:Int):=by rw [IntKind.wrap_i64];omega
  have hw2:IntKind.i64.wrap ((j0:Int)+2)=(j2:Int):=by rw [IntKind.wrap_i64];omega
  have b00:(0:Int)≤(j0:Int):=by omega
  have b01:(j0:Int)<(n:Int):=by omega
  have b10:(0:Int)≤(j1:Int):=by omega
  have b11:(j1:Int)<(n:Int):=by omega
  have b20:(0:Int)≤(j2:Int):=by omega
  have b21:(j2:Int)<(n:Int):=by omega
  clear e0 e1 e2
  have hsf:=run_store_flt Tryz.prog
  have HS:Hid (∀ w',((W.alloc (.cells #[.int .u8 1,.slice (some a) n n] 91)).alloc (.cells #[.float .f64 0,.float .f64 0,.float .f64 0,.float .f64 0,.int .u8 0] 85)).grownBy w' none→w'.cell? ⟨W.heap.size,0,none⟩=some (.int .u8 1)∧w'.cell? ⟨W.heap.size,1,none⟩=some (.slice (some a) n n)∧w'.cell? (a.add j0)=some (.float .f64 (f j0))∧w'.cell? (a.add j1)=some (.float .f64 (f j1))∧w'.cell? (a.add j2)=some (.float .f64 (f j2))):=fun w' g=>by
    have g0:=gt_trans (gt_alloc_r (World.grownBy_alloc W _ none) _) g (.inl rfl)
    exact ⟨g.cell (by simp) (by simp),g.cell (by simp) (by simp),g0.cell q0 (by simp),g0.cell q1 (by simp),g0.cell q2 (by simp)⟩
  go_enter Tryz.func106,Tryz.ntmps106
  go_wp2_with (go_at_call 168;refine (HD.out _).mono ?_;rintro e w' ⟨rfl,rfl⟩)
  go_region_held3 (fun w'=>w'.cell? ⟨W.heap.size,0,none⟩=some (.int .u8 1)∧w'.cell? ⟨W.heap.size,1,none⟩=some (.slice (some a) n n)∧w'.cell? (a.add j0)=some (.float .f64 (f j0))∧w'.cell? (a.add j1)=some (.float .f64 (f j1))∧w'.cell? (a.add j2)=some (.float .f64 (f j2))) (first | exact HS.out _ (gt_below (by go_grown) none))
    (first | (fail))
  rename_i hHeld
  obtain ⟨h0,h1,p0,p1,p2⟩:=hHeld
  clear q0 q1 q2
  go_wp2_with fail
  go_returns
  exact ⟨rfl,gt_below (by go_grown) none⟩
theorem Get_2 (n i:Nat) (a:Addr) (f:Nat→Nat) (hn:n≤2513169434843) (hi:i*3+2<n) (W:World) (hf:FVal W (some a) n f) :
    Calls Tryz.prog 106 #[.agg #[.int .u8 2,.slice (some a) n n],.int .i64 i] W fun e w'=>e=.returned (.agg #[.float .f64 (f (i*3)),.float .f64 (f (i*3+1)),.float .f64 0,.float .f64 (f (i*3+2)),.int .u8 2])∧W.grownBy w' none:=by
  have HD:=Lib.hid (fun w=>Dimension_lit 2 3 (.inr (.inr (.inl ⟨rfl,rfl⟩))) w)
  obtain ⟨j2,e2⟩ : ∃ j2,j2=i*3+2:=⟨_,rfl⟩
  rw [←e2] at hi ⊢
  obtain ⟨j1,e1⟩ : ∃ j1,j1=i*3+1:=⟨_,rfl⟩
  rw [←e1]
  obtain ⟨j0,e0⟩ : ∃ j0,j0=i*3:=⟨_,rfl⟩
  rw [←e0] at e1 e2 ⊢
  have q0:=hf.at_ a rfl j0 (by omega)
  have q1:=hf.at_ a rfl j1 (by omega)
  have q2:=hf.at_ a rfl j2 (by omega)
  have hw0:IntKind.i64.wrap ((i:Int)*3)=(j0:Int):=by rw [IntKind.wrap_i64];omega
  have hw1:IntKind.i64.wrap ((j0:Int)+1)=(j1:Int):=by rw [IntKind.wrap_i64];omega
  have hw2:IntKind.i64.wrap ((j0:Int)+2)=(j2:Int):=by rw [IntKind.wrap_i64];omega
  have b00:(0:Int)≤(j0:Int):=by omega
  have b01:(j0:Int)<(n:Int):=by omega
  have b10:(0:Int)≤(j1:Int):=by omega
  have b11:(j1:Int)<(n:Int):=by omega
  have b20:(0:Int)≤(j2:Int):=by omega
  have b21:(j2:Int)<(n:Int):=by omega
  clear e0 e1 e2
  have hsf:=run_store_flt Tryz.prog
  have HS:Hid (∀ w',((W.alloc (.cells #[.int .u8 2,.slice (some a) n n] 91)).alloc (.cells #[.float .f64 0,.float .f64 0,.float .f64 0,.float .f64 0,.int .u8 0] 85)).grownBy w' none→w'.cell? ⟨W.heap.size,0,none⟩=some (.int .u8 2)∧w'.cell? ⟨W.heap.size,1,none⟩=some (.slice (some a) n n)∧w'.cell? (a.add j0)=some (.float .f64 (f j0))∧w'.cell? (a.add j1)=some (.float .f64 (f j1))∧w'.cell? (a.add j2)=some (.float .f64 (f j2))):=fun w' g=>by
    have g0:=gt_trans (gt_alloc_r (World.grownBy_alloc W _ none) _) g (.inl rfl)
    exact ⟨g.cell (by simp) (by simp),g.cell (by simp) (by simp),g0.cell q0 (by simp),g0.cell q1 (by simp),g0.cell q2 (by simp)⟩
  go_enter Tryz.func106,Tryz.ntmps106
  go_wp2_with (go_at_call 168;refine (HD.out _).mono ?_;rintro e w' ⟨rfl,rfl⟩)
  go_region_held3 (fun w'=>w'.cell? ⟨W.heap.size,0,none⟩=some (.int .u8 2)∧w'.cell? ⟨W.heap.size,1,none⟩=some (.slice (some a) n n)∧w'.cell? (a.add j0)=some (.float .f64 (f j0))∧w'.cell? (a.add j1)=some (.float .f64 (f j1))∧w'.cell? (a.add j2)=some (.float .f64 (f j2))) (first | exact HS.out _ (gt_below (by go_grown) none))
    (first | (fail))
  rename_i hHeld
  obtain ⟨h0,h1,p0,p1,p2⟩:=hHeld
  clear q0 q1 q2
  go_wp2_with fail
  go_returns
  exact ⟨rfl,gt_below (by go_grown) none⟩
theorem Get_3 (n i:Nat) (a:Addr) (f:Nat→Nat) (hn:n≤2513169434843) (hi:i*4+3<n) (W:World) (hf:FVal W (some a) n f) :
    Calls Tryz.prog 106 #[.agg #[.int .u8 3,.slice (some a) n n],.int .i64 i] W fun e w'=>e=.returned (.agg #[.float .f64 (f (i*4)),.float .f64 (f (i*4+1)),.float .f64 (f (i*4+2)),.float .f64 (f (i*4+3)),.int .u8 3])∧W.grownBy w' none:=by
  have HD:=Lib.hid (fun w=>Dimension_lit 3 4 (.inr (.inr (.inr ⟨rfl,rfl⟩))) w)
  obtain ⟨j3,e3⟩ : ∃ j3,j3=i*4+3:=⟨_,rfl⟩
  rw [←e3] at hi ⊢
  obtain ⟨j2,e2⟩ : ∃ j2,j2=i*4+2:=⟨_,rfl⟩
  rw [←e2]
  obtain ⟨j1,e1⟩ : ∃ j1,j1=i*4+1:=⟨_,rfl⟩
  rw [←e1]
  obtain ⟨j0,e0⟩ : ∃ j0,j0=i*4:=⟨_,rfl⟩
  rw [←e0] at e1 e2 e3 ⊢
  have q0:=hf.at_ a rfl j0 (by omega)
  have q1:=hf.at_ a rfl j1 (by omega)
  have q2:=hf.at_ a rfl j2 (by omega)
  have q3:=hf.at_ a rfl j3 (by omega)
  have hw0:IntKind.i64.wrap ((i:Int)*4)=(j0:Int):=by rw [IntKind.wrap_i64];omega
  have hw1:IntKind.i64.wrap ((j0:Int)+1)=(j1:Int):=by rw [IntKind.wrap_i64];omega
  have hw2:IntKind.i64.wrap ((j0:Int)+2)=(j2:Int):=by rw [IntKind.wrap_i64];omega
  have hw3:IntKind.i64.wrap ((j0:Int)+3)=(j3:Int):=by rw [IntKind.wrap_i64];omega
  have b00:(0:Int)≤(j0:Int):=by omega
  have b01:(j0:Int)<(n:Int):=by omega
  have b10:(0:Int)≤(j1:Int):=by omega
  have b11:(j1:Int)<(n:Int):=by omega
  have b20:(0:Int)≤(j2:Int):=by omega
  have b21:(j2:Int)<(n:Int):=by omega
  have b30:(0:Int)≤(j3:Int):=by omega
  have b31:(j3:Int)<(n:Int):=by omega
  clear e0 e1 e2 e3
  have hsf:=run_store_flt Tryz.prog
  have HS:Hid (∀ w',((W.alloc (.cells #[.int .u8 3,.slice (some a) n n] 91)).alloc (.cells #[.float .f64 0,.float .f64 0,.float .f64 0,.float .f64 0,.int .u8 0] 85)).grownBy w' none→w'.cell? ⟨W.heap.size,0,none⟩=some (.int .u8 3)∧w'.cell? ⟨W.heap.size,1,none⟩=some (.slice (some a) n n)∧w'.cell? (a.add j0)=some (.float .f64 (f j0))∧w'.cell? (a.add j1)=some (.float .f64 (f j1))∧w'.cell? (a.add j2)=some (.float .f64 (f j2))∧w'.cell? (a.add j3)=some (.float .f64 (f j3))):=fun w' g=>by
    have g0:=gt_trans (gt_alloc_r (World.grownBy_alloc W _ none) _) g (.inl rfl)
    exact ⟨g.cell (by simp) (by simp),g.cell (by simp) (by simp),g0.cell q0 (by simp),g0.cell q1 (by simp),g0.cell q2 (by simp),g0.cell q3 (by simp)⟩
  go_enter Tryz.func106,Tryz.ntmps106
  go_wp2_with (go_at_call 168;refine (HD.out _).mono ?_;rintro e w' ⟨rfl,rfl⟩)
  go_region_held3 (fun w'=>w'.cell? ⟨W.heap.size,0,none⟩=some (.int .u8 3)∧w'.cell? ⟨W.heap.size,1,none⟩=some (.slice (some a) n n)∧w'.cell? (a.add j0)=some (.float .f64 (f j0))∧w'.cell? (a.add j1)=some (.float .f64 (f j1))∧w'.cell? (a.add j2)=some (.float .f64 (f j2))∧w'.cell? (a.add j3)=some (.float .f64 (f j3))) (first | exact HS.out _ (gt_below (by go_grown) none))
    (first | (fail))
  rename_i hHeld
  obtain ⟨h0,h1,p0,p1,p2,p3⟩:=hHeld
  clear q0 q1 q2 q3
  have pa3:∀ O:Obj,((((W.alloc (.cells #[.int .u8 3,.slice (some a) n n] 91)).alloc (.cells #[.float .f64 0,.float .f64 0,.float .f64 0,.float .f64 0,.int .u8 0] 85)).alloc O).drew).cell? (a.add j3)=some (.float .f64 (f j3)):=fun O=>(HS.out _ (gt_below (by go_grown) none)).2.2.2.2.2
  go_wp2_with fail
  go_returns
  exact ⟨rfl,gt_below (by go_grown) none⟩
end
end Go.Proofs.YtlpaecafpbbbkaaGreatDoor
