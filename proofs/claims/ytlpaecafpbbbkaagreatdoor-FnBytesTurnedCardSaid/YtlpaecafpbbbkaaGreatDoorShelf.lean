/-
  DERIVED: THE SHELF's CONTRACTS AT THIS DUMP, IN PLAIN WORDS (tools/lay-plain.mjs out of 'TryzShelf.lean', which tools/lay-shelf.mjs wrote): THE SAME DECLARATIONS UNDER THE SAME NAMES: 'import', 'namespace', 'open', 'def', 'theorem' AND NOTHING ELSE: no command of the shelf's: FOR A HAND-IN. Each laying: the table of numbers ('.._ren') and one theorem, a field a fact of the dump's own or the kernel's comparison; each contract: ONE APPLICATION.
-/
import Derived.Ground.MnProg
import Derived.Shelf.Bin.LEUint32
import Derived.Shelf.Bin.LEUint64
import Derived.Shelf.Bin.BEUint32
import Derived.Shelf.Bin.BEUint64
import Derived.Test.YtlpaecafpbbbkaaGreatDoorProg
namespace Go.Proofs
open Go.Shelf
def Tryz.laysBin30_ren : Go.Shelf.Ren := ⟨fun | 30 => 242 | n => n, fun | 25 => 326 | 22 => 39 | 29 => 261 | 0 => 0 | 5 => 5 | 45 => 154 | n => n, fun | n => n⟩
theorem Tryz.laysBin30 : Go.Proofs.LaysBin.n30 Tryz.prog Tryz.laysBin30_ren := {
  mixed := by kernel_rfl
  f30 := Tryz.func242.trans (congrArg some (by kernel_rfl))
  t0 := Tryz.underlying0
  a0 := Tryz.isAgg0
  z0 := Tryz.sizeOf0
  v0 := Tryz.zeroValue0
  i0 := by kernel_rfl
  t5 := Tryz.underlying5
  a5 := Tryz.isAgg5
  z5 := Tryz.sizeOf5
  v5 := Tryz.zeroValue5
  i5 := by kernel_rfl
  t22 := Tryz.underlying39
  a22 := Tryz.isAgg39
  z22 := Tryz.sizeOf39
  v22 := Tryz.zeroValue39
  i22 := by kernel_rfl
  t25 := Tryz.underlying326
  a25 := Tryz.isAgg326
  z25 := Tryz.sizeOf326
  v25 := Tryz.zeroValue326
  i25 := by kernel_rfl
  t29 := Tryz.underlying261
  a29 := Tryz.isAgg261
  z29 := Tryz.sizeOf261
  v29 := Tryz.zeroValue261
  i29 := by kernel_rfl
  t45 := Tryz.underlying154
  a45 := Tryz.isAgg154
  z45 := Tryz.sizeOf154
  v45 := Tryz.zeroValue154
  i45 := by kernel_rfl }
open Go.RowKit in
/-- binary.LittleEndian.Uint32: "Uint32 returns the uint32 representation of b[0:4].": THE NUMBER THAT THE FIRST 4 BYTES SPELL, the least byte first ('Lib.leNat'). Of what was there nothing has turned (the receiver, an empty struct, is laid in a new block without cells; the statement's order is drawn). (LAID: no walk: one application.) -/
theorem Tryz.binary_LE_Uint32 (g o n c : Nat) (b0 b1 b2 b3 : UInt8) (w : World) (hn : 4 ≤ n) (c0 : w.cell? ⟨g, o, none⟩ = some (.int .u8 b0.toNat)) (c1 : w.cell? ⟨g, o + 1, none⟩ = some (.int .u8 b1.toNat)) (c2 : w.cell? ⟨g, o + 2, none⟩ = some (.int .u8 b2.toNat)) (c3 : w.cell? ⟨g, o + 3, none⟩ = some (.int .u8 b3.toNat)) :
    Calls Tryz.prog 242 #[.agg #[], .slice (some ⟨g, o, none⟩) n c] w fun e w' => e = .returned (.int .u32 (Lib.leNat [b0, b1, b2, b3])) ∧ Below w.heap.size w w' := Any.binary_LE_Uint32 Tryz.laysBin30 g o n c b0 b1 b2 b3 w hn c0 c1 c2 c3
def Tryz.laysBin33_ren : Go.Shelf.Ren := ⟨fun | 33 => 293 | n => n, fun | 25 => 326 | 22 => 39 | 33 => 140 | 0 => 0 | 5 => 5 | 45 => 154 | n => n, fun | n => n⟩
theorem Tryz.laysBin33 : Go.Proofs.LaysBin.n33 Tryz.prog Tryz.laysBin33_ren := {
  mixed := by kernel_rfl
  f33 := Tryz.func293.trans (congrArg some (by kernel_rfl))
  t0 := Tryz.underlying0
  a0 := Tryz.isAgg0
  z0 := Tryz.sizeOf0
  v0 := Tryz.zeroValue0
  i0 := by kernel_rfl
  t5 := Tryz.underlying5
  a5 := Tryz.isAgg5
  z5 := Tryz.sizeOf5
  v5 := Tryz.zeroValue5
  i5 := by kernel_rfl
  t22 := Tryz.underlying39
  a22 := Tryz.isAgg39
  z22 := Tryz.sizeOf39
  v22 := Tryz.zeroValue39
  i22 := by kernel_rfl
  t25 := Tryz.underlying326
  a25 := Tryz.isAgg326
  z25 := Tryz.sizeOf326
  v25 := Tryz.zeroValue326
  i25 := by kernel_rfl
  t33 := Tryz.underlying140
  a33 := Tryz.isAgg140
  z33 := Tryz.sizeOf140
  v33 := Tryz.zeroValue140
  i33 := by kernel_rfl
  t45 := Tryz.underlying154
  a45 := Tryz.isAgg154
  z45 := Tryz.sizeOf154
  v45 := Tryz.zeroValue154
  i45 := by kernel_rfl }
open Go.RowKit in
/-- binary.LittleEndian.Uint64: "Uint64 returns the uint64 representation of b[0:8].": THE NUMBER THAT THE FIRST 8 BYTES SPELL, the least byte first ('Lib.leNat'). Of what was there nothing has turned (the receiver, an empty struct, is laid in a new block without cells; the statement's order is drawn). (LAID: no walk: one application.) -/
theorem Tryz.binary_LE_Uint64 (g o n c : Nat) (b0 b1 b2 b3 b4 b5 b6 b7 : UInt8) (w : World) (hn : 8 ≤ n) (c0 : w.cell? ⟨g, o, none⟩ = some (.int .u8 b0.toNat)) (c1 : w.cell? ⟨g, o + 1, none⟩ = some (.int .u8 b1.toNat)) (c2 : w.cell? ⟨g, o + 2, none⟩ = some (.int .u8 b2.toNat)) (c3 : w.cell? ⟨g, o + 3, none⟩ = some (.int .u8 b3.toNat)) (c4 : w.cell? ⟨g, o + 4, none⟩ = some (.int .u8 b4.toNat)) (c5 : w.cell? ⟨g, o + 5, none⟩ = some (.int .u8 b5.toNat)) (c6 : w.cell? ⟨g, o + 6, none⟩ = some (.int .u8 b6.toNat)) (c7 : w.cell? ⟨g, o + 7, none⟩ = some (.int .u8 b7.toNat)) :
    Calls Tryz.prog 293 #[.agg #[], .slice (some ⟨g, o, none⟩) n c] w fun e w' => e = .returned (.int .u64 (Lib.leNat [b0, b1, b2, b3, b4, b5, b6, b7])) ∧ Below w.heap.size w w' := Any.binary_LE_Uint64 Tryz.laysBin33 g o n c b0 b1 b2 b3 b4 b5 b6 b7 w hn c0 c1 c2 c3 c4 c5 c6 c7
def Tryz.laysBin39_ren : Go.Shelf.Ren := ⟨fun | 39 => 241 | n => n, fun | 37 => 324 | 22 => 39 | 29 => 261 | 0 => 0 | 5 => 5 | 45 => 154 | n => n, fun | n => n⟩
theorem Tryz.laysBin39 : Go.Proofs.LaysBin.n39 Tryz.prog Tryz.laysBin39_ren := {
  mixed := by kernel_rfl
  f39 := Tryz.func241.trans (congrArg some (by kernel_rfl))
  t0 := Tryz.underlying0
  a0 := Tryz.isAgg0
  z0 := Tryz.sizeOf0
  v0 := Tryz.zeroValue0
  i0 := by kernel_rfl
  t5 := Tryz.underlying5
  a5 := Tryz.isAgg5
  z5 := Tryz.sizeOf5
  v5 := Tryz.zeroValue5
  i5 := by kernel_rfl
  t22 := Tryz.underlying39
  a22 := Tryz.isAgg39
  z22 := Tryz.sizeOf39
  v22 := Tryz.zeroValue39
  i22 := by kernel_rfl
  t29 := Tryz.underlying261
  a29 := Tryz.isAgg261
  z29 := Tryz.sizeOf261
  v29 := Tryz.zeroValue261
  i29 := by kernel_rfl
  t37 := Tryz.underlying324
  a37 := Tryz.isAgg324
  z37 := Tryz.sizeOf324
  v37 := Tryz.zeroValue324
  i37 := by kernel_rfl
  t45 := Tryz.underlying154
  a45 := Tryz.isAgg154
  z45 := Tryz.sizeOf154
  v45 := Tryz.zeroValue154
  i45 := by kernel_rfl }
open Go.RowKit in
/-- binary.BigEndian.Uint32: "Uint32 returns the uint32 representation of b[0:4].": THE NUMBER THAT THE FIRST 4 BYTES SPELL, the greatest byte first ('Lib.beNat'). Of what was there nothing has turned (the receiver, an empty struct, is laid in a new block without cells; the statement's order is drawn). (LAID: no walk: one application.) -/
theorem Tryz.binary_BE_Uint32 (g o n c : Nat) (b0 b1 b2 b3 : UInt8) (w : World) (hn : 4 ≤ n) (c0 : w.cell? ⟨g, o, none⟩ = some (.int .u8 b0.toNat)) (c1 : w.cell? ⟨g, o + 1, none⟩ = some (.int .u8 b1.toNat)) (c2 : w.cell? ⟨g, o + 2, none⟩ = some (.int .u8 b2.toNat)) (c3 : w.cell? ⟨g, o + 3, none⟩ = some (.int .u8 b3.toNat)) :
    Calls Tryz.prog 241 #[.agg #[], .slice (some ⟨g, o, none⟩) n c] w fun e w' => e = .returned (.int .u32 (Lib.beNat [b0, b1, b2, b3])) ∧ Below w.heap.size w w' := Any.binary_BE_Uint32 Tryz.laysBin39 g o n c b0 b1 b2 b3 w hn c0 c1 c2 c3
def Tryz.laysBin42_ren : Go.Shelf.Ren := ⟨fun | 42 => 292 | n => n, fun | 37 => 324 | 22 => 39 | 33 => 140 | 0 => 0 | 5 => 5 | 45 => 154 | n => n, fun | n => n⟩
theorem Tryz.laysBin42 : Go.Proofs.LaysBin.n42 Tryz.prog Tryz.laysBin42_ren := {
  mixed := by kernel_rfl
  f42 := Tryz.func292.trans (congrArg some (by kernel_rfl))
  t0 := Tryz.underlying0
  a0 := Tryz.isAgg0
  z0 := Tryz.sizeOf0
  v0 := Tryz.zeroValue0
  i0 := by kernel_rfl
  t5 := Tryz.underlying5
  a5 := Tryz.isAgg5
  z5 := Tryz.sizeOf5
  v5 := Tryz.zeroValue5
  i5 := by kernel_rfl
  t22 := Tryz.underlying39
  a22 := Tryz.isAgg39
  z22 := Tryz.sizeOf39
  v22 := Tryz.zeroValue39
  i22 := by kernel_rfl
  t33 := Tryz.underlying140
  a33 := Tryz.isAgg140
  z33 := Tryz.sizeOf140
  v33 := Tryz.zeroValue140
  i33 := by kernel_rfl
  t37 := Tryz.underlying324
  a37 := Tryz.isAgg324
  z37 := Tryz.sizeOf324
  v37 := Tryz.zeroValue324
  i37 := by kernel_rfl
  t45 := Tryz.underlying154
  a45 := Tryz.isAgg154
  z45 := Tryz.sizeOf154
  v45 := Tryz.zeroValue154
  i45 := by kernel_rfl }
open Go.RowKit in
/-- binary.BigEndian.Uint64: "Uint64 returns the uint64 representation of b[0:8].": THE NUMBER THAT THE FIRST 8 BYTES SPELL, the greatest byte first ('Lib.beNat'). Of what was there nothing has turned (the receiver, an empty struct, is laid in a new block without cells; the statement's order is drawn). (LAID: no walk: one application.) -/
theorem Tryz.binary_BE_Uint64 (g o n c : Nat) (b0 b1 b2 b3 b4 b5 b6 b7 : UInt8) (w : World) (hn : 8 ≤ n) (c0 : w.cell? ⟨g, o, none⟩ = some (.int .u8 b0.toNat)) (c1 : w.cell? ⟨g, o + 1, none⟩ = some (.int .u8 b1.toNat)) (c2 : w.cell? ⟨g, o + 2, none⟩ = some (.int .u8 b2.toNat)) (c3 : w.cell? ⟨g, o + 3, none⟩ = some (.int .u8 b3.toNat)) (c4 : w.cell? ⟨g, o + 4, none⟩ = some (.int .u8 b4.toNat)) (c5 : w.cell? ⟨g, o + 5, none⟩ = some (.int .u8 b5.toNat)) (c6 : w.cell? ⟨g, o + 6, none⟩ = some (.int .u8 b6.toNat)) (c7 : w.cell? ⟨g, o + 7, none⟩ = some (.int .u8 b7.toNat)) :
    Calls Tryz.prog 292 #[.agg #[], .slice (some ⟨g, o, none⟩) n c] w fun e w' => e = .returned (.int .u64 (Lib.beNat [b0, b1, b2, b3, b4, b5, b6, b7])) ∧ Below w.heap.size w w' := Any.binary_BE_Uint64 Tryz.laysBin42 g o n c b0 b1 b2 b3 b4 b5 b6 b7 w hn c0 c1 c2 c3 c4 c5 c6 c7
end Go.Proofs
