/-
  DERIVED: THE SHELF's CONTRACTS AT THIS DUMP, IN PLAIN WORDS (tools/lay-plain.mjs out of 'TrydShelf.lean', which tools/lay-shelf.mjs wrote): THE SAME DECLARATIONS UNDER THE SAME NAMES: 'import', 'namespace', 'open', 'def', 'theorem' AND NOTHING ELSE: no command of the shelf's: FOR A HAND-IN. Each laying: the table of numbers ('.._ren') and one theorem, a field a fact of the dump's own or the kernel's comparison; each contract: ONE APPLICATION.
-/
import Derived.Shelf.Small.Bits
import Derived.Ground.MnProg
import Derived.Shelf.Bin.LEPutUint16
import Derived.Shelf.Bin.LEUint32
import Derived.Shelf.Bin.LEPutUint32
import Derived.Shelf.Bin.LEPutUint16Panics
import Derived.Shelf.Bin.LEUint32Panics
import Derived.Shelf.Bin.LEPutUint32Panics
import Derived.Shelf.Bin.ReadersZ
import Derived.Test.YtiobfiepapflaaaDoorProg
namespace Go.Proofs
open Go.Shelf
def Tryd.lays128_ren : Go.Shelf.Ren := ⟨fun | 128 => 22 | n => n, fun | 51 => 24 | 3 => 3 | 4 => 4 | 46 => 43 | 5 => 5 | 9 => 9 | n => n, fun | n => n⟩
theorem Tryd.lays128 : Go.Proofs.Lays.n128 Tryd.prog Tryd.lays128_ren := {
  mixed := by kernel_rfl
  f128 := Tryd.func22.trans (congrArg some (by kernel_rfl))
  t3 := Tryd.underlying3
  a3 := Tryd.isAgg3
  z3 := Tryd.sizeOf3
  v3 := Tryd.zeroValue3
  t4 := Tryd.underlying4
  a4 := Tryd.isAgg4
  z4 := Tryd.sizeOf4
  v4 := Tryd.zeroValue4
  t5 := Tryd.underlying5
  a5 := Tryd.isAgg5
  z5 := Tryd.sizeOf5
  v5 := Tryd.zeroValue5
  t9 := Tryd.underlying9
  a9 := Tryd.isAgg9
  z9 := Tryd.sizeOf9
  v9 := Tryd.zeroValue9
  t46 := Tryd.underlying43
  a46 := Tryd.isAgg43
  z46 := Tryd.sizeOf43
  v46 := Tryd.zeroValue43
  t51 := Tryd.underlying24
  a51 := Tryd.isAgg24
  z51 := Tryd.sizeOf24
  v51 := Tryd.zeroValue24 }
/-- bits.Len32: "Len32 returns the minimum number of bits required to represent x; the result is 0 for x == 0.": IT RETURNS 'Lib.bitLen x'; the world is as it was. ('h0', 'h1': x is a uint32.) (LAID: no walk: one application.) -/
theorem Tryd.bits_Len32 (x : Int) (w : World) (h0 : 0 ≤ x) (h1 : x ≤ 4294967295) :
    Calls Tryd.prog 22 #[.int .u32 x] w fun e w' => e = .returned (.int .i64 (Lib.bitLen x.toNat)) ∧ w' = w := Any.bits_Len32 Tryd.lays128 x w h0 h1
def Tryd.laysBin28_ren : Go.Shelf.Ren := ⟨fun | 28 => 20 | n => n, fun | 25 => 55 | 22 => 22 | 23 => 67 | 0 => 0 | 5 => 5 | 45 => 43 | n => n, fun | n => n⟩
theorem Tryd.laysBin28 : Go.Proofs.LaysBin.n28 Tryd.prog Tryd.laysBin28_ren := {
  mixed := by kernel_rfl
  f28 := Tryd.func20.trans (congrArg some (by kernel_rfl))
  t0 := Tryd.underlying0
  a0 := Tryd.isAgg0
  z0 := Tryd.sizeOf0
  v0 := Tryd.zeroValue0
  i0 := by kernel_rfl
  t5 := Tryd.underlying5
  a5 := Tryd.isAgg5
  z5 := Tryd.sizeOf5
  v5 := Tryd.zeroValue5
  i5 := by kernel_rfl
  t22 := Tryd.underlying22
  a22 := Tryd.isAgg22
  z22 := Tryd.sizeOf22
  v22 := Tryd.zeroValue22
  i22 := by kernel_rfl
  t23 := Tryd.underlying67
  a23 := Tryd.isAgg67
  z23 := Tryd.sizeOf67
  v23 := Tryd.zeroValue67
  i23 := by kernel_rfl
  t25 := Tryd.underlying55
  a25 := Tryd.isAgg55
  z25 := Tryd.sizeOf55
  v25 := Tryd.zeroValue55
  i25 := by kernel_rfl
  t45 := Tryd.underlying43
  a45 := Tryd.isAgg43
  z45 := Tryd.sizeOf43
  v45 := Tryd.zeroValue43
  i45 := by kernel_rfl }
open Go.RowKit in
/-- binary.LittleEndian.PutUint16: "PutUint16 stores v into b[0:2].": v's 2 BYTES, the least first ('Lib.leBytes 2 v'), ARE LAID IN THE SLICE's FIRST 2 CELLS ('World.setCells'); nothing else turns (the receiver, an empty struct, is laid in a new block without cells). (LAID: no walk: one application.) -/
theorem Tryd.binary_LE_PutUint16 (g o n c v : Nat) (hv : v < 65536) (x0 x1 : Value) (w : World) (hn : 2 ≤ n) (c0 : w.cell? ⟨g, o, none⟩ = some x0) (c1 : w.cell? ⟨g, o + 1, none⟩ = some x1) (f0 : w.frozen? ⟨g, o, none⟩ = false) (f1 : w.frozen? ⟨g, o + 1, none⟩ = false) :
    Calls Tryd.prog 20 #[.agg #[], .slice (some ⟨g, o, none⟩) n c, .int .u16 v] w fun e w' => e = .returned (.tuple #[]) ∧ w' = (w.alloc (.cells #[] 55)).setCells g o (Lib.byteCells (Lib.leBytes 2 v)) := Any.binary_LE_PutUint16 Tryd.laysBin28 g o n c v hv x0 x1 w hn c0 c1 f0 f1
def Tryd.laysBin30_ren : Go.Shelf.Ren := ⟨fun | 30 => 17 | n => n, fun | 25 => 55 | 22 => 22 | 29 => 24 | 0 => 0 | 5 => 5 | 45 => 43 | n => n, fun | n => n⟩
theorem Tryd.laysBin30 : Go.Proofs.LaysBin.n30 Tryd.prog Tryd.laysBin30_ren := {
  mixed := by kernel_rfl
  f30 := Tryd.func17.trans (congrArg some (by kernel_rfl))
  t0 := Tryd.underlying0
  a0 := Tryd.isAgg0
  z0 := Tryd.sizeOf0
  v0 := Tryd.zeroValue0
  i0 := by kernel_rfl
  t5 := Tryd.underlying5
  a5 := Tryd.isAgg5
  z5 := Tryd.sizeOf5
  v5 := Tryd.zeroValue5
  i5 := by kernel_rfl
  t22 := Tryd.underlying22
  a22 := Tryd.isAgg22
  z22 := Tryd.sizeOf22
  v22 := Tryd.zeroValue22
  i22 := by kernel_rfl
  t25 := Tryd.underlying55
  a25 := Tryd.isAgg55
  z25 := Tryd.sizeOf55
  v25 := Tryd.zeroValue55
  i25 := by kernel_rfl
  t29 := Tryd.underlying24
  a29 := Tryd.isAgg24
  z29 := Tryd.sizeOf24
  v29 := Tryd.zeroValue24
  i29 := by kernel_rfl
  t45 := Tryd.underlying43
  a45 := Tryd.isAgg43
  z45 := Tryd.sizeOf43
  v45 := Tryd.zeroValue43
  i45 := by kernel_rfl }
open Go.RowKit in
/-- binary.LittleEndian.Uint32: "Uint32 returns the uint32 representation of b[0:4].": THE NUMBER THAT THE FIRST 4 BYTES SPELL, the least byte first ('Lib.leNat'). Of what was there nothing has turned (the receiver, an empty struct, is laid in a new block without cells; the statement's order is drawn). (LAID: no walk: one application.) -/
theorem Tryd.binary_LE_Uint32 (g o n c : Nat) (b0 b1 b2 b3 : UInt8) (w : World) (hn : 4 ≤ n) (c0 : w.cell? ⟨g, o, none⟩ = some (.int .u8 b0.toNat)) (c1 : w.cell? ⟨g, o + 1, none⟩ = some (.int .u8 b1.toNat)) (c2 : w.cell? ⟨g, o + 2, none⟩ = some (.int .u8 b2.toNat)) (c3 : w.cell? ⟨g, o + 3, none⟩ = some (.int .u8 b3.toNat)) :
    Calls Tryd.prog 17 #[.agg #[], .slice (some ⟨g, o, none⟩) n c] w fun e w' => e = .returned (.int .u32 (Lib.leNat [b0, b1, b2, b3])) ∧ Below w.heap.size w w' := Any.binary_LE_Uint32 Tryd.laysBin30 g o n c b0 b1 b2 b3 w hn c0 c1 c2 c3
def Tryd.laysBin31_ren : Go.Shelf.Ren := ⟨fun | 31 => 21 | n => n, fun | 25 => 55 | 22 => 22 | 29 => 24 | 0 => 0 | 5 => 5 | 45 => 43 | n => n, fun | n => n⟩
theorem Tryd.laysBin31 : Go.Proofs.LaysBin.n31 Tryd.prog Tryd.laysBin31_ren := {
  mixed := by kernel_rfl
  f31 := Tryd.func21.trans (congrArg some (by kernel_rfl))
  t0 := Tryd.underlying0
  a0 := Tryd.isAgg0
  z0 := Tryd.sizeOf0
  v0 := Tryd.zeroValue0
  i0 := by kernel_rfl
  t5 := Tryd.underlying5
  a5 := Tryd.isAgg5
  z5 := Tryd.sizeOf5
  v5 := Tryd.zeroValue5
  i5 := by kernel_rfl
  t22 := Tryd.underlying22
  a22 := Tryd.isAgg22
  z22 := Tryd.sizeOf22
  v22 := Tryd.zeroValue22
  i22 := by kernel_rfl
  t25 := Tryd.underlying55
  a25 := Tryd.isAgg55
  z25 := Tryd.sizeOf55
  v25 := Tryd.zeroValue55
  i25 := by kernel_rfl
  t29 := Tryd.underlying24
  a29 := Tryd.isAgg24
  z29 := Tryd.sizeOf24
  v29 := Tryd.zeroValue24
  i29 := by kernel_rfl
  t45 := Tryd.underlying43
  a45 := Tryd.isAgg43
  z45 := Tryd.sizeOf43
  v45 := Tryd.zeroValue43
  i45 := by kernel_rfl }
open Go.RowKit in
/-- binary.LittleEndian.PutUint32: "PutUint32 stores v into b[0:4].": v's 4 BYTES, the least first ('Lib.leBytes 4 v'), ARE LAID IN THE SLICE's FIRST 4 CELLS ('World.setCells'); nothing else turns (the receiver, an empty struct, is laid in a new block without cells). (LAID: no walk: one application.) -/
theorem Tryd.binary_LE_PutUint32 (g o n c v : Nat) (hv : v < 4294967296) (x0 x1 x2 x3 : Value) (w : World) (hn : 4 ≤ n) (c0 : w.cell? ⟨g, o, none⟩ = some x0) (c1 : w.cell? ⟨g, o + 1, none⟩ = some x1) (c2 : w.cell? ⟨g, o + 2, none⟩ = some x2) (c3 : w.cell? ⟨g, o + 3, none⟩ = some x3) (f0 : w.frozen? ⟨g, o, none⟩ = false) (f1 : w.frozen? ⟨g, o + 1, none⟩ = false) (f2 : w.frozen? ⟨g, o + 2, none⟩ = false) (f3 : w.frozen? ⟨g, o + 3, none⟩ = false) :
    Calls Tryd.prog 21 #[.agg #[], .slice (some ⟨g, o, none⟩) n c, .int .u32 v] w fun e w' => e = .returned (.tuple #[]) ∧ w' = (w.alloc (.cells #[] 55)).setCells g o (Lib.byteCells (Lib.leBytes 4 v)) := Any.binary_LE_PutUint32 Tryd.laysBin31 g o n c v hv x0 x1 x2 x3 w hn c0 c1 c2 c3 f0 f1 f2 f3
open Go.RowKit in
/-- binary.LittleEndian.PutUint16, b SHORTER THAN 2: IT PANICS: Go's 'runtime error: index out of range [1] with length n' ('Lib.boundsPanicked'). THE WORLD: the receiver's new block without cells, and the draw of the panic's flag: NOTHING IS WRITTEN. (LAID: no walk: one application.) -/
theorem Tryd.binary_LE_PutUint16_panics (ao : Option Addr) (n c v : Nat) (w : World) (hn : n < 2) (hnil : ao = none → n = 0) :
    Calls Tryd.prog 20 #[.agg #[], .slice ao n c, .int .u16 v] w fun e w' => Lib.boundsPanicked Tryd.prog 1 n e ∧ w' = (w.alloc (.cells #[] 55)).drew := Any.binary_LE_PutUint16_panics Tryd.laysBin28 ao n c v w hn hnil
open Go.RowKit in
/-- binary.LittleEndian.Uint32, b SHORTER THAN 4: IT PANICS: Go's 'runtime error: index out of range [3] with length n' ('Lib.boundsPanicked'). THE WORLD: the receiver's new block without cells, and the draw of the panic's flag. (LAID: no walk: one application.) -/
theorem Tryd.binary_LE_Uint32_panics (ao : Option Addr) (n c : Nat) (w : World) (hn : n < 4) (hnil : ao = none → n = 0) :
    Calls Tryd.prog 17 #[.agg #[], .slice ao n c] w fun e w' => Lib.boundsPanicked Tryd.prog 3 n e ∧ w' = (w.alloc (.cells #[] 55)).drew := Any.binary_LE_Uint32_panics Tryd.laysBin30 ao n c w hn hnil
open Go.RowKit in
/-- binary.LittleEndian.PutUint32, b SHORTER THAN 4: IT PANICS: Go's 'runtime error: index out of range [3] with length n' ('Lib.boundsPanicked'). THE WORLD: the receiver's new block without cells, and the draw of the panic's flag: NOTHING IS WRITTEN. (LAID: no walk: one application.) -/
theorem Tryd.binary_LE_PutUint32_panics (ao : Option Addr) (n c v : Nat) (w : World) (hn : n < 4) (hnil : ao = none → n = 0) :
    Calls Tryd.prog 21 #[.agg #[], .slice ao n c, .int .u32 v] w fun e w' => Lib.boundsPanicked Tryd.prog 3 n e ∧ w' = (w.alloc (.cells #[] 55)).drew := Any.binary_LE_PutUint32_panics Tryd.laysBin31 ao n c v w hn hnil
open Go.RowKit in
/-- binary.LittleEndian.Uint32, ITS PREMISES 'open_ints'' CONCLUSION TO THE LETTER: a slice at WHATEVER address a, the numbers zs that its cells hold: THE NUMBER THAT THE FIRST 4 SPELL ('Lib.leZ'). (LAID: no walk: one application.) -/
theorem Tryd.binary_LE_Uint32_z (a : Addr) (n c : Nat) (zs : List Int) (w : World) (hn : 4 ≤ n) (hl : 4 ≤ zs.length) (hcell : ∀ i, i < zs.length → w.cell? (a.add i) = some (.int .u8 (zs.getD i 0))) (hw : ∀ z ∈ zs, (Lit.int .u8 z).wf = true) :
    Calls Tryd.prog 17 #[.agg #[], .slice (some a) n c] w fun e w' => e = .returned (.int .u32 (Lib.leZ (zs.take 4))) ∧ Below w.heap.size w w' := Any.binary_LE_Uint32_z Tryd.laysBin30 a n c zs w hn hl hcell hw
end Go.Proofs
