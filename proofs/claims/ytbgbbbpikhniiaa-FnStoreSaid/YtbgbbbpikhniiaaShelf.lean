/-
  DERIVED: THE SHELF's CONTRACTS AT THIS DUMP, IN PLAIN WORDS (tools/lay-plain.mjs out of 'TryShelf.lean', which tools/lay-shelf.mjs wrote): THE SAME DECLARATIONS UNDER THE SAME NAMES: 'import', 'namespace', 'open', 'def', 'theorem' AND NOTHING ELSE: no command of the shelf's: FOR A HAND-IN. Each laying: the table of numbers ('.._ren') and one theorem, a field a fact of the dump's own or the kernel's comparison; each contract: ONE APPLICATION.
-/
import Derived.Ground.MnProg
import Derived.Shelf.Bin.LEUint16
import Derived.Shelf.Bin.LEPutUint16
import Derived.Shelf.Bin.LEUint32
import Derived.Shelf.Bin.LEPutUint32
import Derived.Shelf.Bin.LEUint64
import Derived.Shelf.Bin.LEPutUint64
import Derived.Shelf.Bin.LEUint16Panics
import Derived.Shelf.Bin.LEUint32Panics
import Derived.Shelf.Bin.LEUint64Panics
import Derived.Shelf.Bin.ReadersZ
import Derived.Test.YtbgbbbpikhniiaaProg
namespace Go.Proofs
open Go.Shelf
def Try.laysBin27_ren : Go.Shelf.Ren := ⟨fun | 27 => 25 | n => n, fun | 25 => 49 | 22 => 28 | 23 => 38 | 0 => 0 | 5 => 5 | 45 => 47 | n => n, fun | n => n⟩
theorem Try.laysBin27 : Go.Proofs.LaysBin.n27 Try.prog Try.laysBin27_ren := {
  mixed := by kernel_rfl
  f27 := Try.func25.trans (congrArg some (by kernel_rfl))
  t0 := Try.underlying0
  a0 := Try.isAgg0
  z0 := Try.sizeOf0
  v0 := Try.zeroValue0
  i0 := by kernel_rfl
  t5 := Try.underlying5
  a5 := Try.isAgg5
  z5 := Try.sizeOf5
  v5 := Try.zeroValue5
  i5 := by kernel_rfl
  t22 := Try.underlying28
  a22 := Try.isAgg28
  z22 := Try.sizeOf28
  v22 := Try.zeroValue28
  i22 := by kernel_rfl
  t23 := Try.underlying38
  a23 := Try.isAgg38
  z23 := Try.sizeOf38
  v23 := Try.zeroValue38
  i23 := by kernel_rfl
  t25 := Try.underlying49
  a25 := Try.isAgg49
  z25 := Try.sizeOf49
  v25 := Try.zeroValue49
  i25 := by kernel_rfl
  t45 := Try.underlying47
  a45 := Try.isAgg47
  z45 := Try.sizeOf47
  v45 := Try.zeroValue47
  i45 := by kernel_rfl }
open Go.RowKit in
/-- binary.LittleEndian.Uint16: "Uint16 returns the uint16 representation of b[0:2].": THE NUMBER THAT THE FIRST 2 BYTES SPELL, the least byte first ('Lib.leNat'). Of what was there nothing has turned (the receiver, an empty struct, is laid in a new block without cells; the statement's order is drawn). (LAID: no walk: one application.) -/
theorem Try.binary_LE_Uint16 (g o n c : Nat) (b0 b1 : UInt8) (w : World) (hn : 2 ≤ n) (c0 : w.cell? ⟨g, o, none⟩ = some (.int .u8 b0.toNat)) (c1 : w.cell? ⟨g, o + 1, none⟩ = some (.int .u8 b1.toNat)) :
    Calls Try.prog 25 #[.agg #[], .slice (some ⟨g, o, none⟩) n c] w fun e w' => e = .returned (.int .u16 (Lib.leNat [b0, b1])) ∧ Below w.heap.size w w' := Any.binary_LE_Uint16 Try.laysBin27 g o n c b0 b1 w hn c0 c1
def Try.laysBin28_ren : Go.Shelf.Ren := ⟨fun | 28 => 28 | n => n, fun | 25 => 49 | 22 => 28 | 23 => 38 | 0 => 0 | 5 => 5 | 45 => 47 | n => n, fun | n => n⟩
theorem Try.laysBin28 : Go.Proofs.LaysBin.n28 Try.prog Try.laysBin28_ren := {
  mixed := by kernel_rfl
  f28 := Try.func28.trans (congrArg some (by kernel_rfl))
  t0 := Try.underlying0
  a0 := Try.isAgg0
  z0 := Try.sizeOf0
  v0 := Try.zeroValue0
  i0 := by kernel_rfl
  t5 := Try.underlying5
  a5 := Try.isAgg5
  z5 := Try.sizeOf5
  v5 := Try.zeroValue5
  i5 := by kernel_rfl
  t22 := Try.underlying28
  a22 := Try.isAgg28
  z22 := Try.sizeOf28
  v22 := Try.zeroValue28
  i22 := by kernel_rfl
  t23 := Try.underlying38
  a23 := Try.isAgg38
  z23 := Try.sizeOf38
  v23 := Try.zeroValue38
  i23 := by kernel_rfl
  t25 := Try.underlying49
  a25 := Try.isAgg49
  z25 := Try.sizeOf49
  v25 := Try.zeroValue49
  i25 := by kernel_rfl
  t45 := Try.underlying47
  a45 := Try.isAgg47
  z45 := Try.sizeOf47
  v45 := Try.zeroValue47
  i45 := by kernel_rfl }
open Go.RowKit in
/-- binary.LittleEndian.PutUint16: "PutUint16 stores v into b[0:2].": v's 2 BYTES, the least first ('Lib.leBytes 2 v'), ARE LAID IN THE SLICE's FIRST 2 CELLS ('World.setCells'); nothing else turns (the receiver, an empty struct, is laid in a new block without cells). (LAID: no walk: one application.) -/
theorem Try.binary_LE_PutUint16 (g o n c v : Nat) (hv : v < 65536) (x0 x1 : Value) (w : World) (hn : 2 ≤ n) (c0 : w.cell? ⟨g, o, none⟩ = some x0) (c1 : w.cell? ⟨g, o + 1, none⟩ = some x1) (f0 : w.frozen? ⟨g, o, none⟩ = false) (f1 : w.frozen? ⟨g, o + 1, none⟩ = false) :
    Calls Try.prog 28 #[.agg #[], .slice (some ⟨g, o, none⟩) n c, .int .u16 v] w fun e w' => e = .returned (.tuple #[]) ∧ w' = (w.alloc (.cells #[] 49)).setCells g o (Lib.byteCells (Lib.leBytes 2 v)) := Any.binary_LE_PutUint16 Try.laysBin28 g o n c v hv x0 x1 w hn c0 c1 f0 f1
def Try.laysBin30_ren : Go.Shelf.Ren := ⟨fun | 30 => 26 | n => n, fun | 25 => 49 | 22 => 28 | 29 => 40 | 0 => 0 | 5 => 5 | 45 => 47 | n => n, fun | n => n⟩
theorem Try.laysBin30 : Go.Proofs.LaysBin.n30 Try.prog Try.laysBin30_ren := {
  mixed := by kernel_rfl
  f30 := Try.func26.trans (congrArg some (by kernel_rfl))
  t0 := Try.underlying0
  a0 := Try.isAgg0
  z0 := Try.sizeOf0
  v0 := Try.zeroValue0
  i0 := by kernel_rfl
  t5 := Try.underlying5
  a5 := Try.isAgg5
  z5 := Try.sizeOf5
  v5 := Try.zeroValue5
  i5 := by kernel_rfl
  t22 := Try.underlying28
  a22 := Try.isAgg28
  z22 := Try.sizeOf28
  v22 := Try.zeroValue28
  i22 := by kernel_rfl
  t25 := Try.underlying49
  a25 := Try.isAgg49
  z25 := Try.sizeOf49
  v25 := Try.zeroValue49
  i25 := by kernel_rfl
  t29 := Try.underlying40
  a29 := Try.isAgg40
  z29 := Try.sizeOf40
  v29 := Try.zeroValue40
  i29 := by kernel_rfl
  t45 := Try.underlying47
  a45 := Try.isAgg47
  z45 := Try.sizeOf47
  v45 := Try.zeroValue47
  i45 := by kernel_rfl }
open Go.RowKit in
/-- binary.LittleEndian.Uint32: "Uint32 returns the uint32 representation of b[0:4].": THE NUMBER THAT THE FIRST 4 BYTES SPELL, the least byte first ('Lib.leNat'). Of what was there nothing has turned (the receiver, an empty struct, is laid in a new block without cells; the statement's order is drawn). (LAID: no walk: one application.) -/
theorem Try.binary_LE_Uint32 (g o n c : Nat) (b0 b1 b2 b3 : UInt8) (w : World) (hn : 4 ≤ n) (c0 : w.cell? ⟨g, o, none⟩ = some (.int .u8 b0.toNat)) (c1 : w.cell? ⟨g, o + 1, none⟩ = some (.int .u8 b1.toNat)) (c2 : w.cell? ⟨g, o + 2, none⟩ = some (.int .u8 b2.toNat)) (c3 : w.cell? ⟨g, o + 3, none⟩ = some (.int .u8 b3.toNat)) :
    Calls Try.prog 26 #[.agg #[], .slice (some ⟨g, o, none⟩) n c] w fun e w' => e = .returned (.int .u32 (Lib.leNat [b0, b1, b2, b3])) ∧ Below w.heap.size w w' := Any.binary_LE_Uint32 Try.laysBin30 g o n c b0 b1 b2 b3 w hn c0 c1 c2 c3
def Try.laysBin31_ren : Go.Shelf.Ren := ⟨fun | 31 => 29 | n => n, fun | 25 => 49 | 22 => 28 | 29 => 40 | 0 => 0 | 5 => 5 | 45 => 47 | n => n, fun | n => n⟩
theorem Try.laysBin31 : Go.Proofs.LaysBin.n31 Try.prog Try.laysBin31_ren := {
  mixed := by kernel_rfl
  f31 := Try.func29.trans (congrArg some (by kernel_rfl))
  t0 := Try.underlying0
  a0 := Try.isAgg0
  z0 := Try.sizeOf0
  v0 := Try.zeroValue0
  i0 := by kernel_rfl
  t5 := Try.underlying5
  a5 := Try.isAgg5
  z5 := Try.sizeOf5
  v5 := Try.zeroValue5
  i5 := by kernel_rfl
  t22 := Try.underlying28
  a22 := Try.isAgg28
  z22 := Try.sizeOf28
  v22 := Try.zeroValue28
  i22 := by kernel_rfl
  t25 := Try.underlying49
  a25 := Try.isAgg49
  z25 := Try.sizeOf49
  v25 := Try.zeroValue49
  i25 := by kernel_rfl
  t29 := Try.underlying40
  a29 := Try.isAgg40
  z29 := Try.sizeOf40
  v29 := Try.zeroValue40
  i29 := by kernel_rfl
  t45 := Try.underlying47
  a45 := Try.isAgg47
  z45 := Try.sizeOf47
  v45 := Try.zeroValue47
  i45 := by kernel_rfl }
open Go.RowKit in
/-- binary.LittleEndian.PutUint32: "PutUint32 stores v into b[0:4].": v's 4 BYTES, the least first ('Lib.leBytes 4 v'), ARE LAID IN THE SLICE's FIRST 4 CELLS ('World.setCells'); nothing else turns (the receiver, an empty struct, is laid in a new block without cells). (LAID: no walk: one application.) -/
theorem Try.binary_LE_PutUint32 (g o n c v : Nat) (hv : v < 4294967296) (x0 x1 x2 x3 : Value) (w : World) (hn : 4 ≤ n) (c0 : w.cell? ⟨g, o, none⟩ = some x0) (c1 : w.cell? ⟨g, o + 1, none⟩ = some x1) (c2 : w.cell? ⟨g, o + 2, none⟩ = some x2) (c3 : w.cell? ⟨g, o + 3, none⟩ = some x3) (f0 : w.frozen? ⟨g, o, none⟩ = false) (f1 : w.frozen? ⟨g, o + 1, none⟩ = false) (f2 : w.frozen? ⟨g, o + 2, none⟩ = false) (f3 : w.frozen? ⟨g, o + 3, none⟩ = false) :
    Calls Try.prog 29 #[.agg #[], .slice (some ⟨g, o, none⟩) n c, .int .u32 v] w fun e w' => e = .returned (.tuple #[]) ∧ w' = (w.alloc (.cells #[] 49)).setCells g o (Lib.byteCells (Lib.leBytes 4 v)) := Any.binary_LE_PutUint32 Try.laysBin31 g o n c v hv x0 x1 x2 x3 w hn c0 c1 c2 c3 f0 f1 f2 f3
def Try.laysBin33_ren : Go.Shelf.Ren := ⟨fun | 33 => 27 | n => n, fun | 25 => 49 | 22 => 28 | 33 => 29 | 0 => 0 | 5 => 5 | 45 => 47 | n => n, fun | n => n⟩
theorem Try.laysBin33 : Go.Proofs.LaysBin.n33 Try.prog Try.laysBin33_ren := {
  mixed := by kernel_rfl
  f33 := Try.func27.trans (congrArg some (by kernel_rfl))
  t0 := Try.underlying0
  a0 := Try.isAgg0
  z0 := Try.sizeOf0
  v0 := Try.zeroValue0
  i0 := by kernel_rfl
  t5 := Try.underlying5
  a5 := Try.isAgg5
  z5 := Try.sizeOf5
  v5 := Try.zeroValue5
  i5 := by kernel_rfl
  t22 := Try.underlying28
  a22 := Try.isAgg28
  z22 := Try.sizeOf28
  v22 := Try.zeroValue28
  i22 := by kernel_rfl
  t25 := Try.underlying49
  a25 := Try.isAgg49
  z25 := Try.sizeOf49
  v25 := Try.zeroValue49
  i25 := by kernel_rfl
  t33 := Try.underlying29
  a33 := Try.isAgg29
  z33 := Try.sizeOf29
  v33 := Try.zeroValue29
  i33 := by kernel_rfl
  t45 := Try.underlying47
  a45 := Try.isAgg47
  z45 := Try.sizeOf47
  v45 := Try.zeroValue47
  i45 := by kernel_rfl }
open Go.RowKit in
/-- binary.LittleEndian.Uint64: "Uint64 returns the uint64 representation of b[0:8].": THE NUMBER THAT THE FIRST 8 BYTES SPELL, the least byte first ('Lib.leNat'). Of what was there nothing has turned (the receiver, an empty struct, is laid in a new block without cells; the statement's order is drawn). (LAID: no walk: one application.) -/
theorem Try.binary_LE_Uint64 (g o n c : Nat) (b0 b1 b2 b3 b4 b5 b6 b7 : UInt8) (w : World) (hn : 8 ≤ n) (c0 : w.cell? ⟨g, o, none⟩ = some (.int .u8 b0.toNat)) (c1 : w.cell? ⟨g, o + 1, none⟩ = some (.int .u8 b1.toNat)) (c2 : w.cell? ⟨g, o + 2, none⟩ = some (.int .u8 b2.toNat)) (c3 : w.cell? ⟨g, o + 3, none⟩ = some (.int .u8 b3.toNat)) (c4 : w.cell? ⟨g, o + 4, none⟩ = some (.int .u8 b4.toNat)) (c5 : w.cell? ⟨g, o + 5, none⟩ = some (.int .u8 b5.toNat)) (c6 : w.cell? ⟨g, o + 6, none⟩ = some (.int .u8 b6.toNat)) (c7 : w.cell? ⟨g, o + 7, none⟩ = some (.int .u8 b7.toNat)) :
    Calls Try.prog 27 #[.agg #[], .slice (some ⟨g, o, none⟩) n c] w fun e w' => e = .returned (.int .u64 (Lib.leNat [b0, b1, b2, b3, b4, b5, b6, b7])) ∧ Below w.heap.size w w' := Any.binary_LE_Uint64 Try.laysBin33 g o n c b0 b1 b2 b3 b4 b5 b6 b7 w hn c0 c1 c2 c3 c4 c5 c6 c7
def Try.laysBin34_ren : Go.Shelf.Ren := ⟨fun | 34 => 30 | n => n, fun | 25 => 49 | 22 => 28 | 33 => 29 | 0 => 0 | 5 => 5 | 45 => 47 | n => n, fun | n => n⟩
theorem Try.laysBin34 : Go.Proofs.LaysBin.n34 Try.prog Try.laysBin34_ren := {
  mixed := by kernel_rfl
  f34 := Try.func30.trans (congrArg some (by kernel_rfl))
  t0 := Try.underlying0
  a0 := Try.isAgg0
  z0 := Try.sizeOf0
  v0 := Try.zeroValue0
  i0 := by kernel_rfl
  t5 := Try.underlying5
  a5 := Try.isAgg5
  z5 := Try.sizeOf5
  v5 := Try.zeroValue5
  i5 := by kernel_rfl
  t22 := Try.underlying28
  a22 := Try.isAgg28
  z22 := Try.sizeOf28
  v22 := Try.zeroValue28
  i22 := by kernel_rfl
  t25 := Try.underlying49
  a25 := Try.isAgg49
  z25 := Try.sizeOf49
  v25 := Try.zeroValue49
  i25 := by kernel_rfl
  t33 := Try.underlying29
  a33 := Try.isAgg29
  z33 := Try.sizeOf29
  v33 := Try.zeroValue29
  i33 := by kernel_rfl
  t45 := Try.underlying47
  a45 := Try.isAgg47
  z45 := Try.sizeOf47
  v45 := Try.zeroValue47
  i45 := by kernel_rfl }
open Go.RowKit in
/-- binary.LittleEndian.PutUint64: "PutUint64 stores v into b[0:8].": v's 8 BYTES, the least first ('Lib.leBytes 8 v'), ARE LAID IN THE SLICE's FIRST 8 CELLS ('World.setCells'); nothing else turns (the receiver, an empty struct, is laid in a new block without cells). (LAID: no walk: one application.) -/
theorem Try.binary_LE_PutUint64 (g o n c v : Nat) (hv : v < 18446744073709551616) (x0 x1 x2 x3 x4 x5 x6 x7 : Value) (w : World) (hn : 8 ≤ n) (c0 : w.cell? ⟨g, o, none⟩ = some x0) (c1 : w.cell? ⟨g, o + 1, none⟩ = some x1) (c2 : w.cell? ⟨g, o + 2, none⟩ = some x2) (c3 : w.cell? ⟨g, o + 3, none⟩ = some x3) (c4 : w.cell? ⟨g, o + 4, none⟩ = some x4) (c5 : w.cell? ⟨g, o + 5, none⟩ = some x5) (c6 : w.cell? ⟨g, o + 6, none⟩ = some x6) (c7 : w.cell? ⟨g, o + 7, none⟩ = some x7) (f0 : w.frozen? ⟨g, o, none⟩ = false) (f1 : w.frozen? ⟨g, o + 1, none⟩ = false) (f2 : w.frozen? ⟨g, o + 2, none⟩ = false) (f3 : w.frozen? ⟨g, o + 3, none⟩ = false) (f4 : w.frozen? ⟨g, o + 4, none⟩ = false) (f5 : w.frozen? ⟨g, o + 5, none⟩ = false) (f6 : w.frozen? ⟨g, o + 6, none⟩ = false) (f7 : w.frozen? ⟨g, o + 7, none⟩ = false) :
    Calls Try.prog 30 #[.agg #[], .slice (some ⟨g, o, none⟩) n c, .int .u64 v] w fun e w' => e = .returned (.tuple #[]) ∧ w' = (w.alloc (.cells #[] 49)).setCells g o (Lib.byteCells (Lib.leBytes 8 v)) := Any.binary_LE_PutUint64 Try.laysBin34 g o n c v hv x0 x1 x2 x3 x4 x5 x6 x7 w hn c0 c1 c2 c3 c4 c5 c6 c7 f0 f1 f2 f3 f4 f5 f6 f7
open Go.RowKit in
/-- binary.LittleEndian.Uint16, b SHORTER THAN 2: IT PANICS: Go's 'runtime error: index out of range [1] with length n' ('Lib.boundsPanicked'). THE WORLD: the receiver's new block without cells, and the draw of the panic's flag. (LAID: no walk: one application.) -/
theorem Try.binary_LE_Uint16_panics (ao : Option Addr) (n c : Nat) (w : World) (hn : n < 2) (hnil : ao = none → n = 0) :
    Calls Try.prog 25 #[.agg #[], .slice ao n c] w fun e w' => Lib.boundsPanicked Try.prog 1 n e ∧ w' = (w.alloc (.cells #[] 49)).drew := Any.binary_LE_Uint16_panics Try.laysBin27 ao n c w hn hnil
open Go.RowKit in
/-- binary.LittleEndian.Uint32, b SHORTER THAN 4: IT PANICS: Go's 'runtime error: index out of range [3] with length n' ('Lib.boundsPanicked'). THE WORLD: the receiver's new block without cells, and the draw of the panic's flag. (LAID: no walk: one application.) -/
theorem Try.binary_LE_Uint32_panics (ao : Option Addr) (n c : Nat) (w : World) (hn : n < 4) (hnil : ao = none → n = 0) :
    Calls Try.prog 26 #[.agg #[], .slice ao n c] w fun e w' => Lib.boundsPanicked Try.prog 3 n e ∧ w' = (w.alloc (.cells #[] 49)).drew := Any.binary_LE_Uint32_panics Try.laysBin30 ao n c w hn hnil
open Go.RowKit in
/-- binary.LittleEndian.Uint64, b SHORTER THAN 8: IT PANICS: Go's 'runtime error: index out of range [7] with length n' ('Lib.boundsPanicked'). THE WORLD: the receiver's new block without cells, and the draw of the panic's flag. (LAID: no walk: one application.) -/
theorem Try.binary_LE_Uint64_panics (ao : Option Addr) (n c : Nat) (w : World) (hn : n < 8) (hnil : ao = none → n = 0) :
    Calls Try.prog 27 #[.agg #[], .slice ao n c] w fun e w' => Lib.boundsPanicked Try.prog 7 n e ∧ w' = (w.alloc (.cells #[] 49)).drew := Any.binary_LE_Uint64_panics Try.laysBin33 ao n c w hn hnil
open Go.RowKit in
/-- binary.LittleEndian.Uint16, ITS PREMISES 'open_ints'' CONCLUSION TO THE LETTER: a slice at WHATEVER address a, the numbers zs that its cells hold: THE NUMBER THAT THE FIRST 2 SPELL ('Lib.leZ'). (LAID: no walk: one application.) -/
theorem Try.binary_LE_Uint16_z (a : Addr) (n c : Nat) (zs : List Int) (w : World) (hn : 2 ≤ n) (hl : 2 ≤ zs.length) (hcell : ∀ i, i < zs.length → w.cell? (a.add i) = some (.int .u8 (zs.getD i 0))) (hw : ∀ z ∈ zs, (Lit.int .u8 z).wf = true) :
    Calls Try.prog 25 #[.agg #[], .slice (some a) n c] w fun e w' => e = .returned (.int .u16 (Lib.leZ (zs.take 2))) ∧ Below w.heap.size w w' := Any.binary_LE_Uint16_z Try.laysBin27 a n c zs w hn hl hcell hw
open Go.RowKit in
/-- binary.LittleEndian.Uint32, ITS PREMISES 'open_ints'' CONCLUSION TO THE LETTER: a slice at WHATEVER address a, the numbers zs that its cells hold: THE NUMBER THAT THE FIRST 4 SPELL ('Lib.leZ'). (LAID: no walk: one application.) -/
theorem Try.binary_LE_Uint32_z (a : Addr) (n c : Nat) (zs : List Int) (w : World) (hn : 4 ≤ n) (hl : 4 ≤ zs.length) (hcell : ∀ i, i < zs.length → w.cell? (a.add i) = some (.int .u8 (zs.getD i 0))) (hw : ∀ z ∈ zs, (Lit.int .u8 z).wf = true) :
    Calls Try.prog 26 #[.agg #[], .slice (some a) n c] w fun e w' => e = .returned (.int .u32 (Lib.leZ (zs.take 4))) ∧ Below w.heap.size w w' := Any.binary_LE_Uint32_z Try.laysBin30 a n c zs w hn hl hcell hw
open Go.RowKit in
/-- binary.LittleEndian.Uint64, ITS PREMISES 'open_ints'' CONCLUSION TO THE LETTER: a slice at WHATEVER address a, the numbers zs that its cells hold: THE NUMBER THAT THE FIRST 8 SPELL ('Lib.leZ'). (LAID: no walk: one application.) -/
theorem Try.binary_LE_Uint64_z (a : Addr) (n c : Nat) (zs : List Int) (w : World) (hn : 8 ≤ n) (hl : 8 ≤ zs.length) (hcell : ∀ i, i < zs.length → w.cell? (a.add i) = some (.int .u8 (zs.getD i 0))) (hw : ∀ z ∈ zs, (Lit.int .u8 z).wf = true) :
    Calls Try.prog 27 #[.agg #[], .slice (some a) n c] w fun e w' => e = .returned (.int .u64 (Lib.leZ (zs.take 8))) ∧ Below w.heap.size w w' := Any.binary_LE_Uint64_z Try.laysBin33 a n c zs w hn hl hcell hw
end Go.Proofs
