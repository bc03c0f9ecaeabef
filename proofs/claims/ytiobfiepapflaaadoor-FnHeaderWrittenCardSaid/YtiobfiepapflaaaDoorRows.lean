/-
  NARROWER THAN 'FOR EVERY INPUT', by the rows' own cells (each row's printed sentence says how): FnHeaderRead: ifaces, laid · FnHeaderStripped: ifaces, laid · FnHeaderWritten: ifaces, laid.
  DERIVED. THE GIVEN ROWS OF THIS SEAT. 3 by the template 'for every input the law returns true; each argument reads behind the call as it read before'; 0 by the template 'total and deterministic' (their statements: YtiobfiepapflaaaDoorTotals.lean).
  GIVEN WITH THE SEED: the statements are not yours to turn. If you find one false, say at which input.
  Laid BY PROGRAM, IN A SANDBOX (cutbox-rows.mjs): the forced cells as the released guide's own fill.sh prints them over the translation aa8658d6a5ae8ed2… (all of the seat's roots in one cut). By AI agents, Wed Nov 11 2026. No macro, syntax, notation, axiom, sorry.
-/
import Derived.Test.YtiobfiepapflaaaDoorChecked
import GoSem.Claim
import GoSem.ClaimJoined
import GoSem.ClaimMapViews
import Derived.JoinedTies
import Derived.KernelRfl
namespace Go.Proofs.YtiobfiepapflaaaDoor
/- THE CELL 'sum', in the pinned program and in every row, IS THE sha256 OF THE DUMP (.gsa) THAT YtiobfiepapflaaaDoorProg.lean LOADS. Nothing in Lean hashes anything: it is a label: what it is worth is what the hold of that sum in a sandbox is worth. -/
noncomputable def Tryd.pinned : Pinned := { name := "ytiobfiepapflaaadoor", sum := "aa8658d6a5ae8ed2ef9f0269e2d4437a9e4a80c0f660cec859e11095bc39ba53", checked := Tryd.checked }
namespace Rows
def none {H : Type} : Left H := { results := [], args := [] }

/- WHAT THE LISTED PACKAGE-LEVEL VARIABLES READ AS WHEN THE CALL BEGINS. Each datum BY PROGRAM (the guide's laid-datum.mjs) off the statement by which the dump's own 'gosem.cut.vars' lays the variable. In a bare row this is a premise. The card (YtiobfiepapflaaaDoorCards.lean) ties it to the program's text. -/
def laid_io_ErrUnexpectedEOF {H : Type} : DataW H := .iface "*errors.errorString" (.ptr (.agg [.lit (.string [117, 110, 101, 120, 112, 101, 99, 116, 101, 100, 32, 69, 79, 70])]))
def laid_loop_example_pub_g01444_pub_compress_zstd_ErrMagicMismatch {H : Type} : DataW H := .iface "*errors.errorString" (.ptr (.agg [.lit (.string [105, 110, 118, 97, 108, 105, 100, 32, 105, 110, 112, 117, 116, 58, 32, 109, 97, 103, 105, 99, 32, 110, 117, 109, 98, 101, 114, 32, 109, 105, 115, 109, 97, 116, 99, 104])]))

/-- 'laws.FnHeaderRead': WHATEVER THE INPUT: true; the input reads as it did. -/
def fnHeaderReadSpec : ChangeSpec := { name := "fnHeaderRead", vars := ["loop.example/pub-g01444/pub/compress/zstd.ErrMagicMismatch"], fn := fun _ => fun
  | [d, g1] => { results := [.lit (.bool true)], args := [d], vars := [g1] }
  | _ => none }
def fnHeaderReadRow : OpenClaim := { program := "ytiobfiepapflaaadoor", sum := "aa8658d6a5ae8ed2ef9f0269e2d4437a9e4a80c0f660cec859e11095bc39ba53", func := "loop.example/pub-g01444/laws.FnHeaderRead", spec := "fnHeaderRead", named := ["io.ErrUnexpectedEOF", "loop.example/pub-g01444/pub/compress/zstd.ErrMagicMismatch", "encoding/binary.LittleEndian"], ifaces := true, apart := false, laid := [("io.ErrUnexpectedEOF", laid_io_ErrUnexpectedEOF), ("loop.example/pub-g01444/pub/compress/zstd.ErrMagicMismatch", laid_loop_example_pub_g01444_pub_compress_zstd_ErrMagicMismatch)] }
def FnHeaderReadSaid : Prop := fnHeaderReadRow.holds Tryd.pinned (OpenSpec.ofChange fnHeaderReadSpec)

/-- ITS FALSE NEIGHBOUR: 'it returns false'. Refute it at one input. -/
def fnHeaderReadWrong : ChangeSpec := { name := "fnHeaderRead", vars := ["loop.example/pub-g01444/pub/compress/zstd.ErrMagicMismatch"], fn := fun _ => fun
  | [d, g1] => { results := [.lit (.bool false)], args := [d], vars := [g1] }
  | _ => none }
def FnHeaderReadWrongFalsely : Prop := fnHeaderReadRow.holds Tryd.pinned (OpenSpec.ofChange fnHeaderReadWrong)

/-- 'laws.FnHeaderStripped': WHATEVER THE INPUT: true; the input reads as it did. -/
def fnHeaderStrippedSpec : ChangeSpec := { name := "fnHeaderStripped", vars := ["loop.example/pub-g01444/pub/compress/zstd.ErrMagicMismatch"], fn := fun _ => fun
  | [d, g1] => { results := [.lit (.bool true)], args := [d], vars := [g1] }
  | _ => none }
def fnHeaderStrippedRow : OpenClaim := { program := "ytiobfiepapflaaadoor", sum := "aa8658d6a5ae8ed2ef9f0269e2d4437a9e4a80c0f660cec859e11095bc39ba53", func := "loop.example/pub-g01444/laws.FnHeaderStripped", spec := "fnHeaderStripped", named := ["io.ErrUnexpectedEOF", "loop.example/pub-g01444/pub/compress/zstd.ErrMagicMismatch", "encoding/binary.LittleEndian"], ifaces := true, apart := false, laid := [("io.ErrUnexpectedEOF", laid_io_ErrUnexpectedEOF), ("loop.example/pub-g01444/pub/compress/zstd.ErrMagicMismatch", laid_loop_example_pub_g01444_pub_compress_zstd_ErrMagicMismatch)] }
def FnHeaderStrippedSaid : Prop := fnHeaderStrippedRow.holds Tryd.pinned (OpenSpec.ofChange fnHeaderStrippedSpec)

/-- ITS FALSE NEIGHBOUR: 'it returns false'. Refute it at one input. -/
def fnHeaderStrippedWrong : ChangeSpec := { name := "fnHeaderStripped", vars := ["loop.example/pub-g01444/pub/compress/zstd.ErrMagicMismatch"], fn := fun _ => fun
  | [d, g1] => { results := [.lit (.bool false)], args := [d], vars := [g1] }
  | _ => none }
def FnHeaderStrippedWrongFalsely : Prop := fnHeaderStrippedRow.holds Tryd.pinned (OpenSpec.ofChange fnHeaderStrippedWrong)

/-- 'laws.FnHeaderWritten': WHATEVER THE INPUT: true; the input reads as it did. -/
def fnHeaderWrittenSpec : ChangeSpec := { name := "fnHeaderWritten", vars := ["loop.example/pub-g01444/pub/compress/zstd.ErrMagicMismatch"], fn := fun _ => fun
  | [d, g1] => { results := [.lit (.bool true)], args := [d], vars := [g1] }
  | _ => none }
def fnHeaderWrittenRow : OpenClaim := { program := "ytiobfiepapflaaadoor", sum := "aa8658d6a5ae8ed2ef9f0269e2d4437a9e4a80c0f660cec859e11095bc39ba53", func := "loop.example/pub-g01444/laws.FnHeaderWritten", spec := "fnHeaderWritten", named := ["encoding/binary.LittleEndian", "io.ErrUnexpectedEOF", "loop.example/pub-g01444/pub/compress/zstd.ErrMagicMismatch"], ifaces := true, apart := false, laid := [("io.ErrUnexpectedEOF", laid_io_ErrUnexpectedEOF), ("loop.example/pub-g01444/pub/compress/zstd.ErrMagicMismatch", laid_loop_example_pub_g01444_pub_compress_zstd_ErrMagicMismatch)] }
def FnHeaderWrittenSaid : Prop := fnHeaderWrittenRow.holds Tryd.pinned (OpenSpec.ofChange fnHeaderWrittenSpec)

/-- ITS FALSE NEIGHBOUR: 'it returns false'. Refute it at one input. -/
def fnHeaderWrittenWrong : ChangeSpec := { name := "fnHeaderWritten", vars := ["loop.example/pub-g01444/pub/compress/zstd.ErrMagicMismatch"], fn := fun _ => fun
  | [d, g1] => { results := [.lit (.bool false)], args := [d], vars := [g1] }
  | _ => none }
def FnHeaderWrittenWrongFalsely : Prop := fnHeaderWrittenRow.holds Tryd.pinned (OpenSpec.ofChange fnHeaderWrittenWrong)

/- THE SECOND FORM. 'bulk': how many values and letters a reading holds, each counted each time it is reached (what is shared counts as often as it is met; a slice's spare places count too). A statement '..UptoSaid' is the law's where the arguments, and the package variables that the reading takes, are together of bulk at most 1048576: NARROWER than '..Said'. Prove '..Said' where nothing that the law and all that it calls make is longer than what came in: it says more and counts as full. Else prove '..UptoSaid'. A law counts once. -/
mutual
def uptoBulk {H : Type} : DataW H → Nat
  | .lit (.string bytes) => bytes.length + 1
  | .lit _ => 1
  | .nil => 1
  | .ptr d => uptoBulk d + 1
  | .slice elems spare => uptoBulkAll elems + uptoBulkAll spare + 1
  | .agg parts => uptoBulkAll parts + 1
  | .iface _ d => uptoBulk d + 1
  | .map entries => uptoBulkEntries entries + 1
  | .held _ => 1
def uptoBulkAll {H : Type} : List (DataW H) → Nat
  | [] => 0
  | d :: r => uptoBulk d + uptoBulkAll r
def uptoBulkEntries {H : Type} : List (Lit × DataW H) → Nat
  | [] => 0
  | x :: r => uptoBulkEntry x + uptoBulkEntries r
def uptoBulkEntry {H : Type} : Lit × DataW H → Nat
  | (.string bytes, d) => bytes.length + uptoBulk d + 1
  | (_, d) => uptoBulk d + 1
 end
def uptoSmall : (H : Type) → List (DataW H) → Bool := fun _ ds => decide (uptoBulkAll ds ≤ 1048576)
def OpenSpec.upto (s : _root_.Go.ChangeSpec) : _root_.Go.OpenSpec := { _root_.Go.OpenSpec.ofChange s with cond := some uptoSmall }

/-- 'laws.FnHeaderRead', WHERE WHAT IT READS IS OF BULK AT MOST 1048576: true; the input reads as it did. -/
def fnHeaderReadUptoRow : OpenClaim := { program := "ytiobfiepapflaaadoor", sum := "aa8658d6a5ae8ed2ef9f0269e2d4437a9e4a80c0f660cec859e11095bc39ba53", func := "loop.example/pub-g01444/laws.FnHeaderRead", spec := "fnHeaderRead", named := ["io.ErrUnexpectedEOF", "loop.example/pub-g01444/pub/compress/zstd.ErrMagicMismatch", "encoding/binary.LittleEndian"], ifaces := true, apart := false, laid := [("io.ErrUnexpectedEOF", laid_io_ErrUnexpectedEOF), ("loop.example/pub-g01444/pub/compress/zstd.ErrMagicMismatch", laid_loop_example_pub_g01444_pub_compress_zstd_ErrMagicMismatch)], narrowed := true }
def FnHeaderReadUptoSaid : Prop := fnHeaderReadUptoRow.holds Tryd.pinned (OpenSpec.upto fnHeaderReadSpec)

/-- 'laws.FnHeaderStripped', WHERE WHAT IT READS IS OF BULK AT MOST 1048576: true; the input reads as it did. -/
def fnHeaderStrippedUptoRow : OpenClaim := { program := "ytiobfiepapflaaadoor", sum := "aa8658d6a5ae8ed2ef9f0269e2d4437a9e4a80c0f660cec859e11095bc39ba53", func := "loop.example/pub-g01444/laws.FnHeaderStripped", spec := "fnHeaderStripped", named := ["io.ErrUnexpectedEOF", "loop.example/pub-g01444/pub/compress/zstd.ErrMagicMismatch", "encoding/binary.LittleEndian"], ifaces := true, apart := false, laid := [("io.ErrUnexpectedEOF", laid_io_ErrUnexpectedEOF), ("loop.example/pub-g01444/pub/compress/zstd.ErrMagicMismatch", laid_loop_example_pub_g01444_pub_compress_zstd_ErrMagicMismatch)], narrowed := true }
def FnHeaderStrippedUptoSaid : Prop := fnHeaderStrippedUptoRow.holds Tryd.pinned (OpenSpec.upto fnHeaderStrippedSpec)

/-- 'laws.FnHeaderWritten', WHERE WHAT IT READS IS OF BULK AT MOST 1048576: true; the input reads as it did. -/
def fnHeaderWrittenUptoRow : OpenClaim := { program := "ytiobfiepapflaaadoor", sum := "aa8658d6a5ae8ed2ef9f0269e2d4437a9e4a80c0f660cec859e11095bc39ba53", func := "loop.example/pub-g01444/laws.FnHeaderWritten", spec := "fnHeaderWritten", named := ["encoding/binary.LittleEndian", "io.ErrUnexpectedEOF", "loop.example/pub-g01444/pub/compress/zstd.ErrMagicMismatch"], ifaces := true, apart := false, laid := [("io.ErrUnexpectedEOF", laid_io_ErrUnexpectedEOF), ("loop.example/pub-g01444/pub/compress/zstd.ErrMagicMismatch", laid_loop_example_pub_g01444_pub_compress_zstd_ErrMagicMismatch)], narrowed := true }
def FnHeaderWrittenUptoSaid : Prop := fnHeaderWrittenUptoRow.holds Tryd.pinned (OpenSpec.upto fnHeaderWrittenSpec)

end Rows
end Go.Proofs.YtiobfiepapflaaaDoor
