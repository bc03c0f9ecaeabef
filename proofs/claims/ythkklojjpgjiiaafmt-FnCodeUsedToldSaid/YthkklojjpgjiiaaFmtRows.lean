/-
  NARROWER THAN 'FOR EVERY INPUT', by the rows' own cells (each row's printed sentence says how): FnCodeUsed: ifaces, laid · FnHuffTable: ifaces, laid.
  DERIVED. THE GIVEN ROWS OF THIS SEAT. 2 by the template 'for every input the law returns true; each argument reads behind the call as it read before'; 0 by the template 'total and deterministic' (their statements: YthkklojjpgjiiaaFmtTotals.lean).
  GIVEN WITH THE SEED: the statements are not yours to turn. If you find one false, say at which input.
  Laid BY PROGRAM, IN A SANDBOX (cutbox-rows.mjs): the forced cells as the released guide's own fill.sh prints them over the translation f078086495cc2e4f… (all of the seat's roots in one cut). By AI agents, Wed Nov 11 2026. No macro, syntax, notation, axiom, sorry.
-/
import Derived.Test.YthkklojjpgjiiaaFmtChecked
import GoSem.Claim
import GoSem.ClaimJoined
import GoSem.ClaimMapViews
import Derived.JoinedTies
import Derived.KernelRfl
namespace Go.Proofs.YthkklojjpgjiiaaFmt
/- THE CELL 'sum', in the pinned program and in every row, IS THE sha256 OF THE DUMP (.gsa) THAT YthkklojjpgjiiaaFmtProg.lean LOADS. Nothing in Lean hashes anything: it is a label: what it is worth is what the hold of that sum in a sandbox is worth. -/
noncomputable def Tryf.pinned : Pinned := { name := "ythkklojjpgjiiaafmt", sum := "f078086495cc2e4fa4e8ba4d5241b89280a1800b3a391aceb725ef1e575d98dc", checked := Tryf.checked }
namespace Rows
def none {H : Type} : Left H := { results := [], args := [] }

/- WHAT THE LISTED PACKAGE-LEVEL VARIABLES READ AS WHEN THE CALL BEGINS. Each datum BY PROGRAM (the guide's laid-datum.mjs) off the statement by which the dump's own 'gosem.cut.vars' lays the variable. In a bare row this is a premise. The card (YthkklojjpgjiiaaFmtCards.lean) ties it to the program's text. -/
def laid_loop_example_pub_g01444_pub_compress_huff0_ErrUseRLE {H : Type} : DataW H := .iface "*errors.errorString" (.ptr (.agg [.lit (.string [105, 110, 112, 117, 116, 32, 105, 115, 32, 115, 105, 110, 103, 108, 101, 32, 118, 97, 108, 117, 101, 32, 114, 101, 112, 101, 97, 116, 101, 100])]))
def laid_loop_example_pub_g01444_pub_compress_huff0_ErrTooBig {H : Type} : DataW H := .iface "*errors.errorString" (.ptr (.agg [.lit (.string [105, 110, 112, 117, 116, 32, 116, 111, 111, 32, 98, 105, 103])]))
def laid_io_ErrUnexpectedEOF {H : Type} : DataW H := .iface "*errors.errorString" (.ptr (.agg [.lit (.string [117, 110, 101, 120, 112, 101, 99, 116, 101, 100, 32, 69, 79, 70])]))

/-- 'laws.FnCodeUsed': WHATEVER THE INPUT: true; the input reads as it did. -/
def fnCodeUsedSpec : ChangeSpec := { name := "fnCodeUsed", vars := ["loop.example/pub-g01444/pub/compress/huff0.ErrUseRLE", "loop.example/pub-g01444/pub/compress/huff0.ErrTooBig"], fn := fun _ => fun
  | [d1, d2, g1, g2] => { results := [.lit (.bool true)], args := [d1, d2], vars := [g1, g2] }
  | _ => none }
def fnCodeUsedRow : OpenClaim := { program := "ythkklojjpgjiiaafmt", sum := "f078086495cc2e4fa4e8ba4d5241b89280a1800b3a391aceb725ef1e575d98dc", func := "loop.example/pub-g01444/laws.FnCodeUsed", spec := "fnCodeUsed", stops := ["fmt.errorf"], inPlace := ["fmt.errorf"], named := ["loop.example/pub-g01444/pub/compress/huff0.ErrUseRLE", "loop.example/pub-g01444/pub/compress/huff0.ErrTooBig"], ifaces := true, apart := false, laid := [("loop.example/pub-g01444/pub/compress/huff0.ErrUseRLE", laid_loop_example_pub_g01444_pub_compress_huff0_ErrUseRLE), ("loop.example/pub-g01444/pub/compress/huff0.ErrTooBig", laid_loop_example_pub_g01444_pub_compress_huff0_ErrTooBig)] }
/-- NO THEOREM (fmt's text is open here; it may be false): for the released tool's asking of the row's closed facts alone. THE STATEMENT IS 'FnCodeUsedToldSaid' (YthkklojjpgjiiaaFmtCards.lean). -/
def FnCodeUsedFormAsk : Prop := fnCodeUsedRow.holds Tryf.pinned (OpenSpec.ofChange fnCodeUsedSpec)

/-- ITS FALSE NEIGHBOUR: 'it returns false'. Refute it at one input. -/
def fnCodeUsedWrong : ChangeSpec := { name := "fnCodeUsed", vars := ["loop.example/pub-g01444/pub/compress/huff0.ErrUseRLE", "loop.example/pub-g01444/pub/compress/huff0.ErrTooBig"], fn := fun _ => fun
  | [d1, d2, g1, g2] => { results := [.lit (.bool false)], args := [d1, d2], vars := [g1, g2] }
  | _ => none }
def FnCodeUsedWrongFormAsk : Prop := fnCodeUsedRow.holds Tryf.pinned (OpenSpec.ofChange fnCodeUsedWrong)

/-- 'laws.FnHuffTable': WHATEVER THE INPUT: true; the input reads as it did. -/
def fnHuffTableSpec : ChangeSpec := { name := "fnHuffTable", vars := ["loop.example/pub-g01444/pub/compress/huff0.ErrTooBig"], fn := fun _ => fun
  | [d, g1] => { results := [.lit (.bool true)], args := [d], vars := [g1] }
  | _ => none }
def fnHuffTableRow : OpenClaim := { program := "ythkklojjpgjiiaafmt", sum := "f078086495cc2e4fa4e8ba4d5241b89280a1800b3a391aceb725ef1e575d98dc", func := "loop.example/pub-g01444/laws.FnHuffTable", spec := "fnHuffTable", stops := ["fmt.errorf"], inPlace := ["fmt.errorf"], named := ["loop.example/pub-g01444/pub/compress/huff0.ErrTooBig", "encoding/binary.LittleEndian", "io.ErrUnexpectedEOF"], ifaces := true, apart := false, laid := [("io.ErrUnexpectedEOF", laid_io_ErrUnexpectedEOF), ("loop.example/pub-g01444/pub/compress/huff0.ErrTooBig", laid_loop_example_pub_g01444_pub_compress_huff0_ErrTooBig)] }
/-- NO THEOREM (fmt's text is open here; it may be false): for the released tool's asking of the row's closed facts alone. THE STATEMENT IS 'FnHuffTableToldSaid' (YthkklojjpgjiiaaFmtCards.lean). -/
def FnHuffTableFormAsk : Prop := fnHuffTableRow.holds Tryf.pinned (OpenSpec.ofChange fnHuffTableSpec)

/-- ITS FALSE NEIGHBOUR: 'it returns false'. Refute it at one input. -/
def fnHuffTableWrong : ChangeSpec := { name := "fnHuffTable", vars := ["loop.example/pub-g01444/pub/compress/huff0.ErrTooBig"], fn := fun _ => fun
  | [d, g1] => { results := [.lit (.bool false)], args := [d], vars := [g1] }
  | _ => none }
def FnHuffTableWrongFormAsk : Prop := fnHuffTableRow.holds Tryf.pinned (OpenSpec.ofChange fnHuffTableWrong)

end Rows
end Go.Proofs.YthkklojjpgjiiaaFmt
