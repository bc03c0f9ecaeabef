/-
  NARROWER THAN 'FOR EVERY INPUT', by the rows' own cells (each row's printed sentence says how): FnHash: laid · FnHashString: laid · FnHashAgain: laid · FnHashCut: laid · FnHashSaved: laid.
  DERIVED. THE GIVEN ROWS OF THIS SEAT. 5 by the template 'for every input the law returns true; each argument reads behind the call as it read before'; 0 by the template 'total and deterministic' (their statements: YtkpmhdpeglbacaaDoorTotals.lean).
  GIVEN WITH THE SEED: the statements are not yours to turn. If you find one false, say at which input.
  Laid BY PROGRAM, IN A SANDBOX (cutbox-rows.mjs): the forced cells as the released guide's own fill.sh prints them over the translation a82ed2d1505b8d95… (all of the seat's roots in one cut). By AI agents, Wed Nov 11 2026. No macro, syntax, notation, axiom, sorry.
-/
import Derived.Test.YtkpmhdpeglbacaaDoorChecked
import GoSem.Claim
import GoSem.ClaimJoined
import GoSem.ClaimMapViews
import Derived.JoinedTies
import Derived.KernelRfl
namespace Go.Proofs.YtkpmhdpeglbacaaDoor
/- THE CELL 'sum', in the pinned program and in every row, IS THE sha256 OF THE DUMP (.gsa) THAT YtkpmhdpeglbacaaDoorProg.lean LOADS. Nothing in Lean hashes anything: it is a label: what it is worth is what the hold of that sum in a sandbox is worth. -/
noncomputable def Tryd.pinned : Pinned := { name := "ytkpmhdpeglbacaadoor", sum := "a82ed2d1505b8d950bd071a7b49bc418c59b90dfd581c11bba2cdc70a1caf0cf", checked := Tryd.checked }
namespace Rows
def none {H : Type} : Left H := { results := [], args := [] }

/- WHAT THE LISTED PACKAGE-LEVEL VARIABLES READ AS WHEN THE CALL BEGINS. Each datum BY PROGRAM (the guide's laid-datum.mjs) off the statement by which the dump's own 'gosem.cut.vars' lays the variable. In a bare row this is a premise. The card (YtkpmhdpeglbacaaDoorCards.lean) ties it to the program's text. -/
def laid_loop_example_pub_g01444_pub_compress_zstd_inner_xxhash_primes {H : Type} : DataW H := .agg [.lit (.int .u64 11400714785074694791), .lit (.int .u64 14029467366897019727), .lit (.int .u64 1609587929392839161), .lit (.int .u64 9650029242287828579), .lit (.int .u64 2870177450012600261)]

/-- 'laws.FnHash': WHATEVER THE INPUT: true; the input reads as it did. -/
def fnHashSpec : ChangeSpec := { name := "fnHash", vars := ["loop.example/pub-g01444/pub/compress/zstd/inner/xxhash.primes"], fn := fun _ => fun
  | [d, g1] => { results := [.lit (.bool true)], args := [d], vars := [g1] }
  | _ => none }
def fnHashRow : OpenClaim := { program := "ytkpmhdpeglbacaadoor", sum := "a82ed2d1505b8d950bd071a7b49bc418c59b90dfd581c11bba2cdc70a1caf0cf", func := "loop.example/pub-g01444/laws.FnHash", spec := "fnHash", named := ["loop.example/pub-g01444/pub/compress/zstd/inner/xxhash.primes", "encoding/binary.LittleEndian"], apart := false, laid := [("loop.example/pub-g01444/pub/compress/zstd/inner/xxhash.primes", laid_loop_example_pub_g01444_pub_compress_zstd_inner_xxhash_primes)] }
def FnHashSaid : Prop := fnHashRow.holds Tryd.pinned (OpenSpec.ofChange fnHashSpec)

/-- ITS FALSE NEIGHBOUR: 'it returns false'. Refute it at one input. -/
def fnHashWrong : ChangeSpec := { name := "fnHash", vars := ["loop.example/pub-g01444/pub/compress/zstd/inner/xxhash.primes"], fn := fun _ => fun
  | [d, g1] => { results := [.lit (.bool false)], args := [d], vars := [g1] }
  | _ => none }
def FnHashWrongFalsely : Prop := fnHashRow.holds Tryd.pinned (OpenSpec.ofChange fnHashWrong)

/-- 'laws.FnHashString': WHATEVER THE INPUT: true; the input reads as it did. -/
def fnHashStringSpec : ChangeSpec := { name := "fnHashString", vars := ["loop.example/pub-g01444/pub/compress/zstd/inner/xxhash.primes"], fn := fun _ => fun
  | [d, g1] => { results := [.lit (.bool true)], args := [d], vars := [g1] }
  | _ => none }
def fnHashStringRow : OpenClaim := { program := "ytkpmhdpeglbacaadoor", sum := "a82ed2d1505b8d950bd071a7b49bc418c59b90dfd581c11bba2cdc70a1caf0cf", func := "loop.example/pub-g01444/laws.FnHashString", spec := "fnHashString", named := ["loop.example/pub-g01444/pub/compress/zstd/inner/xxhash.primes", "encoding/binary.LittleEndian"], apart := false, laid := [("loop.example/pub-g01444/pub/compress/zstd/inner/xxhash.primes", laid_loop_example_pub_g01444_pub_compress_zstd_inner_xxhash_primes)] }
def FnHashStringSaid : Prop := fnHashStringRow.holds Tryd.pinned (OpenSpec.ofChange fnHashStringSpec)

/-- ITS FALSE NEIGHBOUR: 'it returns false'. Refute it at one input. -/
def fnHashStringWrong : ChangeSpec := { name := "fnHashString", vars := ["loop.example/pub-g01444/pub/compress/zstd/inner/xxhash.primes"], fn := fun _ => fun
  | [d, g1] => { results := [.lit (.bool false)], args := [d], vars := [g1] }
  | _ => none }
def FnHashStringWrongFalsely : Prop := fnHashStringRow.holds Tryd.pinned (OpenSpec.ofChange fnHashStringWrong)

/-- 'laws.FnHashAgain': WHATEVER THE INPUT: true; the input reads as it did. -/
def fnHashAgainSpec : ChangeSpec := { name := "fnHashAgain", vars := ["loop.example/pub-g01444/pub/compress/zstd/inner/xxhash.primes"], fn := fun _ => fun
  | [d1, d2, g1] => { results := [.lit (.bool true)], args := [d1, d2], vars := [g1] }
  | _ => none }
def fnHashAgainRow : OpenClaim := { program := "ytkpmhdpeglbacaadoor", sum := "a82ed2d1505b8d950bd071a7b49bc418c59b90dfd581c11bba2cdc70a1caf0cf", func := "loop.example/pub-g01444/laws.FnHashAgain", spec := "fnHashAgain", named := ["loop.example/pub-g01444/pub/compress/zstd/inner/xxhash.primes", "encoding/binary.LittleEndian"], apart := false, laid := [("loop.example/pub-g01444/pub/compress/zstd/inner/xxhash.primes", laid_loop_example_pub_g01444_pub_compress_zstd_inner_xxhash_primes)] }
def FnHashAgainSaid : Prop := fnHashAgainRow.holds Tryd.pinned (OpenSpec.ofChange fnHashAgainSpec)

/-- ITS FALSE NEIGHBOUR: 'it returns false'. Refute it at one input. -/
def fnHashAgainWrong : ChangeSpec := { name := "fnHashAgain", vars := ["loop.example/pub-g01444/pub/compress/zstd/inner/xxhash.primes"], fn := fun _ => fun
  | [d1, d2, g1] => { results := [.lit (.bool false)], args := [d1, d2], vars := [g1] }
  | _ => none }
def FnHashAgainWrongFalsely : Prop := fnHashAgainRow.holds Tryd.pinned (OpenSpec.ofChange fnHashAgainWrong)

/-- 'laws.FnHashCut': WHATEVER THE INPUT: true; the input reads as it did. -/
def fnHashCutSpec : ChangeSpec := { name := "fnHashCut", vars := ["loop.example/pub-g01444/pub/compress/zstd/inner/xxhash.primes"], fn := fun _ => fun
  | [d1, d2, g1] => { results := [.lit (.bool true)], args := [d1, d2], vars := [g1] }
  | _ => none }
def fnHashCutRow : OpenClaim := { program := "ytkpmhdpeglbacaadoor", sum := "a82ed2d1505b8d950bd071a7b49bc418c59b90dfd581c11bba2cdc70a1caf0cf", func := "loop.example/pub-g01444/laws.FnHashCut", spec := "fnHashCut", named := ["loop.example/pub-g01444/pub/compress/zstd/inner/xxhash.primes", "encoding/binary.LittleEndian"], apart := false, laid := [("loop.example/pub-g01444/pub/compress/zstd/inner/xxhash.primes", laid_loop_example_pub_g01444_pub_compress_zstd_inner_xxhash_primes)] }
def FnHashCutSaid : Prop := fnHashCutRow.holds Tryd.pinned (OpenSpec.ofChange fnHashCutSpec)

/-- ITS FALSE NEIGHBOUR: 'it returns false'. Refute it at one input. -/
def fnHashCutWrong : ChangeSpec := { name := "fnHashCut", vars := ["loop.example/pub-g01444/pub/compress/zstd/inner/xxhash.primes"], fn := fun _ => fun
  | [d1, d2, g1] => { results := [.lit (.bool false)], args := [d1, d2], vars := [g1] }
  | _ => none }
def FnHashCutWrongFalsely : Prop := fnHashCutRow.holds Tryd.pinned (OpenSpec.ofChange fnHashCutWrong)

/-- 'laws.FnHashSaved': WHATEVER THE INPUT: true; the input reads as it did. -/
def fnHashSavedSpec : ChangeSpec := { name := "fnHashSaved", vars := ["loop.example/pub-g01444/pub/compress/zstd/inner/xxhash.primes"], fn := fun _ => fun
  | [d1, d2, d3, g1] => { results := [.lit (.bool true)], args := [d1, d2, d3], vars := [g1] }
  | _ => none }
def fnHashSavedRow : OpenClaim := { program := "ytkpmhdpeglbacaadoor", sum := "a82ed2d1505b8d950bd071a7b49bc418c59b90dfd581c11bba2cdc70a1caf0cf", func := "loop.example/pub-g01444/laws.FnHashSaved", spec := "fnHashSaved", named := ["loop.example/pub-g01444/pub/compress/zstd/inner/xxhash.primes", "encoding/binary.LittleEndian"], apart := false, laid := [("loop.example/pub-g01444/pub/compress/zstd/inner/xxhash.primes", laid_loop_example_pub_g01444_pub_compress_zstd_inner_xxhash_primes)] }
def FnHashSavedSaid : Prop := fnHashSavedRow.holds Tryd.pinned (OpenSpec.ofChange fnHashSavedSpec)

/-- ITS FALSE NEIGHBOUR: 'it returns false'. Refute it at one input. -/
def fnHashSavedWrong : ChangeSpec := { name := "fnHashSaved", vars := ["loop.example/pub-g01444/pub/compress/zstd/inner/xxhash.primes"], fn := fun _ => fun
  | [d1, d2, d3, g1] => { results := [.lit (.bool false)], args := [d1, d2, d3], vars := [g1] }
  | _ => none }
def FnHashSavedWrongFalsely : Prop := fnHashSavedRow.holds Tryd.pinned (OpenSpec.ofChange fnHashSavedWrong)

/- THE SECOND FORM. 'bulk': how many values and letters a reading holds, each counted each time it is reached (what is shared counts as often as it is met; a slice's spare places count too). A statement '..UptoSaid' is the law's where the arguments, and the package variables that the reading takes, are together of bulk at most 1048576: NARROWER than '..Said'. Prove '..Said' where nothing that the law and all that it calls make is longer than what came in: it says more and counts as full. Else prove '..UptoSaid'. A law counts once. -/
mutual
def uptoBulk {H : Type} : DataW H → Nat
  | .lit (.string bytes) => bytes.length + 1
  | .lit _ => 1
  | .nil => 1
  | .ptr d => uptoBulk d + 1
  | .slice elems spare => uptoBulkAll elems + uptoBulkAll spare + 1
  | .agg parts => uptoBulkAll parts + 1
  | .iface _ d => uptoBulk d + 1
  | .map entries => uptoBulkEntries entries + 1
  | .held _ => 1
def uptoBulkAll {H : Type} : List (DataW H) → Nat
  | [] => 0
  | d :: r => uptoBulk d + uptoBulkAll r
def uptoBulkEntries {H : Type} : List (Lit × DataW H) → Nat
  | [] => 0
  | x :: r => uptoBulkEntry x + uptoBulkEntries r
def uptoBulkEntry {H : Type} : Lit × DataW H → Nat
  | (.string bytes, d) => bytes.length + uptoBulk d + 1
  | (_, d) => uptoBulk d + 1
 end
def uptoSmall : (H : Type) → List (DataW H) → Bool := fun _ ds => decide (uptoBulkAll ds ≤ 1048576)
def OpenSpec.upto (s : _root_.Go.ChangeSpec) : _root_.Go.OpenSpec := { _root_.Go.OpenSpec.ofChange s with cond := some uptoSmall }

/-- 'laws.FnHash', WHERE WHAT IT READS IS OF BULK AT MOST 1048576: true; the input reads as it did. -/
def fnHashUptoRow : OpenClaim := { program := "ytkpmhdpeglbacaadoor", sum := "a82ed2d1505b8d950bd071a7b49bc418c59b90dfd581c11bba2cdc70a1caf0cf", func := "loop.example/pub-g01444/laws.FnHash", spec := "fnHash", named := ["loop.example/pub-g01444/pub/compress/zstd/inner/xxhash.primes", "encoding/binary.LittleEndian"], apart := false, laid := [("loop.example/pub-g01444/pub/compress/zstd/inner/xxhash.primes", laid_loop_example_pub_g01444_pub_compress_zstd_inner_xxhash_primes)], narrowed := true }
def FnHashUptoSaid : Prop := fnHashUptoRow.holds Tryd.pinned (OpenSpec.upto fnHashSpec)

/-- 'laws.FnHashString', WHERE WHAT IT READS IS OF BULK AT MOST 1048576: true; the input reads as it did. -/
def fnHashStringUptoRow : OpenClaim := { program := "ytkpmhdpeglbacaadoor", sum := "a82ed2d1505b8d950bd071a7b49bc418c59b90dfd581c11bba2cdc70a1caf0cf", func := "loop.example/pub-g01444/laws.FnHashString", spec := "fnHashString", named := ["loop.example/pub-g01444/pub/compress/zstd/inner/xxhash.primes", "encoding/binary.LittleEndian"], apart := false, laid := [("loop.example/pub-g01444/pub/compress/zstd/inner/xxhash.primes", laid_loop_example_pub_g01444_pub_compress_zstd_inner_xxhash_primes)], narrowed := true }
def FnHashStringUptoSaid : Prop := fnHashStringUptoRow.holds Tryd.pinned (OpenSpec.upto fnHashStringSpec)

/-- 'laws.FnHashAgain', WHERE WHAT IT READS IS OF BULK AT MOST 1048576: true; the input reads as it did. -/
def fnHashAgainUptoRow : OpenClaim := { program := "ytkpmhdpeglbacaadoor", sum := "a82ed2d1505b8d950bd071a7b49bc418c59b90dfd581c11bba2cdc70a1caf0cf", func := "loop.example/pub-g01444/laws.FnHashAgain", spec := "fnHashAgain", named := ["loop.example/pub-g01444/pub/compress/zstd/inner/xxhash.primes", "encoding/binary.LittleEndian"], apart := false, laid := [("loop.example/pub-g01444/pub/compress/zstd/inner/xxhash.primes", laid_loop_example_pub_g01444_pub_compress_zstd_inner_xxhash_primes)], narrowed := true }
def FnHashAgainUptoSaid : Prop := fnHashAgainUptoRow.holds Tryd.pinned (OpenSpec.upto fnHashAgainSpec)

/-- 'laws.FnHashCut', WHERE WHAT IT READS IS OF BULK AT MOST 1048576: true; the input reads as it did. -/
def fnHashCutUptoRow : OpenClaim := { program := "ytkpmhdpeglbacaadoor", sum := "a82ed2d1505b8d950bd071a7b49bc418c59b90dfd581c11bba2cdc70a1caf0cf", func := "loop.example/pub-g01444/laws.FnHashCut", spec := "fnHashCut", named := ["loop.example/pub-g01444/pub/compress/zstd/inner/xxhash.primes", "encoding/binary.LittleEndian"], apart := false, laid := [("loop.example/pub-g01444/pub/compress/zstd/inner/xxhash.primes", laid_loop_example_pub_g01444_pub_compress_zstd_inner_xxhash_primes)], narrowed := true }
def FnHashCutUptoSaid : Prop := fnHashCutUptoRow.holds Tryd.pinned (OpenSpec.upto fnHashCutSpec)

/-- 'laws.FnHashSaved', WHERE WHAT IT READS IS OF BULK AT MOST 1048576: true; the input reads as it did. -/
def fnHashSavedUptoRow : OpenClaim := { program := "ytkpmhdpeglbacaadoor", sum := "a82ed2d1505b8d950bd071a7b49bc418c59b90dfd581c11bba2cdc70a1caf0cf", func := "loop.example/pub-g01444/laws.FnHashSaved", spec := "fnHashSaved", named := ["loop.example/pub-g01444/pub/compress/zstd/inner/xxhash.primes", "encoding/binary.LittleEndian"], apart := false, laid := [("loop.example/pub-g01444/pub/compress/zstd/inner/xxhash.primes", laid_loop_example_pub_g01444_pub_compress_zstd_inner_xxhash_primes)], narrowed := true }
def FnHashSavedUptoSaid : Prop := fnHashSavedUptoRow.holds Tryd.pinned (OpenSpec.upto fnHashSavedSpec)

end Rows
end Go.Proofs.YtkpmhdpeglbacaaDoor
