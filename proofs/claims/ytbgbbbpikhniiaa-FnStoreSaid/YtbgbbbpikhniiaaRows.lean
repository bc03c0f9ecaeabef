/-
  No cell of these rows narrows 'for every input' (looked for: loops, veiled, ifaces, maps, wideKeys, modest, calm, conditions, laid).
  DERIVED. THE GIVEN ROWS OF THIS SEAT. 4 by the template 'for every input the law returns true; each argument reads behind the call as it read before'; 0 by the template 'total and deterministic' (their statements: YtbgbbbpikhniiaaTotals.lean).
  GIVEN WITH THE SEED: the statements are not yours to turn. If you find one false, say at which input.
  Laid BY PROGRAM, IN A SANDBOX (cutbox-rows.mjs): the forced cells as the released guide's own fill.sh prints them over the translation 11479dd81951595f… (all of the seat's roots in one cut). By AI agents, Wed Nov 11 2026. No macro, syntax, notation, axiom, sorry.
-/
import Derived.Test.YtbgbbbpikhniiaaChecked
import GoSem.Claim
import GoSem.ClaimJoined
import GoSem.ClaimMapViews
import Derived.JoinedTies
import Derived.KernelRfl
namespace Go.Proofs.Ytbgbbbpikhniiaa
/- THE CELL 'sum', in the pinned program and in every row, IS THE sha256 OF THE DUMP (.gsa) THAT YtbgbbbpikhniiaaProg.lean LOADS. Nothing in Lean hashes anything: it is a label: what it is worth is what the hold of that sum in a sandbox is worth. -/
noncomputable def Try.pinned : Pinned := { name := "ytbgbbbpikhniiaa", sum := "11479dd81951595fedc81440d1a1a6af3f77953e00a9e384fae6b10dfd5852d4", checked := Try.checked }
namespace Rows
def none {H : Type} : Left H := { results := [], args := [] }

/-- 'laws.FnLevelNearest': WHATEVER THE INPUT: true; the input reads as it did. -/
def fnLevelNearestSpec : ChangeSpec := { name := "fnLevelNearest", fn := fun _ => fun
  | [d1, d2] => { results := [.lit (.bool true)], args := [d1, d2] }
  | _ => none }
def fnLevelNearestRow : OpenClaim := { program := "ytbgbbbpikhniiaa", sum := "11479dd81951595fedc81440d1a1a6af3f77953e00a9e384fae6b10dfd5852d4", func := "loop.example/pub-g01444/laws.FnLevelNearest", spec := "fnLevelNearest", apart := false }
def FnLevelNearestSaid : Prop := fnLevelNearestRow.holds Try.pinned (OpenSpec.ofChange fnLevelNearestSpec)

/-- ITS FALSE NEIGHBOUR: 'it returns false'. Refute it at one input. -/
def fnLevelNearestWrong : ChangeSpec := { name := "fnLevelNearest", fn := fun _ => fun
  | [d1, d2] => { results := [.lit (.bool false)], args := [d1, d2] }
  | _ => none }
def FnLevelNearestWrongFalsely : Prop := fnLevelNearestRow.holds Try.pinned (OpenSpec.ofChange fnLevelNearestWrong)

/-- 'laws.FnSnappyMost': WHATEVER THE INPUT: true; the input reads as it did. -/
def fnSnappyMostSpec : ChangeSpec := { name := "fnSnappyMost", fn := fun _ => fun
  | [d1, d2] => { results := [.lit (.bool true)], args := [d1, d2] }
  | _ => none }
def fnSnappyMostRow : OpenClaim := { program := "ytbgbbbpikhniiaa", sum := "11479dd81951595fedc81440d1a1a6af3f77953e00a9e384fae6b10dfd5852d4", func := "loop.example/pub-g01444/laws.FnSnappyMost", spec := "fnSnappyMost", apart := false }
def FnSnappyMostSaid : Prop := fnSnappyMostRow.holds Try.pinned (OpenSpec.ofChange fnSnappyMostSpec)

/-- ITS FALSE NEIGHBOUR: 'it returns false'. Refute it at one input. -/
def fnSnappyMostWrong : ChangeSpec := { name := "fnSnappyMost", fn := fun _ => fun
  | [d1, d2] => { results := [.lit (.bool false)], args := [d1, d2] }
  | _ => none }
def FnSnappyMostWrongFalsely : Prop := fnSnappyMostRow.holds Try.pinned (OpenSpec.ofChange fnSnappyMostWrong)

/-- 'laws.FnLoad': WHATEVER THE INPUT: true; the input reads as it did. -/
def fnLoadSpec : ChangeSpec := { name := "fnLoad", fn := fun _ => fun
  | [d1, d2, d3] => { results := [.lit (.bool true)], args := [d1, d2, d3] }
  | _ => none }
def fnLoadRow : OpenClaim := { program := "ytbgbbbpikhniiaa", sum := "11479dd81951595fedc81440d1a1a6af3f77953e00a9e384fae6b10dfd5852d4", func := "loop.example/pub-g01444/laws.FnLoad", spec := "fnLoad", named := ["encoding/binary.LittleEndian"], apart := false }
def FnLoadSaid : Prop := fnLoadRow.holds Try.pinned (OpenSpec.ofChange fnLoadSpec)

/-- ITS FALSE NEIGHBOUR: 'it returns false'. Refute it at one input. -/
def fnLoadWrong : ChangeSpec := { name := "fnLoad", fn := fun _ => fun
  | [d1, d2, d3] => { results := [.lit (.bool false)], args := [d1, d2, d3] }
  | _ => none }
def FnLoadWrongFalsely : Prop := fnLoadRow.holds Try.pinned (OpenSpec.ofChange fnLoadWrong)

/-- 'laws.FnStore': WHATEVER THE INPUT: true; the input reads as it did. -/
def fnStoreSpec : ChangeSpec := { name := "fnStore", fn := fun _ => fun
  | [d1, d2, d3, d4] => { results := [.lit (.bool true)], args := [d1, d2, d3, d4] }
  | _ => none }
def fnStoreRow : OpenClaim := { program := "ytbgbbbpikhniiaa", sum := "11479dd81951595fedc81440d1a1a6af3f77953e00a9e384fae6b10dfd5852d4", func := "loop.example/pub-g01444/laws.FnStore", spec := "fnStore", named := ["encoding/binary.LittleEndian"], apart := false }
def FnStoreSaid : Prop := fnStoreRow.holds Try.pinned (OpenSpec.ofChange fnStoreSpec)

/-- ITS FALSE NEIGHBOUR: 'it returns false'. Refute it at one input. -/
def fnStoreWrong : ChangeSpec := { name := "fnStore", fn := fun _ => fun
  | [d1, d2, d3, d4] => { results := [.lit (.bool false)], args := [d1, d2, d3, d4] }
  | _ => none }
def FnStoreWrongFalsely : Prop := fnStoreRow.holds Try.pinned (OpenSpec.ofChange fnStoreWrong)

/- THE SECOND FORM. 'bulk': how many values and letters a reading holds, each counted each time it is reached (what is shared counts as often as it is met; a slice's spare places count too). A statement '..UptoSaid' is the law's where the arguments, and the package variables that the reading takes, are together of bulk at most 1048576: NARROWER than '..Said'. Prove '..Said' where nothing that the law and all that it calls make is longer than what came in: it says more and counts as full. Else prove '..UptoSaid'. A law counts once. -/
mutual
def uptoBulk {H : Type} : DataW H → Nat
  | .lit (.string bytes) => bytes.length + 1
  | .lit _ => 1
  | .nil => 1
  | .ptr d => uptoBulk d + 1
  | .slice elems spare => uptoBulkAll elems + uptoBulkAll spare + 1
  | .agg parts => uptoBulkAll parts + 1
  | .iface _ d => uptoBulk d + 1
  | .map entries => uptoBulkEntries entries + 1
  | .held _ => 1
def uptoBulkAll {H : Type} : List (DataW H) → Nat
  | [] => 0
  | d :: r => uptoBulk d + uptoBulkAll r
def uptoBulkEntries {H : Type} : List (Lit × DataW H) → Nat
  | [] => 0
  | x :: r => uptoBulkEntry x + uptoBulkEntries r
def uptoBulkEntry {H : Type} : Lit × DataW H → Nat
  | (.string bytes, d) => bytes.length + uptoBulk d + 1
  | (_, d) => uptoBulk d + 1
 end
def uptoSmall : (H : Type) → List (DataW H) → Bool := fun _ ds => decide (uptoBulkAll ds ≤ 1048576)
def OpenSpec.upto (s : _root_.Go.ChangeSpec) : _root_.Go.OpenSpec := { _root_.Go.OpenSpec.ofChange s with cond := some uptoSmall }

/-- 'laws.FnLevelNearest', WHERE WHAT IT READS IS OF BULK AT MOST 1048576: true; the input reads as it did. -/
def fnLevelNearestUptoRow : OpenClaim := { program := "ytbgbbbpikhniiaa", sum := "11479dd81951595fedc81440d1a1a6af3f77953e00a9e384fae6b10dfd5852d4", func := "loop.example/pub-g01444/laws.FnLevelNearest", spec := "fnLevelNearest", apart := false, narrowed := true }
def FnLevelNearestUptoSaid : Prop := fnLevelNearestUptoRow.holds Try.pinned (OpenSpec.upto fnLevelNearestSpec)

/-- 'laws.FnSnappyMost', WHERE WHAT IT READS IS OF BULK AT MOST 1048576: true; the input reads as it did. -/
def fnSnappyMostUptoRow : OpenClaim := { program := "ytbgbbbpikhniiaa", sum := "11479dd81951595fedc81440d1a1a6af3f77953e00a9e384fae6b10dfd5852d4", func := "loop.example/pub-g01444/laws.FnSnappyMost", spec := "fnSnappyMost", apart := false, narrowed := true }
def FnSnappyMostUptoSaid : Prop := fnSnappyMostUptoRow.holds Try.pinned (OpenSpec.upto fnSnappyMostSpec)

/-- 'laws.FnLoad', WHERE WHAT IT READS IS OF BULK AT MOST 1048576: true; the input reads as it did. -/
def fnLoadUptoRow : OpenClaim := { program := "ytbgbbbpikhniiaa", sum := "11479dd81951595fedc81440d1a1a6af3f77953e00a9e384fae6b10dfd5852d4", func := "loop.example/pub-g01444/laws.FnLoad", spec := "fnLoad", named := ["encoding/binary.LittleEndian"], apart := false, narrowed := true }
def FnLoadUptoSaid : Prop := fnLoadUptoRow.holds Try.pinned (OpenSpec.upto fnLoadSpec)

/-- 'laws.FnStore', WHERE WHAT IT READS IS OF BULK AT MOST 1048576: true; the input reads as it did. -/
def fnStoreUptoRow : OpenClaim := { program := "ytbgbbbpikhniiaa", sum := "11479dd81951595fedc81440d1a1a6af3f77953e00a9e384fae6b10dfd5852d4", func := "loop.example/pub-g01444/laws.FnStore", spec := "fnStore", named := ["encoding/binary.LittleEndian"], apart := false, narrowed := true }
def FnStoreUptoSaid : Prop := fnStoreUptoRow.holds Try.pinned (OpenSpec.upto fnStoreSpec)

end Rows
end Go.Proofs.Ytbgbbbpikhniiaa
