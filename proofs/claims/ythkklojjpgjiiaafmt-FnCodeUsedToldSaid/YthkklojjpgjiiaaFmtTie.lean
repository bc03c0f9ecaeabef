/-
  DERIVED. GIVEN WITH THE SEED: THE PROGRAM's TIES (one call each: nine closed facts by the kernel) AND EACH ROW's TIE, after the 31st guide's Derived/Test/Toyas{Tie, Card}.lean. No idea stands in it: it is a product of the set-up. Laid BY PROGRAM, IN A SANDBOX (cutbox-door.mjs). By AI agents, Wed Nov 11 2026. No macro, syntax, notation, axiom, sorry.
-/
import Derived.Test.YthkklojjpgjiiaaFmtRows
import Derived.LaidByTextLater
import Derived.SevenTiedAt
import Derived.LaidSub
import Derived.LaidOnce
namespace Go.Proofs.YthkklojjpgjiiaaFmt
open Go
set_option maxRecDepth 100000
theorem seatTie1 : Tryf.prog.laidByTextLater [("io.ErrUnexpectedEOF", Rows.laid_io_ErrUnexpectedEOF), ("loop.example/pub-g01444/pub/compress/huff0.ErrUseRLE", Rows.laid_loop_example_pub_g01444_pub_compress_huff0_ErrUseRLE), ("loop.example/pub-g01444/pub/compress/huff0.ErrTooBig", Rows.laid_loop_example_pub_g01444_pub_compress_huff0_ErrTooBig)] [.sentinel, .sentinel, .sentinel] true :=
  Program.laidByTextLater_by_one 66 8 2 (by kernel_rfl) (by kernel_rfl) (by kernel_rfl) (by kernel_rfl) (by kernel_rfl) (by kernel_rfl) (fun _ _ => by kernel_rfl)
theorem noOwnUnsafe : Tryf.pinned.checked.prog.headLifts.contains "ownunsafe" = false := by kernel_rfl
theorem tie : Tryf.prog.laidByTextLater [("loop.example/pub-g01444/pub/compress/huff0.ErrUseRLE", Rows.laid_loop_example_pub_g01444_pub_compress_huff0_ErrUseRLE), ("loop.example/pub-g01444/pub/compress/huff0.ErrTooBig", Rows.laid_loop_example_pub_g01444_pub_compress_huff0_ErrTooBig)] [.sentinel, .sentinel] true :=
  Program.laidByTextLater.sub seatTie1 ["loop.example/pub-g01444/pub/compress/huff0.ErrUseRLE", "loop.example/pub-g01444/pub/compress/huff0.ErrTooBig"] (by kernel_rfl) (by kernel_rfl)
theorem fnCodeUsed_row_tie : Rows.fnCodeUsedRow.laidByTextAt .later Tryf.pinned [.sentinel, .sentinel] true :=
  OpenClaim.laidByTextAt_later rfl rfl tie noOwnUnsafe
theorem tie2 : Tryf.prog.laidByTextLater [("io.ErrUnexpectedEOF", Rows.laid_io_ErrUnexpectedEOF), ("loop.example/pub-g01444/pub/compress/huff0.ErrTooBig", Rows.laid_loop_example_pub_g01444_pub_compress_huff0_ErrTooBig)] [.sentinel, .sentinel] true :=
  Program.laidByTextLater.sub seatTie1 ["io.ErrUnexpectedEOF", "loop.example/pub-g01444/pub/compress/huff0.ErrTooBig"] (by kernel_rfl) (by kernel_rfl)
theorem fnHuffTable_row_tie : Rows.fnHuffTableRow.laidByTextAt .later Tryf.pinned [.sentinel, .sentinel] true :=
  OpenClaim.laidByTextAt_later rfl rfl tie2 noOwnUnsafe
end Go.Proofs.YthkklojjpgjiiaaFmt
