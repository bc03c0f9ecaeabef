/-
  (*xxhash.Digest).Write takes up the bytes. Conditions: at most 40000 bytes.
-/
import Derived.Test.YtkpmhdpeglbacaaDoorWriteFits
import Derived.Test.YtkpmhdpeglbacaaDoorWriteZero
import Derived.Test.YtkpmhdpeglbacaaDoorWriteFull
namespace Go.Proofs.YtkpmhdpeglbacaaDoor
open Go.RowKit

theorem write_any (D : Nat) (l b : List UInt8) (A : Option Addr) (n c : Nat) (w : World) (hd : Dg w D l) (hs : Sl w D A n c b) (hl : l.length ≤ 2147483647) (hn : n ≤ 40000) :
    Calls Tryd.prog 23 #[.pointer (some ⟨D, 0, none⟩), .slice A n c] w fun e w' => e = .returned (.tuple #[.int .i64 n, .nilIface]) ∧ Dg w' D (l ++ b) ∧ Below D w w' := by
  obtain ⟨mem, h1, h2⟩ := hd
  by_cases hf : l.length % 32 + n < 32
  · exact write_fits D l b mem A n c w h1 h2 hs hl hf
  · by_cases hz : l.length % 32 = 0
    · exact write_zero D l b mem A n c w h1 h2 hs hl hn hz (by omega)
    · exact write_full D l b mem A n c w h1 h2 hs hl hn (by omega) (by omega)
end Go.Proofs.YtkpmhdpeglbacaaDoor
