/-
  (*xxhash.Digest).Write takes up the bytes. Conditions: at most 40000 bytes.
-/
import Derived.Test.YtkpmhdpeglbacaaDoorDigW
import Derived.Test.YtkpmhdpeglbacaaDoorBlocks
import Derived.Test.YtkpmhdpeglbacaaDoorDSum
import Derived.Deep.DeepCutAuto
import Derived.Deep.CutRange
namespace Go.Proofs.YtkpmhdpeglbacaaDoor
open Go.RowKit

set_option maxRecDepth 100000 in
set_option maxHeartbeats 4000000 in
theorem write_fits (D : Nat) (l b mem : List UInt8) (A : Option Addr) (n c : Nat) (w : World) (hm0 : mem.take (l.length % 32) = l.drop (32 * (l.length / 32))) (hd : Dig w D (stN s0 l (l.length / 32)) l.length mem ((l.length % 32 : Nat) : Int))
    (hs : Sl w D A n c b) (hl : l.length ≤ 2147483647) (hfit : l.length % 32 + n < 32) :
    Calls Tryd.prog 23 #[.pointer (some ⟨D, 0, none⟩), .slice A n c] w fun e w' => e = .returned (.tuple #[.int .i64 n, .nilIface]) ∧ Dg w' D (l ++ b) ∧ Below D w w' := by
  obtain rfl := hs.len
  obtain ⟨q, hq⟩ : ∃ q, q = l.length % 32 := ⟨_, rfl⟩
  obtain ⟨s, hs0⟩ : ∃ s, s = stN s0 l (l.length / 32) := ⟨_, rfl⟩
  rw [← hq] at hm0 hfit hd
  rw [← hs0] at hd
  have HQ := Lib.hid hq
  have HS0 := Lib.hid hs0
  have HM0 := Lib.hid hm0
  have hq32 : q < 32 := by omega
  have HML := Lib.hid hd.2
  clear hq hs0 hm0
  have hm := hs.most
  have hcc := hs.cap
  have ha := and31 q hq32
  have c4 := hd.c4
  have c5 := hd.c37
  have f4 := hd.frozen 4
  have HD := Lib.hid hd
  clear hd
  go_enter Tryd.func23, Tryd.ntmps23
  go_wp2_with fail
  obtain ⟨w1, hw1⟩ : ∃ w1, w.setCell ⟨D, 4, none⟩ (.int .u64 ((l.length : Int) + (b.length : Int))) = w1 := ⟨_, rfl⟩
  have HD1 : Hid (Dig w1 D s ((l.length : Int) + (b.length : Int)) mem q) := Lib.hid (by rw [← hw1]; exact HD.out.s4 _)
  have hb1 : Below D w w1 := by rw [← hw1]; exact (Below.refl D w).setCell (p := ⟨D, 4, none⟩) (Nat.le_refl D) _
  rw [hw1]
  clear hw1 c4 c5 f4 HD
  have c5 := HD1.out.c37
  have hi1 : (0 : Int) ≤ (q : Int) := by omega
  have hi2 : (q : Int) ≤ 32 := by omega
  have hi3 : ((q : Int)).toNat = q := by omega
  have hi4 : (q : Int) < 32 := by omega
  have hi5 : q ≤ 32 := by omega
  go_quiet (fail)
  obtain ⟨w2, hw2⟩ : ∃ w2, w1.drewN nq = w2 := ⟨_, rfl⟩
  have HD2 : Hid (Dig w2 D s ((l.length : Int) + (b.length : Int)) mem q) := Lib.hid (by rw [← hw2]; exact HD1.out.drewN nq)
  have hb2 : Below D w w2 := by rw [← hw2]; exact ⟨hb1.os, hb1.tape, hb1.output, hb1.size, hb1.block⟩
  have hs2 := hs.below hb2
  rw [hw2]
  clear hw2 nq c5 hi1 hi2 hi3 hi4 hi5 ha hb1 HD1
  have c5 := HD2.out.c37
  have f5 := HD2.out.frozen 37
  go_wp2_with (refine wpList_copy_dig rfl (.tmp 36) (.tmp 37) rfl HD2 hs2 q (32 - q) (32 - q) b.length rfl rfl (by omega) (by omega) ?_; intro w3 HD3 hb3; have g5 := HD3.out.c37; have g5' := HD3.out.frozen 37)
  go_ret2
  refine ⟨rfl, ?_, ?_⟩
  · exact dg_fits HML HQ HS0 HM0 hfit (by omega) (HD3.out.s37 _) rfl rfl
  · exact (hb2.trans hb3).setCell (p := ⟨D, 37, none⟩) (Nat.le_refl D) _

end Go.Proofs.YtkpmhdpeglbacaaDoor
