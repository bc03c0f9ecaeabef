/-
  (*xxhash.Digest).Write takes up the bytes where the block is empty. Conditions: at most 40000 bytes.
-/
import Derived.Test.YtkpmhdpeglbacaaDoorDigW
import Derived.Test.YtkpmhdpeglbacaaDoorBlocks
import Derived.Test.YtkpmhdpeglbacaaDoorDSum
import Derived.Deep.DeepCutAuto
import Derived.Deep.CutRange
namespace Go.Proofs.YtkpmhdpeglbacaaDoor
open Go.RowKit

set_option maxRecDepth 100000 in
set_option maxHeartbeats 4000000 in
theorem write_zero (D : Nat) (l b mem : List UInt8) (A : Option Addr) (n c : Nat) (w : World) (hm0 : mem.take (l.length % 32) = l.drop (32 * (l.length / 32))) (hd : Dig w D (stN s0 l (l.length / 32)) l.length mem ((l.length % 32 : Nat) : Int))
    (hs : Sl w D A n c b) (hl : l.length ≤ 2147483647) (hn : n ≤ 40000) (hz : l.length % 32 = 0) (hfit : 32 ≤ n) :
    Calls Tryd.prog 23 #[.pointer (some ⟨D, 0, none⟩), .slice A n c] w fun e w' => e = .returned (.tuple #[.int .i64 n, .nilIface]) ∧ Dg w' D (l ++ b) ∧ Below D w w' := by
  obtain rfl := hs.len
  obtain ⟨q, hq⟩ : ∃ q, q = l.length % 32 := ⟨_, rfl⟩
  obtain ⟨s, hs0⟩ : ∃ s, s = stN s0 l (l.length / 32) := ⟨_, rfl⟩
  rw [← hq] at hm0 hd
  rw [← hs0] at hd
  have HQ := Lib.hid hq
  have HS0 := Lib.hid hs0
  have HM0 := Lib.hid hm0
  have hq32 : q < 32 := by omega
  have HML := Lib.hid hd.2
  clear hq hs0 hm0
  have hm := hs.most
  have hcc := hs.cap
  have ha := and31 q hq32
  have c4 := hd.c4
  have c5 := hd.c37
  have f4 := hd.frozen 4
  have HD := Lib.hid hd
  clear hd
  go_enter Tryd.func23, Tryd.ntmps23
  go_wp2_with fail
  obtain ⟨w1, hw1⟩ : ∃ w1, w.setCell ⟨D, 4, none⟩ (.int .u64 ((l.length : Int) + (b.length : Int))) = w1 := ⟨_, rfl⟩
  have HD1 : Hid (Dig w1 D s ((l.length : Int) + (b.length : Int)) mem q) := Lib.hid (by rw [← hw1]; exact HD.out.s4 _)
  have hb1 : Below D w w1 := by rw [← hw1]; exact (Below.refl D w).setCell (p := ⟨D, 4, none⟩) (Nat.le_refl D) _
  rw [hw1]
  clear hw1 c4 c5 f4 HD
  have c5 := HD1.out.c37
  have hi1 : (0 : Int) ≤ (q : Int) := by omega
  have hi2 : (q : Int) ≤ 32 := by omega
  have hi3 : ((q : Int)).toNat = q := by omega
  have hi4 : (q : Int) < 32 := by omega
  have hi5 : q ≤ 32 := by omega
  go_quiet (fail)
  obtain ⟨w2, hw2⟩ : ∃ w2, w1.drewN nq = w2 := ⟨_, rfl⟩
  have HD2 : Hid (Dig w2 D s ((l.length : Int) + (b.length : Int)) mem q) := Lib.hid (by rw [← hw2]; exact HD1.out.drewN nq)
  have hb2 : Below D w w2 := by rw [← hw2]; exact ⟨hb1.os, hb1.tape, hb1.output, hb1.size, hb1.block⟩
  have hs2 := hs.below hb2
  rw [hw2]
  clear hw2 nq c5 hi1 hi2 hi3 hi4 hi5 ha hb1 HD1
  have c5 := HD2.out.c37
  have f5 := HD2.out.frozen 37
  have hq0 : q = 0 := by rw [HQ.out]; exact hz
  have t1 : decide ((q : Int) + (b.length : Int) < 32) = false := by simp; omega
  have t2 : ¬ 0 < q := by omega
  have t3 : decide ((131072 : Int) ≤ (b.length : Int)) = false := by simp; omega
  have t4 : (32 : Int) ≤ (b.length : Int) := by omega
  have HZ := Lib.hid hq0
  have hlen : 32 * (l.length / 32) = l.length := by omega
  have HLN := Lib.hid hlen
  clear hz hq0 hlen
  go_wp2_with fail
  go_loopw [1] (fun s wr => s = .slice A b.length c ∧ wr = w2) (fun _ _ => 0)
  case atStart => exact ⟨rfl, rfl⟩
  case round =>
    obtain ⟨rfl, rfl⟩ := hrel
    obtain ⟨kk, hkk⟩ : ∃ kk, 32 * (b.length / 32) = kk := ⟨_, rfl⟩
    have CB := writeBlocks_any D s _ _ mem A b.length c b wr HD2.out hs2 (by omega)
    rw [hkk] at CB
    have hkb : kk ≤ b.length := by omega
    have hlt : b.length - kk < 32 := by omega
    have HKK := Lib.hid hkk
    obtain ⟨g, o, rfl, _, _⟩ := hs2.at_ (by omega)
    have hs4 := hs2.next kk hkb
    obtain ⟨A4, hA4⟩ : ∃ A4, (if c = kk then some (⟨g, o, none⟩ : Addr) else some ⟨g, o + kk, none⟩) = A4 := ⟨_, rfl⟩
    rw [hA4] at hs4
    have CB := Lib.hid CB
    clear hkk
    have hi6 : (kk : Int) ≤ (b.length : Int) := by omega
    have hi7 : ((kk : Int)).toNat = kk := by omega
    go_wp2_with (first
      | (go_at_call 43; refine CB.out.mono ?_; rintro e w3 ⟨rfl, hd3, hb3⟩; have HD3 := Lib.hid hd3; clear hd3)
      | (refine wpList_copy_dig rfl (.tmp 134) (.tmp 135) rfl HD3 (hs4.below hb3) 0 32 32 (b.length - kk) rfl rfl (by omega) (by omega) ?_; intro w4 HD4 hb4; have g5 := HD4.out.c37; have g5' := HD4.out.frozen 37))
    go_ret2
    refine ⟨rfl, ?_, ?_⟩
    · exact dg_rest (L := l ++ b) (K0 := l.length / 32) (Lib.hid (by rw [HLN.out]; simp)) (Lib.hid (by rw [HS0.out, stN_append _ _ _ _ (by omega)])) (by simp; omega) HKK (HD4.out.s37 _) (by simp) rfl
    · exact ((hb2.trans hb3).trans hb4).setCell (p := ⟨D, 37, none⟩) (Nat.le_refl D) _
end Go.Proofs.YtkpmhdpeglbacaaDoor
