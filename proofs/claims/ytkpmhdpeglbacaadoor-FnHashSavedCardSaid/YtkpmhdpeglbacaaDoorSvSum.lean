/-
  xxhash.Digest.Sum and spec.HashBytes: a hash as eight bytes, the highest one first. Conditions: those of each theorem.
-/
import Derived.Test.YtkpmhdpeglbacaaDoorDSum
import Derived.Test.YtkpmhdpeglbacaaDoorOwn
import Derived.Laws.Small
namespace Go.Proofs.YtkpmhdpeglbacaaDoor
open Go.RowKit

def beB (H i : Nat) : UInt8 := UInt8.ofNat (H / 256 ^ i)
def be8 (H : Nat) : List UInt8 := [beB H 7, beB H 6, beB H 5, beB H 4, beB H 3, beB H 2, beB H 1, beB H 0]
theorem be_at (H i : Nat) : IntKind.u8.wrap ((H : Int) / ((256 ^ i : Nat) : Int)) = ((beB H i).toNat : Int) := by
  unfold beB
  rw [IntKind.wrap_u8, UInt8.toNat_ofNat']
  omega
theorem sl_lit (w w2 : World) (l : List UInt8) (h : w2 = w.alloc (.cells (Lib.byteCells l).toArray 5)) (hl : l.length ≤ 1000) : Sl w2 w2.heap.size (some ⟨w.heap.size, 0, none⟩) l.length l.length l := by
  subst h
  refine ⟨rfl, Nat.le_refl _, by unfold maxLen; omega, .inr ⟨w.heap.size, 0, rfl, by simp, fun j hj => ?_⟩⟩
  rw [Nat.zero_add, cell_of_row _ w.heap.size j _ 5 (0, 0) (heap_alloc_new _ _), List.getElem?_toArray]
  unfold Lib.byteCells
  rw [List.getElem?_map, List.getElem?_eq_getElem hj]
  rfl

set_option maxHeartbeats 800000 in
theorem sum_any (D base H : Nat) (l t : List UInt8) (A : Option Addr) (c : Nat) (w : World) (hd : Dg w D l) (hn : l.length ≤ 2147483647) (hH : xx l = H) (hv : Own w base (.slice A t.length c) t) (hb : base ≤ w.heap.size) (ht : t.length ≤ 1000) :
    Calls Tryd.prog 30 #[.pointer (some ⟨D, 0, none⟩), .slice A t.length c] w fun e w' => ∃ A' c', e = .returned (.slice A' (t.length + 8) c') ∧ Sl w' w'.heap.size A' (t.length + 8) c' (t ++ be8 H) ∧ Below base w w' := by
  have K := dsum_any D l w hd hn
  rw [hH] at K
  have KK := Lib.hid K
  have HV := Lib.hid hv
  clear K hd hH hv
  go_enter Tryd.func30, Tryd.ntmps30
  go_wp2_with fail
  refine KK.out.mono ?_
  rintro e w1 ⟨rfl, hb1⟩
  obtain ⟨b7, hb7'⟩ : ∃ b, beB H 7 = b := ⟨_, rfl⟩
  have B7 := Lib.hid hb7'
  clear hb7'
  have e7 : IntKind.u8.wrap ((H : Int) / 72057594037927936) = (b7.toNat : Int) := by have := be_at H 7; rw [← B7.out]; simpa using this
  obtain ⟨b6, hb6'⟩ : ∃ b, beB H 6 = b := ⟨_, rfl⟩
  have B6 := Lib.hid hb6'
  clear hb6'
  have e6 : IntKind.u8.wrap ((H : Int) / 281474976710656) = (b6.toNat : Int) := by have := be_at H 6; rw [← B6.out]; simpa using this
  obtain ⟨b5, hb5'⟩ : ∃ b, beB H 5 = b := ⟨_, rfl⟩
  have B5 := Lib.hid hb5'
  clear hb5'
  have e5 : IntKind.u8.wrap ((H : Int) / 1099511627776) = (b5.toNat : Int) := by have := be_at H 5; rw [← B5.out]; simpa using this
  obtain ⟨b4, hb4'⟩ : ∃ b, beB H 4 = b := ⟨_, rfl⟩
  have B4 := Lib.hid hb4'
  clear hb4'
  have e4 : IntKind.u8.wrap ((H : Int) / 4294967296) = (b4.toNat : Int) := by have := be_at H 4; rw [← B4.out]; simpa using this
  obtain ⟨b3, hb3'⟩ : ∃ b, beB H 3 = b := ⟨_, rfl⟩
  have B3 := Lib.hid hb3'
  clear hb3'
  have e3 : IntKind.u8.wrap ((H : Int) / 16777216) = (b3.toNat : Int) := by have := be_at H 3; rw [← B3.out]; simpa using this
  obtain ⟨b2, hb2'⟩ : ∃ b, beB H 2 = b := ⟨_, rfl⟩
  have B2 := Lib.hid hb2'
  clear hb2'
  have e2 : IntKind.u8.wrap ((H : Int) / 65536) = (b2.toNat : Int) := by have := be_at H 2; rw [← B2.out]; simpa using this
  obtain ⟨b1, hb1'⟩ : ∃ b, beB H 1 = b := ⟨_, rfl⟩
  have B1 := Lib.hid hb1'
  clear hb1'
  have e1 : IntKind.u8.wrap ((H : Int) / 256) = (b1.toNat : Int) := by have := be_at H 1; rw [← B1.out]; simpa using this
  obtain ⟨b0, hb0'⟩ : ∃ b, beB H 0 = b := ⟨_, rfl⟩
  have B0 := Lib.hid hb0'
  clear hb0'
  have e0 : IntKind.u8.wrap ((H : Int)) = (b0.toNat : Int) := by have := be_at H 0; rw [← B0.out]; simpa using this
  have HBE : Hid (be8 H = [b7, b6, b5, b4, b3, b2, b1, b0]) := Lib.hid (by unfold be8; rw [B0.out, B1.out, B2.out, B3.out, B4.out, B5.out, B6.out, B7.out])
  obtain ⟨w2, hw2⟩ : ∃ x, w1.alloc (.cells #[.int .u8 (b7.toNat : Int), .int .u8 (b6.toNat : Int), .int .u8 (b5.toNat : Int), .int .u8 (b4.toNat : Int), .int .u8 (b3.toNat : Int), .int .u8 (b2.toNat : Int), .int .u8 (b1.toNat : Int), .int .u8 (b0.toNat : Int)] 5) = x := ⟨_, rfl⟩
  have HS2 := Lib.hid (sl_lit w1 w2 [b7, b6, b5, b4, b3, b2, b1, b0] hw2.symm (by simp))
  have HV2 : Hid (Own w2 base (.slice A t.length c) t) := by rw [← hw2]; exact Lib.hid ((HV.out.below hb1).alloc _)
  have hb2 : Below w.heap.size w w2 := by rw [← hw2]; exact hb1.alloc hb1.size _
  have hs2 : base ≤ w2.heap.size := Nat.le_trans hb hb2.size
  go_wp2_with (at_builtin; refine wpList_append_sl _ rfl (.tmp 8) (.tmp 32) rfl base (.slice A t.length c) t [b7, b6, b5, b4, b3, b2, b1, b0] rfl HV2.out w2.heap.size (some ⟨w1.heap.size, 0, none⟩) 8 8 rfl HS2.out (by omega) hs2 (t.length + 8) (t ++ [b7, b6, b5, b4, b3, b2, b1, b0]) rfl rfl ?_; intro A' c' w3 hap)
  go_ret
  refine ⟨A', c', rfl, ?_, (hb2.mono hb).trans hap.bel⟩
  rw [HBE.out]
  exact hap.sl

/-- the loop's head: k bytes are appended -/
def RelH (H base : Nat) (w : World) (v i : Value) (wr : World) : Prop := ∃ k : Nat, k ≤ 8 ∧ i = .int .i64 (7 - (k : Int)) ∧ (∃ A c, v = .slice A k c) ∧ Own wr base v ((be8 H).take k) ∧ Below base w wr ∧ base ≤ wr.heap.size
set_option maxHeartbeats 1600000 in
theorem hashBytes_any (H : Nat) (w : World) :
    Calls Tryd.prog 15 #[.int .u64 H] w fun e w' => ∃ A' c', e = .returned (.slice A' 8 c') ∧ Sl w' w'.heap.size A' 8 c' (be8 H) ∧ Below w.heap.size w w' := by
  have H0 := Lib.hid (Own.lit (base := w.heap.size) w (Nat.le_refl _))
  have hb0 : Below w.heap.size w (w.alloc (.cells #[] 5)) := (Below.refl _ _).alloc (Nat.le_refl _) _
  have hs0 : w.heap.size ≤ (w.alloc (.cells #[] 5)).heap.size := hb0.size
  go_enter Tryd.func15, Tryd.ntmps15
  go_wp2_with fail
  go_loopw [3, 4] (fun v i wr => RelH H w.heap.size w v i wr) (fun _ i _ => (intOf i + 1).toNat)
  case atStart => exact ⟨0, by omega, rfl, ⟨_, _, rfl⟩, H0.out, hb0, hs0⟩
  case round =>
    obtain ⟨k, hk, hi, ⟨A, c, rfl⟩, ho, hb, hs⟩ := hrel
    have HO := Lib.hid ho
    obtain ⟨base, hbase⟩ : ∃ b, w.heap.size = b := ⟨_, rfl⟩
    rw [hbase] at hb hs HO ⊢
    have HBB := Lib.hid hbase
    clear ho H0 hb0 hs0 hbase
    rcases (show k = 0 ∨ k = 1 ∨ k = 2 ∨ k = 3 ∨ k = 4 ∨ k = 5 ∨ k = 6 ∨ k = 7 ∨ k = 8 by omega) with rfl | rfl | rfl | rfl | rfl | rfl | rfl | rfl | rfl
    · rw [show (7 - ((0 : Nat) : Int)) = 7 from rfl] at hi
      subst hi
      obtain ⟨b, hbe⟩ : ∃ b, beB H 7 = b := ⟨_, rfl⟩
      have B := Lib.hid hbe
      clear hbe
      have e : IntKind.u8.wrap ((H : Int) / 72057594037927936) = (b.toNat : Int) := by have := be_at H 7; rw [← B.out]; simpa using this
      obtain ⟨w2, hw2⟩ : ∃ x, wr.alloc (.cells #[.int .u8 (b.toNat : Int)] 5) = x := ⟨_, rfl⟩
      have HS2 := Lib.hid (sl_lit wr w2 [b] hw2.symm (by simp))
      have HV2 : Hid (Own w2 base (.slice A 0 c) ((be8 H).take 0)) := by rw [← hw2]; exact Lib.hid (HO.out.alloc _)
      have hb2 : Below base w w2 := by rw [← hw2]; exact hb.alloc hs _
      have hs2 : base ≤ w2.heap.size := by rw [← hw2]; exact Nat.le_trans hs (by simp)
      go_wp2_with (at_builtin; refine wpList_append_sl _ rfl (.tmp 10) (.tmp 17) rfl base (.slice A 0 c) ((be8 H).take 0) [b] rfl HV2.out w2.heap.size (some ⟨wr.heap.size, 0, none⟩) 1 1 rfl HS2.out (by simp [be8]) hs2 1 ((be8 H).take 1) (by simp [be8]) (by rw [← B.out]; rfl) ?_; intro A' c' w3 hap)
      go_roundw
      case rel => exact ⟨1, by omega, rfl, ⟨_, _, rfl⟩, hap.own, hb2.trans hap.bel, hap.le⟩
      case measure => simp [intOf]
    · rw [show (7 - ((1 : Nat) : Int)) = 6 from rfl] at hi
      subst hi
      obtain ⟨b, hbe⟩ : ∃ b, beB H 6 = b := ⟨_, rfl⟩
      have B := Lib.hid hbe
      clear hbe
      have e : IntKind.u8.wrap ((H : Int) / 281474976710656) = (b.toNat : Int) := by have := be_at H 6; rw [← B.out]; simpa using this
      obtain ⟨w2, hw2⟩ : ∃ x, wr.alloc (.cells #[.int .u8 (b.toNat : Int)] 5) = x := ⟨_, rfl⟩
      have HS2 := Lib.hid (sl_lit wr w2 [b] hw2.symm (by simp))
      have HV2 : Hid (Own w2 base (.slice A 1 c) ((be8 H).take 1)) := by rw [← hw2]; exact Lib.hid (HO.out.alloc _)
      have hb2 : Below base w w2 := by rw [← hw2]; exact hb.alloc hs _
      have hs2 : base ≤ w2.heap.size := by rw [← hw2]; exact Nat.le_trans hs (by simp)
      go_wp2_with (at_builtin; refine wpList_append_sl _ rfl (.tmp 10) (.tmp 17) rfl base (.slice A 1 c) ((be8 H).take 1) [b] rfl HV2.out w2.heap.size (some ⟨wr.heap.size, 0, none⟩) 1 1 rfl HS2.out (by simp [be8]) hs2 2 ((be8 H).take 2) (by simp [be8]) (by rw [← B.out]; rfl) ?_; intro A' c' w3 hap)
      go_roundw
      case rel => exact ⟨2, by omega, rfl, ⟨_, _, rfl⟩, hap.own, hb2.trans hap.bel, hap.le⟩
      case measure => simp [intOf]
    · rw [show (7 - ((2 : Nat) : Int)) = 5 from rfl] at hi
      subst hi
      obtain ⟨b, hbe⟩ : ∃ b, beB H 5 = b := ⟨_, rfl⟩
      have B := Lib.hid hbe
      clear hbe
      have e : IntKind.u8.wrap ((H : Int) / 1099511627776) = (b.toNat : Int) := by have := be_at H 5; rw [← B.out]; simpa using this
      obtain ⟨w2, hw2⟩ : ∃ x, wr.alloc (.cells #[.int .u8 (b.toNat : Int)] 5) = x := ⟨_, rfl⟩
      have HS2 := Lib.hid (sl_lit wr w2 [b] hw2.symm (by simp))
      have HV2 : Hid (Own w2 base (.slice A 2 c) ((be8 H).take 2)) := by rw [← hw2]; exact Lib.hid (HO.out.alloc _)
      have hb2 : Below base w w2 := by rw [← hw2]; exact hb.alloc hs _
      have hs2 : base ≤ w2.heap.size := by rw [← hw2]; exact Nat.le_trans hs (by simp)
      go_wp2_with (at_builtin; refine wpList_append_sl _ rfl (.tmp 10) (.tmp 17) rfl base (.slice A 2 c) ((be8 H).take 2) [b] rfl HV2.out w2.heap.size (some ⟨wr.heap.size, 0, none⟩) 1 1 rfl HS2.out (by simp [be8]) hs2 3 ((be8 H).take 3) (by simp [be8]) (by rw [← B.out]; rfl) ?_; intro A' c' w3 hap)
      go_roundw
      case rel => exact ⟨3, by omega, rfl, ⟨_, _, rfl⟩, hap.own, hb2.trans hap.bel, hap.le⟩
      case measure => simp [intOf]
    · rw [show (7 - ((3 : Nat) : Int)) = 4 from rfl] at hi
      subst hi
      obtain ⟨b, hbe⟩ : ∃ b, beB H 4 = b := ⟨_, rfl⟩
      have B := Lib.hid hbe
      clear hbe
      have e : IntKind.u8.wrap ((H : Int) / 4294967296) = (b.toNat : Int) := by have := be_at H 4; rw [← B.out]; simpa using this
      obtain ⟨w2, hw2⟩ : ∃ x, wr.alloc (.cells #[.int .u8 (b.toNat : Int)] 5) = x := ⟨_, rfl⟩
      have HS2 := Lib.hid (sl_lit wr w2 [b] hw2.symm (by simp))
      have HV2 : Hid (Own w2 base (.slice A 3 c) ((be8 H).take 3)) := by rw [← hw2]; exact Lib.hid (HO.out.alloc _)
      have hb2 : Below base w w2 := by rw [← hw2]; exact hb.alloc hs _
      have hs2 : base ≤ w2.heap.size := by rw [← hw2]; exact Nat.le_trans hs (by simp)
      go_wp2_with (at_builtin; refine wpList_append_sl _ rfl (.tmp 10) (.tmp 17) rfl base (.slice A 3 c) ((be8 H).take 3) [b] rfl HV2.out w2.heap.size (some ⟨wr.heap.size, 0, none⟩) 1 1 rfl HS2.out (by simp [be8]) hs2 4 ((be8 H).take 4) (by simp [be8]) (by rw [← B.out]; rfl) ?_; intro A' c' w3 hap)
      go_roundw
      case rel => exact ⟨4, by omega, rfl, ⟨_, _, rfl⟩, hap.own, hb2.trans hap.bel, hap.le⟩
      case measure => simp [intOf]
    · rw [show (7 - ((4 : Nat) : Int)) = 3 from rfl] at hi
      subst hi
      obtain ⟨b, hbe⟩ : ∃ b, beB H 3 = b := ⟨_, rfl⟩
      have B := Lib.hid hbe
      clear hbe
      have e : IntKind.u8.wrap ((H : Int) / 16777216) = (b.toNat : Int) := by have := be_at H 3; rw [← B.out]; simpa using this
      obtain ⟨w2, hw2⟩ : ∃ x, wr.alloc (.cells #[.int .u8 (b.toNat : Int)] 5) = x := ⟨_, rfl⟩
      have HS2 := Lib.hid (sl_lit wr w2 [b] hw2.symm (by simp))
      have HV2 : Hid (Own w2 base (.slice A 4 c) ((be8 H).take 4)) := by rw [← hw2]; exact Lib.hid (HO.out.alloc _)
      have hb2 : Below base w w2 := by rw [← hw2]; exact hb.alloc hs _
      have hs2 : base ≤ w2.heap.size := by rw [← hw2]; exact Nat.le_trans hs (by simp)
      go_wp2_with (at_builtin; refine wpList_append_sl _ rfl (.tmp 10) (.tmp 17) rfl base (.slice A 4 c) ((be8 H).take 4) [b] rfl HV2.out w2.heap.size (some ⟨wr.heap.size, 0, none⟩) 1 1 rfl HS2.out (by simp [be8]) hs2 5 ((be8 H).take 5) (by simp [be8]) (by rw [← B.out]; rfl) ?_; intro A' c' w3 hap)
      go_roundw
      case rel => exact ⟨5, by omega, rfl, ⟨_, _, rfl⟩, hap.own, hb2.trans hap.bel, hap.le⟩
      case measure => simp [intOf]
    · rw [show (7 - ((5 : Nat) : Int)) = 2 from rfl] at hi
      subst hi
      obtain ⟨b, hbe⟩ : ∃ b, beB H 2 = b := ⟨_, rfl⟩
      have B := Lib.hid hbe
      clear hbe
      have e : IntKind.u8.wrap ((H : Int) / 65536) = (b.toNat : Int) := by have := be_at H 2; rw [← B.out]; simpa using this
      obtain ⟨w2, hw2⟩ : ∃ x, wr.alloc (.cells #[.int .u8 (b.toNat : Int)] 5) = x := ⟨_, rfl⟩
      have HS2 := Lib.hid (sl_lit wr w2 [b] hw2.symm (by simp))
      have HV2 : Hid (Own w2 base (.slice A 5 c) ((be8 H).take 5)) := by rw [← hw2]; exact Lib.hid (HO.out.alloc _)
      have hb2 : Below base w w2 := by rw [← hw2]; exact hb.alloc hs _
      have hs2 : base ≤ w2.heap.size := by rw [← hw2]; exact Nat.le_trans hs (by simp)
      go_wp2_with (at_builtin; refine wpList_append_sl _ rfl (.tmp 10) (.tmp 17) rfl base (.slice A 5 c) ((be8 H).take 5) [b] rfl HV2.out w2.heap.size (some ⟨wr.heap.size, 0, none⟩) 1 1 rfl HS2.out (by simp [be8]) hs2 6 ((be8 H).take 6) (by simp [be8]) (by rw [← B.out]; rfl) ?_; intro A' c' w3 hap)
      go_roundw
      case rel => exact ⟨6, by omega, rfl, ⟨_, _, rfl⟩, hap.own, hb2.trans hap.bel, hap.le⟩
      case measure => simp [intOf]
    · rw [show (7 - ((6 : Nat) : Int)) = 1 from rfl] at hi
      subst hi
      obtain ⟨b, hbe⟩ : ∃ b, beB H 1 = b := ⟨_, rfl⟩
      have B := Lib.hid hbe
      clear hbe
      have e : IntKind.u8.wrap ((H : Int) / 256) = (b.toNat : Int) := by have := be_at H 1; rw [← B.out]; simpa using this
      obtain ⟨w2, hw2⟩ : ∃ x, wr.alloc (.cells #[.int .u8 (b.toNat : Int)] 5) = x := ⟨_, rfl⟩
      have HS2 := Lib.hid (sl_lit wr w2 [b] hw2.symm (by simp))
      have HV2 : Hid (Own w2 base (.slice A 6 c) ((be8 H).take 6)) := by rw [← hw2]; exact Lib.hid (HO.out.alloc _)
      have hb2 : Below base w w2 := by rw [← hw2]; exact hb.alloc hs _
      have hs2 : base ≤ w2.heap.size := by rw [← hw2]; exact Nat.le_trans hs (by simp)
      go_wp2_with (at_builtin; refine wpList_append_sl _ rfl (.tmp 10) (.tmp 17) rfl base (.slice A 6 c) ((be8 H).take 6) [b] rfl HV2.out w2.heap.size (some ⟨wr.heap.size, 0, none⟩) 1 1 rfl HS2.out (by simp [be8]) hs2 7 ((be8 H).take 7) (by simp [be8]) (by rw [← B.out]; rfl) ?_; intro A' c' w3 hap)
      go_roundw
      case rel => exact ⟨7, by omega, rfl, ⟨_, _, rfl⟩, hap.own, hb2.trans hap.bel, hap.le⟩
      case measure => simp [intOf]
    · rw [show (7 - ((7 : Nat) : Int)) = 0 from rfl] at hi
      subst hi
      obtain ⟨b, hbe⟩ : ∃ b, beB H 0 = b := ⟨_, rfl⟩
      have B := Lib.hid hbe
      clear hbe
      have e : IntKind.u8.wrap ((H : Int)) = (b.toNat : Int) := by have := be_at H 0; rw [← B.out]; simpa using this
      obtain ⟨w2, hw2⟩ : ∃ x, wr.alloc (.cells #[.int .u8 (b.toNat : Int)] 5) = x := ⟨_, rfl⟩
      have HS2 := Lib.hid (sl_lit wr w2 [b] hw2.symm (by simp))
      have HV2 : Hid (Own w2 base (.slice A 7 c) ((be8 H).take 7)) := by rw [← hw2]; exact Lib.hid (HO.out.alloc _)
      have hb2 : Below base w w2 := by rw [← hw2]; exact hb.alloc hs _
      have hs2 : base ≤ w2.heap.size := by rw [← hw2]; exact Nat.le_trans hs (by simp)
      go_wp2_with (at_builtin; refine wpList_append_sl _ rfl (.tmp 10) (.tmp 17) rfl base (.slice A 7 c) ((be8 H).take 7) [b] rfl HV2.out w2.heap.size (some ⟨wr.heap.size, 0, none⟩) 1 1 rfl HS2.out (by simp [be8]) hs2 8 ((be8 H).take 8) (by simp [be8]) (by rw [← B.out]; rfl) ?_; intro A' c' w3 hap)
      go_roundw
      case rel => exact ⟨8, by omega, rfl, ⟨_, _, rfl⟩, hap.own, hb2.trans hap.bel, hap.le⟩
      case measure => simp [intOf]
    · rw [show (7 - ((8 : Nat) : Int)) = -1 from rfl] at hi
      subst hi
      have hsl : Sl wr wr.heap.size A 8 c (be8 H) := by
        obtain ⟨A2, c2, e, h, _⟩ := HO.out.form
        injection e with e1 e2 e3
        subst e1
        subst e3
        exact h
      have HSL := Lib.hid hsl
      clear hsl
      go_wp2_with fail
      go_ret
      exact ⟨_, _, rfl, HSL.out, by rw [HBB.out]; exact hb⟩
end Go.Proofs.YtkpmhdpeglbacaaDoor
