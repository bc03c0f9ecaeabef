/-
  A node of the tree in one word: count, parent, symbol, number of bits; its methods. Conditions: those of each.
  huff0's huffSort: how the ranks and the nodes stand between rounds. Plain lemmas; conditions: those of each.
-/
import Derived.Test.YthkklojjpgjiiaaFmtCodeT16
import Derived.Test.YthkklojjpgjiiaaFmtCodeT10
import Derived.Test.YthkklojjpgjiiaaFmtCodeT03
import Derived.Test.YthkklojjpgjiiaaFmtCodeT17
import Derived.Deep.RegionHeld3
namespace Go.Proofs.YthkklojjpgjiiaaFmt
open Go.RowKit

/-- count c, parent p, symbol s, bits b -/
def nd (c p s b : Nat) : Nat := c + 2 ^ 32 * p + 2 ^ 48 * s + 2 ^ 56 * b
theorem and_split (k a b c d : Nat) (ha : a < 2 ^ k) (hc : c < 2 ^ k) : (2 ^ k * b + a) &&& (2 ^ k * d + c) = 2 ^ k * (b &&& d) + (a &&& c) := by
  apply Nat.eq_of_testBit_eq
  intro i
  rw [Nat.testBit_and, Nat.testBit_two_pow_mul_add b ha, Nat.testBit_two_pow_mul_add d hc, Nat.testBit_two_pow_mul_add _ (Nat.lt_of_le_of_lt Nat.and_le_left ha)]
  split <;> rw [Nat.testBit_and]
theorem or_split (k a b c d : Nat) (ha : a < 2 ^ k) (hc : c < 2 ^ k) : (2 ^ k * b + a) ||| (2 ^ k * d + c) = 2 ^ k * (b ||| d) + (a ||| c) := by
  apply Nat.eq_of_testBit_eq
  intro i
  rw [Nat.testBit_or, Nat.testBit_two_pow_mul_add b ha, Nat.testBit_two_pow_mul_add d hc, Nat.testBit_two_pow_mul_add _ (Nat.or_lt_two_pow ha hc)]
  split <;> rw [Nat.testBit_or]
theorem and_ones (k x : Nat) (hx : x < 2 ^ k) : x &&& (2 ^ k - 1) = x := by
  rw [Nat.and_two_pow_sub_one_eq_mod, Nat.mod_eq_of_lt hx]
section
variable {c p s b : Nat}
theorem nd_lt (hc : c < 2 ^ 32) (hp : p < 2 ^ 16) (hs : s < 2 ^ 8) (hb : b < 2 ^ 8) : nd c p s b < 18446744073709551616 := by
  unfold nd; omega
theorem nd_c (hc : c < 2 ^ 32) : nd c p s b % 4294967296 = c := by
  unfold nd; omega
theorem nd_p (hc : c < 2 ^ 32) (hp : p < 2 ^ 16) : nd c p s b / 4294967296 % 65536 = p := by
  unfold nd; omega
theorem nd_s (hc : c < 2 ^ 32) (hp : p < 2 ^ 16) (hs : s < 2 ^ 8) : nd c p s b / 281474976710656 % 256 = s := by
  unfold nd; omega
theorem nd_b (hc : c < 2 ^ 32) (hp : p < 2 ^ 16) (hs : s < 2 ^ 8) (hb : b < 2 ^ 8) : nd c p s b / 72057594037927936 % 256 = b := by
  unfold nd; omega
theorem nd_and_c (hc : c < 2 ^ 32) (hp : p < 2 ^ 16) (hs : s < 2 ^ 8) (hb : b < 2 ^ 8) : nd c p s b &&& 18446744069414584320 = nd 0 p s b := by
  have h := and_split 32 c (p + 2 ^ 16 * s + 2 ^ 24 * b) 0 (2 ^ 32 - 1) hc (by decide)
  rw [and_ones 32 _ (by omega), Nat.and_zero] at h
  rw [show nd c p s b = 2 ^ 32 * (p + 2 ^ 16 * s + 2 ^ 24 * b) + c by unfold nd; omega, show 18446744069414584320 = 2 ^ 32 * (2 ^ 32 - 1) + 0 by decide, h]
  unfold nd; omega
theorem nd_and_b (hc : c < 2 ^ 32) (hp : p < 2 ^ 16) (hs : s < 2 ^ 8) : nd c p s b &&& 72057594037927935 = nd c p s 0 := by
  rw [show 72057594037927935 = 2 ^ 56 - 1 by decide, Nat.and_two_pow_sub_one_eq_mod]
  unfold nd; omega
theorem nd_and_p (hc : c < 2 ^ 32) (hp : p < 2 ^ 16) (hs : s < 2 ^ 8) (hb : b < 2 ^ 8) : nd c p s b &&& 18446462603027808255 = nd c 0 s b := by
  have h := and_split 48 (2 ^ 32 * p + c) (s + 2 ^ 8 * b) (2 ^ 32 - 1) (2 ^ 16 - 1) (by omega) (by decide)
  have h2 := and_split 32 c p (2 ^ 32 - 1) 0 hc (by decide)
  rw [and_ones 16 _ (by omega)] at h
  rw [and_ones 32 _ hc, Nat.and_zero] at h2
  rw [show 2 ^ 32 - 1 = 2 ^ 32 * 0 + (2 ^ 32 - 1) by decide, h2] at h
  rw [show nd c p s b = 2 ^ 48 * (s + 2 ^ 8 * b) + (2 ^ 32 * p + c) by unfold nd; omega, show 18446462603027808255 = 2 ^ 48 * (2 ^ 16 - 1) + (2 ^ 32 * 0 + (2 ^ 32 - 1)) by decide, h]
  unfold nd; omega
theorem nd_or_c (c' : Nat) (hc : c' < 2 ^ 32) : nd 0 p s b ||| c' = nd c' p s b := by
  have h := or_split 32 0 (p + 2 ^ 16 * s + 2 ^ 24 * b) c' 0 (by decide) hc
  rw [Nat.zero_or, Nat.or_zero, Nat.mul_zero, Nat.zero_add] at h
  rw [show nd 0 p s b = 2 ^ 32 * (p + 2 ^ 16 * s + 2 ^ 24 * b) + 0 by unfold nd; omega, h]
  unfold nd; omega
theorem nd_or_p (p' : Nat) (hc : c < 2 ^ 32) (hp : p' < 2 ^ 16) : nd c 0 s b ||| p' * 4294967296 = nd c p' s b := by
  have h := or_split 48 c (s + 2 ^ 8 * b) (2 ^ 32 * p' + 0) 0 (by omega) (by omega)
  have h2 := or_split 32 c 0 0 p' hc (by decide)
  rw [Nat.zero_or, Nat.or_zero, Nat.mul_zero, Nat.zero_add] at h2
  rw [h2, Nat.or_zero, Nat.mul_zero, Nat.zero_add] at h
  rw [show nd c 0 s b = 2 ^ 48 * (s + 2 ^ 8 * b) + c by unfold nd; omega, show p' * 4294967296 = 2 ^ 32 * p' + 0 by omega, h]
  unfold nd; omega
theorem nd_or_b (b' : Nat) (hc : c < 2 ^ 32) (hp : p < 2 ^ 16) (hs : s < 2 ^ 8) : nd c p s 0 ||| b' * 72057594037927936 = nd c p s b' := by
  have h := or_split 56 (c + 2 ^ 32 * p + 2 ^ 48 * s) 0 0 b' (by omega) (by decide)
  rw [Nat.zero_or, Nat.or_zero, Nat.mul_zero, Nat.zero_add] at h
  rw [show nd c p s 0 = c + 2 ^ 32 * p + 2 ^ 48 * s by unfold nd; omega, show b' * 72057594037927936 = 2 ^ 56 * b' + 0 by omega, h]
  unfold nd; omega
end
theorem and_u64n (a b : Nat) (ha : a < 18446744073709551616) (hb : b < 18446744073709551616) (bi : Int) (hbi : bi = (b : Nat)) : bits .and .u64 (a : Int) bi = ((a &&& b : Nat) : Int) := by
  subst hbi
  have hx : a &&& b < 2 ^ 64 := Nat.and_lt_two_pow _ (by omega)
  have h1 : (BitVec.ofInt 64 (a : Int)).toNat = a := by
    rw [BitVec.ofInt_natCast, BitVec.toNat_ofNat]; exact Nat.mod_eq_of_lt (by omega)
  have h2 : (BitVec.ofInt 64 (b : Int)).toNat = b := by
    rw [BitVec.ofInt_natCast, BitVec.toNat_ofNat]; exact Nat.mod_eq_of_lt (by omega)
  show IntKind.u64.wrap ((BitVec.ofInt 64 (a : Int) &&& BitVec.ofInt 64 (b : Int)).toNat : Int) = _
  rw [BitVec.toNat_and, h1, h2]
  generalize a &&& b = y at *
  simp [IntKind.wrap, IntKind.bits, IntKind.signed]
  omega
theorem or_u64n (a b : Nat) (ha : a < 18446744073709551616) (hb : b < 18446744073709551616) (bi : Int) (hbi : bi = (b : Nat)) : bits .or .u64 (a : Int) bi = ((a ||| b : Nat) : Int) := by
  subst hbi
  have hx : a ||| b < 2 ^ 64 := Nat.or_lt_two_pow (by omega) (by omega)
  have h1 : (BitVec.ofInt 64 (a : Int)).toNat = a := by
    rw [BitVec.ofInt_natCast, BitVec.toNat_ofNat]; exact Nat.mod_eq_of_lt (by omega)
  have h2 : (BitVec.ofInt 64 (b : Int)).toNat = b := by
    rw [BitVec.ofInt_natCast, BitVec.toNat_ofNat]; exact Nat.mod_eq_of_lt (by omega)
  show IntKind.u64.wrap ((BitVec.ofInt 64 (a : Int) ||| BitVec.ofInt 64 (b : Int)).toNat : Int) = _
  rw [BitVec.toNat_or, h1, h2]
  generalize a ||| b = y at *
  simp [IntKind.wrap, IntKind.bits, IntKind.signed]
  omega
section
variable {w : World} {a : Addr} {c p s b : Nat}
set_option maxHeartbeats 800000 in
theorem ndCount_any (h : w.cell? a = some (.int .u64 (nd c p s b : Nat))) (hc : c < 2 ^ 32) (hp : p < 2 ^ 16) (hs : s < 2 ^ 8) (hb : b < 2 ^ 8) :
    Calls Tryf.prog 28 #[.pointer (some a)] w fun e w' => e = .returned (.int .u32 (c : Nat)) ∧ w' = w := by
  have hx := nd_lt hc hp hs hb
  have h1 := nd_c (p := p) (s := s) (b := b) hc
  obtain ⟨x, hxe⟩ : ∃ x, nd c p s b = x := ⟨_, rfl⟩
  rw [hxe] at h hx h1
  clear hxe
  go_enter Tryf.func28, Tryf.ntmps28
  go_wp2_with fail
  go_ret
  exact ⟨congrArg (fun z => Ending.returned (Value.int .u32 z)) (by omega), rfl⟩
set_option maxHeartbeats 800000 in
theorem ndParent_any (h : w.cell? a = some (.int .u64 (nd c p s b : Nat))) (hc : c < 2 ^ 32) (hp : p < 2 ^ 16) (hs : s < 2 ^ 8) (hb : b < 2 ^ 8) :
    Calls Tryf.prog 32 #[.pointer (some a)] w fun e w' => e = .returned (.int .u16 (p : Nat)) ∧ w' = w := by
  have hx := nd_lt hc hp hs hb
  have h1 := nd_p (s := s) (b := b) hc hp
  obtain ⟨x, hxe⟩ : ∃ x, nd c p s b = x := ⟨_, rfl⟩
  rw [hxe] at h hx h1
  clear hxe
  go_enter Tryf.func32, Tryf.ntmps32
  go_wp2_with fail
  go_ret
  exact ⟨congrArg (fun z => Ending.returned (Value.int .u16 z)) (by rw [show IntKind.u16.wrap ((x : Int) / 4294967296) = ((x : Int) / 4294967296) % 65536 by simp [IntKind.wrap, IntKind.bits, IntKind.signed]]; omega), rfl⟩
set_option maxHeartbeats 800000 in
theorem ndSymbol_any (h : w.cell? a = some (.int .u64 (nd c p s b : Nat))) (hc : c < 2 ^ 32) (hp : p < 2 ^ 16) (hs : s < 2 ^ 8) (hb : b < 2 ^ 8) :
    Calls Tryf.prog 35 #[.pointer (some a)] w fun e w' => e = .returned (.int .u8 (s : Nat)) ∧ w' = w := by
  have hx := nd_lt hc hp hs hb
  have h1 := nd_s (b := b) hc hp hs
  obtain ⟨x, hxe⟩ : ∃ x, nd c p s b = x := ⟨_, rfl⟩
  rw [hxe] at h hx h1
  clear hxe
  go_enter Tryf.func35, Tryf.ntmps35
  go_wp2_with fail
  go_ret
  exact ⟨congrArg (fun z => Ending.returned (Value.int .u8 z)) (by omega), rfl⟩
set_option maxHeartbeats 800000 in
theorem ndNbBits_any (h : w.cell? a = some (.int .u64 (nd c p s b : Nat))) (hc : c < 2 ^ 32) (hp : p < 2 ^ 16) (hs : s < 2 ^ 8) (hb : b < 2 ^ 8) :
    Calls Tryf.prog 33 #[.pointer (some a)] w fun e w' => e = .returned (.int .u8 (b : Nat)) ∧ w' = w := by
  have hx := nd_lt hc hp hs hb
  have h1 := nd_b hc hp hs hb
  obtain ⟨x, hxe⟩ : ∃ x, nd c p s b = x := ⟨_, rfl⟩
  rw [hxe] at h hx h1
  clear hxe
  go_enter Tryf.func33, Tryf.ntmps33
  go_wp2_with fail
  go_ret
  exact ⟨congrArg (fun z => Ending.returned (Value.int .u8 z)) (by omega), rfl⟩
set_option maxHeartbeats 800000 in
theorem ndSetCount_any (h : w.cell? a = some (.int .u64 (nd c p s b : Nat))) (hf : w.frozen? a = false) (hc : c < 2 ^ 32) (hp : p < 2 ^ 16) (hs : s < 2 ^ 8) (hb : b < 2 ^ 8) (v : Nat) (hv : v < 2 ^ 32) :
    Calls Tryf.prog 29 #[.pointer (some a), .int .u32 (v : Nat)] w fun e w' => e = .returned (.tuple #[]) ∧ w' = w.setCell a (.int .u64 (nd v p s b : Nat)) := by
  have hx := nd_lt hc hp hs hb
  have e1 := and_u64n (nd c p s b) 18446744069414584320 hx (by decide) 18446744069414584320 (by decide)
  rw [nd_and_c hc hp hs hb] at e1
  have hy : nd 0 p s b < 18446744073709551616 := nd_lt (by omega) hp hs hb
  have e2 := or_u64n (nd 0 p s b) (v) hy (by omega) ((v : Nat) : Int) rfl
  rw [nd_or_c v (by omega)] at e2
  obtain ⟨x, hxe⟩ : ∃ x, nd c p s b = x := ⟨_, rfl⟩
  obtain ⟨y, hye⟩ : ∃ y, nd 0 p s b = y := ⟨_, rfl⟩
  obtain ⟨z, hze⟩ : ∃ z, nd v p s b = z := ⟨_, rfl⟩
  rw [hxe] at h hx e1
  rw [hye] at e1 hy e2
  rw [hze] at e2 ⊢
  clear hxe hye hze
  go_enter Tryf.func29, Tryf.ntmps29
  go_wp2_with fail
  refine bodyPost_end (results_none rfl _ _ _) rfl ?_
  exact ⟨rfl, rfl⟩
set_option maxHeartbeats 800000 in
theorem ndSetParent_any (h : w.cell? a = some (.int .u64 (nd c p s b : Nat))) (hf : w.frozen? a = false) (hc : c < 2 ^ 32) (hp : p < 2 ^ 16) (hs : s < 2 ^ 8) (hb : b < 2 ^ 8) (v : Nat) (hv : v < 2 ^ 15) :
    Calls Tryf.prog 30 #[.pointer (some a), .int .i16 (v : Nat)] w fun e w' => e = .returned (.tuple #[]) ∧ w' = w.setCell a (.int .u64 (nd c v s b : Nat)) := by
  have hx := nd_lt hc hp hs hb
  have e1 := and_u64n (nd c p s b) 18446462603027808255 hx (by decide) 18446462603027808255 (by decide)
  rw [nd_and_p hc hp hs hb] at e1
  have hy : nd c 0 s b < 18446744073709551616 := nd_lt hc (by omega) hs hb
  have e2 := or_u64n (nd c 0 s b) (v * 4294967296) hy (by omega) ((v : Int) * 4294967296) (by omega)
  rw [nd_or_p v hc (by omega)] at e2
  obtain ⟨x, hxe⟩ : ∃ x, nd c p s b = x := ⟨_, rfl⟩
  obtain ⟨y, hye⟩ : ∃ y, nd c 0 s b = y := ⟨_, rfl⟩
  obtain ⟨z, hze⟩ : ∃ z, nd c v s b = z := ⟨_, rfl⟩
  rw [hxe] at h hx e1
  rw [hye] at e1 hy e2
  rw [hze] at e2 ⊢
  clear hxe hye hze
  have E2 := Lib.hid e2
  clear e2
  go_enter Tryf.func30, Tryf.ntmps30
  go_wp2_with fail
  refine bodyPost_end (results_none rfl _ _ _) rfl ?_
  exact ⟨rfl, by rw [E2.out]⟩
set_option maxHeartbeats 800000 in
theorem ndSetNbBits_any (h : w.cell? a = some (.int .u64 (nd c p s b : Nat))) (hf : w.frozen? a = false) (hc : c < 2 ^ 32) (hp : p < 2 ^ 16) (hs : s < 2 ^ 8) (hb : b < 2 ^ 8) (v : Nat) (hv : v < 2 ^ 8) :
    Calls Tryf.prog 31 #[.pointer (some a), .int .u8 (v : Nat)] w fun e w' => e = .returned (.tuple #[]) ∧ w' = w.setCell a (.int .u64 (nd c p s v : Nat)) := by
  have hx := nd_lt hc hp hs hb
  have e1 := and_u64n (nd c p s b) 72057594037927935 hx (by decide) 72057594037927935 (by decide)
  rw [nd_and_b hc hp hs] at e1
  have hy : nd c p s 0 < 18446744073709551616 := nd_lt hc hp hs (by omega)
  have e2 := or_u64n (nd c p s 0) (v * 72057594037927936) hy (by omega) ((v : Int) * 72057594037927936) (by omega)
  rw [nd_or_b v hc hp hs] at e2
  obtain ⟨x, hxe⟩ : ∃ x, nd c p s b = x := ⟨_, rfl⟩
  obtain ⟨y, hye⟩ : ∃ y, nd c p s 0 = y := ⟨_, rfl⟩
  obtain ⟨z, hze⟩ : ∃ z, nd c p s v = z := ⟨_, rfl⟩
  rw [hxe] at h hx e1
  rw [hye] at e1 hy e2
  rw [hze] at e2 ⊢
  clear hxe hye hze
  have E2 := Lib.hid e2
  clear e2
  go_enter Tryf.func31, Tryf.ntmps31
  go_wp2_with fail
  refine bodyPost_end (results_none rfl _ _ _) rfl ?_
  exact ⟨rfl, by rw [E2.out]⟩
set_option maxHeartbeats 800000 in
theorem makeNode_any (w : World) (c s : Nat) (hc : c < 2 ^ 32) (hs : s < 2 ^ 8) :
    Calls Tryf.prog 49 #[.int .u32 (c : Nat), .int .u8 (s : Nat)] w fun e w' => e = .returned (.int .u64 (nd c 0 s 0 : Nat)) ∧ w' = w := by
  have e2 := or_u64n c (s * 281474976710656) (by omega) (by omega) ((s : Int) * 281474976710656) (by omega)
  have h := or_split 48 c 0 0 s (by omega) (by decide)
  rw [Nat.zero_or, Nat.or_zero, Nat.mul_zero, Nat.zero_add] at h
  rw [show c ||| s * 281474976710656 = nd c 0 s 0 by rw [show s * 281474976710656 = 2 ^ 48 * s + 0 by omega, h]; unfold nd; omega] at e2
  obtain ⟨z, hze⟩ : ∃ z, nd c 0 s 0 = z := ⟨_, rfl⟩
  rw [hze] at e2 ⊢
  clear hze h
  have E2 := Lib.hid e2
  clear e2
  go_enter Tryf.func49, Tryf.ntmps49
  go_wp2_with fail
  go_ret
  refine ⟨?_, rfl⟩
  show Ending.returned (.int .u64 (bits .or .u64 (c : Int) ((s : Int) * 281474976710656))) = _
  rw [E2.out]
end
end Go.Proofs.YthkklojjpgjiiaaFmt
namespace Go.Proofs.YthkklojjpgjiiaaFmt
open Go.RowKit

theorem and32 (x k : Nat) (hx : x < 4294967296) (hk : k ≤ 31) (m : Int) (hm : m = ((2 ^ k - 1 : Nat) : Int)) : bits .and .u32 (x : Int) m = ((x % 2 ^ k : Nat) : Int) := by
  subst hm
  have hp : 2 ^ k ≤ 2 ^ 31 := Nat.pow_le_pow_right (by omega) hk
  have h1 : (BitVec.ofInt 32 (x : Int)).toNat = x := by
    rw [BitVec.ofInt_natCast, BitVec.toNat_ofNat]; exact Nat.mod_eq_of_lt (by omega)
  have h2 : (BitVec.ofInt 32 ((2 ^ k - 1 : Nat) : Int)).toNat = 2 ^ k - 1 := by
    rw [BitVec.ofInt_natCast, BitVec.toNat_ofNat]; exact Nat.mod_eq_of_lt (by omega)
  show IntKind.u32.wrap ((BitVec.ofInt 32 (x : Int) &&& BitVec.ofInt 32 ((2 ^ k - 1 : Nat) : Int)).toNat : Int) = _
  rw [BitVec.toNat_and, h1, h2, Nat.and_two_pow_sub_one_eq_mod]
  have hxx : x % 2 ^ k < 4294967296 := Nat.lt_of_le_of_lt (Nat.mod_le _ _) hx
  generalize x % 2 ^ k = y at *
  simp [IntKind.wrap, IntKind.bits, IntKind.signed]
  omega
/-- the cell that is looked at ahead of position p -/
def pc (p : Nat) : Nat := if p = 0 then 512 else p
theorem pc_and (p : Nat) (hp : p ≤ 256) : bits .and .u32 (((p : Int) - 1) % 4294967296) 511 = ((pc p - 1 : Nat) : Int) := by
  unfold pc
  by_cases e : p = 0
  · subst e
    rw [if_pos rfl, show ((((0 : Nat) : Int) - 1) % 4294967296) = ((4294967295 : Nat) : Int) by omega, and32 4294967295 9 (by omega) (by omega) 511 (by decide)]
  · rw [if_neg e, show (((p : Int) - 1) % 4294967296) = ((p - 1 : Nat) : Int) by omega, and32 (p - 1) 9 (by omega) (by omega) 511 (by decide), Nat.mod_eq_of_lt (by omega)]
/-- the nodes behind position p up to P one further -/
def shN (nv : Nat → Nat) (p P k : Nat) : Nat := if p + 1 < k ∧ k ≤ P + 1 then nv (k - 1) else nv k
/-- cells of nodes -/
def ndV (nv : Nat → Nat) (k : Nat) : Value := .int .u64 (nv k : Nat)
section
variable {nv : Nat → Nat} {p P : Nat}
theorem shN_at (nv : Nat → Nat) (P k : Nat) : shN nv P P k = nv k := if_neg (by omega)
theorem shN_pc (hP : P ≤ 256) : shN nv p P (pc p) = nv (pc p) := by
  unfold shN pc
  by_cases e : p = 0
  · rw [if_pos e, if_neg (by omega)]
  · rw [if_neg e, if_neg (by omega)]
theorem shN_step (hp : p + 1 ≤ P) : ∀ k, k < 513 → updV (ndV (shN nv (p + 1) P)) (p + 2) (.int .u64 (nv (p + 1) : Nat)) k = ndV (shN nv p P) k := fun k _ => by
  unfold updV ndV shN
  by_cases e : k = p + 2
  · subst e
    rw [if_pos rfl, if_pos (by omega), show p + 2 - 1 = p + 1 by omega]
  · rw [if_neg e]
    by_cases e2 : p + 1 + 1 < k ∧ k ≤ P + 1
    · rw [if_pos e2, if_pos (by omega)]
    · rw [if_neg e2, if_neg (by omega)]
end
/-- what stands between rounds of huffSort -/
structure HsW (w : World) (H G R : Nat) (f rk nvv : Nat → Value) (wr : World) : Prop where
  h : RowF wr H 58 540 f
  g : RowF wr G 110 513 nvv
  r : RowF wr R 144 64 rk
  only : Only (fun k => k = H ∨ k = G ∨ w.heap.size ≤ k) w wr
section
variable {w wr : World} {H G R : Nat} {f rk rk' nvv nvv' : Nat → Value}
theorem HsW.setR (h : HsW w H G R f rk nvv wr) (hR : w.heap.size ≤ R) (hH : H < R) (hG : G < R) (k : Nat) (v : Value) (he : ∀ j, j < 64 → updV rk k v j = rk' j) : HsW w H G R f rk' nvv (wr.setCell ⟨R, k, none⟩ v) :=
  ⟨h.h.other _ (show R ≠ H by omega), h.g.other _ (show R ≠ G by omega), (h.r.set_ k v).congr he, h.only.set_ (p := ⟨R, k, none⟩) (.inr (.inr hR)) v⟩
theorem HsW.setG (h : HsW w H G R f rk nvv wr) (hG : G < R) (hHG : H ≠ G) (k : Nat) (v : Value) (he : ∀ j, j < 513 → updV nvv k v j = nvv' j) : HsW w H G R f rk nvv' (wr.setCell ⟨G, k, none⟩ v) :=
  ⟨h.h.other _ (show G ≠ H by omega), (h.g.set_ k v).congr he, h.r.other _ (show G ≠ R by omega), h.only.set_ (p := ⟨G, k, none⟩) (.inr (.inl rfl)) v⟩
theorem HsW.setO (h : HsW w H G R f rk nvv wr) {b : Nat} (hb : w.heap.size ≤ b) (hbR : b ≠ R) (hH : H < w.heap.size) (hG : G < w.heap.size) (k : Nat) (v : Value) : HsW w H G R f rk nvv (wr.setCell ⟨b, k, none⟩ v) :=
  ⟨h.h.other _ (show b ≠ H by omega), h.g.other _ (show b ≠ G by omega), h.r.other _ hbR, h.only.set_ (p := ⟨b, k, none⟩) (.inr (.inr hb)) v⟩
theorem HsW.alloc (h : HsW w H G R f rk nvv wr) (o : Obj) : HsW w H G R f rk nvv (wr.alloc o) := ⟨h.h.alloc o, h.g.alloc o, h.r.alloc o, h.only.alloc o⟩
theorem HsW.cgR (h : HsW w H G R f rk nvv wr) (he : ∀ j, j < 64 → rk j = rk' j) : HsW w H G R f rk' nvv wr := ⟨h.h, h.g, h.r.congr he, h.only⟩
theorem HsW.drewN (h : HsW w H G R f rk nvv wr) (q : Nat) : HsW w H G R f rk nvv (wr.drewN q) := ⟨h.h.drewN q, h.g.drewN q, h.r.drewN q, h.only.drewN q⟩
end
/-- n symbols are laid in the nodes -/
structure HsI (C : Nat → Nat) (S n : Nat) (nv sy : Nat → Nat) : Prop where
  si : SortI C S n sy
  nod : ∀ r p, bs C S (r + 1) ≤ p → p < cr C S (r + 1) n → nv (p + 1) = nd (C (sy p)) 0 (sy p) 0
  zer : ∀ k, k = 0 ∨ S < k → nv k = 0
/-- the node that is laid -/
def insN (nv : Nat → Nat) (p P x k : Nat) : Nat := if k = p + 1 then x else shN nv p P k
theorem insN_upd (nv : Nat → Nat) (p P x : Nat) : ∀ k, k < 513 → updV (ndV (shN nv p P)) (p + 1) (.int .u64 (x : Nat)) k = ndV (insN nv p P x) k := fun k _ => by
  unfold updV ndV insN
  by_cases e : k = p + 1
  · rw [if_pos e, if_pos e]
  · rw [if_neg e, if_neg e]
section
variable {C nv sy : Nat → Nat} {S n p : Nat}
theorem HsI.zero (C : Nat → Nat) (S : Nat) : HsI C S 0 (fun _ => 0) (fun _ => 0) :=
  ⟨SortI.zero _ _ _, fun r p h1 h2 => (by rw [cr_zero] at h2; omega), fun _ _ => rfl⟩
theorem HsI.step (h : HsI C S n nv sy) (hn : n < S) (h1 : bs C S (hb (C n) + 1) ≤ p) (h2 : p ≤ cr C S (hb (C n) + 1) n)
    (h3 : ∀ q, p ≤ q → q < cr C S (hb (C n) + 1) n → C (sy q) < C n) (h4 : p = bs C S (hb (C n) + 1) ∨ C n ≤ C (sy (p - 1))) :
    HsI C S (n + 1) (insN nv p (cr C S (hb (C n) + 1) n) (nd (C n) 0 n 0)) (insS sy n p (cr C S (hb (C n) + 1) n)) := by
  refine ⟨h.si.step hn h1 h2 h3 h4, fun r q hq1 hq2 => ?_, fun k hk => ?_⟩
  · have hlt := cr_lt hn (C := C)
    by_cases hr : r = hb (C n)
    · subst hr
      rw [cr_step, if_pos rfl] at hq2
      unfold insN insS shN
      by_cases e1 : q < p
      · rw [if_neg (by omega), if_neg (by omega), if_pos e1]
        exact h.nod _ q hq1 (by omega)
      · by_cases e2 : q = p
        · rw [if_pos (by omega), if_neg e1, if_pos e2]
        · rw [if_neg (by omega), if_pos (by omega), if_neg e1, if_neg e2, if_pos (by omega)]
          have := h.nod _ (q - 1) (show bs C S (hb (C n) + 1) ≤ q - 1 by omega) (by omega)
          rw [show q + 1 - 1 = q - 1 + 1 by omega]
          exact this
    · rw [cr_step, if_neg (by omega), Nat.add_zero] at hq2
      have h5 := cr_le (C := C) (S := S) r (n := n) (by omega)
      have h8 := h.nod r q hq1 hq2
      unfold insN insS shN
      by_cases h6 : r < hb (C n)
      · have h7 := bs_anti (C := C) (S := S) (show r + 1 ≤ hb (C n) by omega)
        rw [if_neg (by omega), if_neg (by omega), if_neg (by omega), if_neg (by omega), if_neg (by omega)]
        exact h8
      · have h7 := bs_anti (C := C) (S := S) (show hb (C n) + 1 ≤ r by omega)
        rw [if_neg (by omega), if_neg (by omega), if_pos (by omega)]
        exact h8
  · have hlt := cr_ltS hn (C := C)
    unfold insN shN
    rw [if_neg (by omega), if_neg (by omega)]
    exact h.zer k hk
end
theorem RowF.newRep {w w1 : World} (arr : Array Value) (T : TypeId) (N : Nat) (v : Value) (h1 : w.alloc (.cells arr T) = w1) (h : arr = Array.replicate N v) : RowF w1 w.heap.size T N fun _ => v := by
  subst h
  refine ⟨_, by rw [← h1]; exact heap_alloc_new _ _, by simp, fun k hk => ?_⟩
  rw [Array.getElem?_replicate, if_pos hk]
/-- the ranks while symbols are counted, summed, copied, laid -/
def rk1 (C : Nat → Nat) (i k : Nat) : Value := .int .u32 ((if k % 2 = 0 then hc C (k / 2) i else 0 : Nat) : Nat)
def rk2 (C : Nat → Nat) (S n k : Nat) : Value := .int .u32 ((if k % 2 = 0 then (if k / 2 < n then hc C (k / 2) S else bs C S (k / 2)) else 0 : Nat) : Nat)
def rk3 (C : Nat → Nat) (S i k : Nat) : Value := .int .u32 ((if k % 2 = 0 then bs C S (k / 2) else if k / 2 < i then bs C S (k / 2) else 0 : Nat) : Nat)
def rk4 (C : Nat → Nat) (S n k : Nat) : Value := .int .u32 ((if k % 2 = 0 then bs C S (k / 2) else cr C S (k / 2) n : Nat) : Nat)
section
variable {C : Nat → Nat} {S n i : Nat}
theorem rk1_step {r v : Nat} (hr : hb (C i) = r) (hv : hc C r i = v) : ∀ k, k < 64 → updV (rk1 C i) (r * 2) (.int .u32 (v + 1 : Nat)) k = rk1 C (i + 1) k := fun k _ => by
  unfold updV rk1
  by_cases e : k = r * 2
  · rw [if_pos e, if_pos (by omega), show k / 2 = r by omega, hc_step, if_pos hr, hv]
  · rw [if_neg e]
    by_cases e2 : k % 2 = 0
    · rw [if_pos e2, if_pos e2, hc_step, if_neg (by omega)]; rfl
    · rw [if_neg e2, if_neg e2]
theorem rk12 (hC : ∀ i, C i < 65536) : ∀ k, k < 64 → rk1 C S k = rk2 C S 19 k := fun k _ => by
  unfold rk1 rk2
  by_cases e2 : k % 2 = 0
  · rw [if_pos e2, if_pos e2]
    by_cases e3 : k / 2 < 19
    · rw [if_pos e3]
    · rw [if_neg e3, hc_high hC _ (by omega), bs_high hC (by omega)]
  · rw [if_neg e2, if_neg e2]
theorem rk2_step {a b : Nat} (ha : hc C n S = a) (hb2 : bs C S (n + 1) = b) : ∀ k, k < 64 → updV (rk2 C S (n + 1)) (n * 2) (.int .u32 (a + b : Nat)) k = rk2 C S n k := fun k _ => by
  unfold updV rk2
  by_cases e : k = n * 2
  · rw [if_pos e, if_pos (by omega), if_neg (by omega), show k / 2 = n by omega, ← bs_succ, hb2, ha, Nat.add_comm]
  · rw [if_neg e]
    by_cases e2 : k % 2 = 0
    · rw [if_pos e2, if_pos e2]
      by_cases e3 : k / 2 < n
      · rw [if_pos (by omega), if_pos e3]
      · rw [if_neg (by omega), if_neg e3]
    · rw [if_neg e2, if_neg e2]
theorem rk23 : ∀ k, k < 64 → rk2 C S 0 k = rk3 C S 0 k := fun k _ => by
  unfold rk2 rk3
  by_cases e2 : k % 2 = 0
  · rw [if_pos e2, if_pos e2, if_neg (by omega)]
  · rw [if_neg e2, if_neg e2, if_neg (by omega)]
theorem rk3_step {b : Nat} (hb2 : bs C S i = b) : ∀ k, k < 64 → updV (rk3 C S i) (i * 2 + 1) (.int .u32 (b : Nat)) k = rk3 C S (i + 1) k := fun k _ => by
  unfold updV rk3
  by_cases e : k = i * 2 + 1
  · rw [if_pos e, if_neg (by omega), if_pos (by omega), show k / 2 = i by omega, hb2]
  · rw [if_neg e]
    by_cases e2 : k % 2 = 0
    · rw [if_pos e2, if_pos e2]
    · rw [if_neg e2, if_neg e2]
      by_cases e3 : k / 2 < i
      · rw [if_pos e3, if_pos (by omega)]
      · rw [if_neg e3, if_neg (by omega)]
theorem cr_high (hC : ∀ i, C i < 65536) {r : Nat} (h : 18 ≤ r) : cr C S r n = 0 := by
  rw [show r = r - 1 + 1 by omega, cr_eq, bs_high hC (by omega), hc_high hC _ (by omega)]
theorem rk34 (hC : ∀ i, C i < 65536) : ∀ k, k < 64 → rk3 C S 19 k = rk4 C S 0 k := fun k _ => by
  unfold rk3 rk4
  by_cases e2 : k % 2 = 0
  · rw [if_pos e2, if_pos e2]
  · rw [if_neg e2, if_neg e2]
    by_cases e3 : k / 2 < 19
    · rw [if_pos e3, cr_zero]
    · rw [if_neg e3, cr_high hC (by omega)]
theorem rk4_step {r P : Nat} (hr : hb (C n) + 1 = r) (hP : cr C S r n = P) : ∀ k, k < 64 → updV (rk4 C S n) (r * 2 + 1) (.int .u32 (P + 1 : Nat)) k = rk4 C S (n + 1) k := fun k _ => by
  unfold updV rk4
  by_cases e : k = r * 2 + 1
  · rw [if_pos e, if_neg (by omega), show k / 2 = r by omega, cr_step, if_pos hr, hP]
  · rw [if_neg e]
    by_cases e2 : k % 2 = 0
    · rw [if_pos e2, if_pos e2]
    · rw [if_neg e2, if_neg e2, cr_step, if_neg (by omega)]; rfl
end
end Go.Proofs.YthkklojjpgjiiaaFmt
