/-
  spec.zFore.read: a number of some bits. Conditions: those of each.
  spec.zLog, zFore.over, zFore.bytes. Conditions: those of each.
-/
import Derived.Test.YthkklojjpgjiiaaFmtCodeT02
import Derived.Deep.RegionWith
namespace Go.Proofs.YthkklojjpgjiiaaFmt
open Go.RowKit

def DrewN (w w' : World) : Prop := ∃ n, w' = w.drewN n
theorem DrewN.refl (w : World) : DrewN w w := ⟨0, rfl⟩
theorem DrewN.more {w w' : World} (h : DrewN w w') (k : Nat) : DrewN w (w'.drewN k) := by
  obtain ⟨n, rfl⟩ := h
  exact ⟨n + k, by rw [World.drewN_drewN]⟩
theorem DrewN.cell {w w' : World} (h : DrewN w w') (a : Addr) : w'.cell? a = w.cell? a := by
  obtain ⟨n, rfl⟩ := h
  rfl
theorem DrewN.below {w w' : World} (h : DrewN w w') (B : Nat) : Below B w w' := by
  obtain ⟨n, rfl⟩ := h
  exact ⟨rfl, rfl, rfl, Nat.le_refl _, fun _ _ => rfl⟩
theorem DrewN.size {w w' : World} (h : DrewN w w') : w'.heap.size = w.heap.size := by
  obtain ⟨n, rfl⟩ := h
  rfl

/-- the number of k bits from i on, the lowest first -/
def numF (l : List UInt8) (i : Nat) : Nat → Nat
  | 0 => 0
  | k + 1 => numF l i k + bitAt l (i + k) * 2 ^ k
theorem bitAt_lt (l : List UInt8) (i : Nat) : bitAt l i < 2 := Nat.mod_lt _ (by omega)
theorem numF_lt (l : List UInt8) (i : Nat) : ∀ k, numF l i k < 2 ^ k
  | 0 => by simp [numF]
  | k + 1 => by
    have := numF_lt l i k
    have hb := bitAt_lt l (i + k)
    unfold numF
    rw [Nat.pow_succ]
    rcases (show bitAt l (i + k) = 0 ∨ bitAt l (i + k) = 1 by omega) with h | h <;> rw [h] <;> omega
theorem bitAt_over (l : List UInt8) (i : Nat) (h : 8 * l.length ≤ i) : bitAt l i = 0 := by
  unfold bitAt
  rw [List.getD_eq_getElem?_getD, List.getElem?_eq_none (by omega)]
  simp
theorem zBit_any {w : World} {B : Nat} {A : Option Addr} {n c : Nat} {l : List UInt8} (hs : Sl w B A n c l) (at_ : Int) (i : Nat) (hi : at_ = i) (hn : n ≤ 1000000) :
    Calls Tryf.prog 54 #[.slice A n c, .int .i64 at_] w fun e w' => e = .returned (.int .i64 (bitAt l i)) ∧ w = w' := by
  by_cases h : i < 8 * l.length
  · exact zBit_in hs at_ i hi h hn
  · rw [bitAt_over l i (by omega)]
    exact zBit_out hs at_ (.inr (by omega)) hn

theorem or_i64 (a b : Nat) (ha : a < 9223372036854775808) (hb : b < 9223372036854775808) : bits .or .i64 (a : Int) (b : Int) = ((a ||| b : Nat) : Int) := by
  have hx : a ||| b < 2 ^ 63 := Nat.or_lt_two_pow (by omega) (by omega)
  have h1 : (BitVec.ofInt 64 (a : Int)).toNat = a := by
    rw [BitVec.ofInt_natCast, BitVec.toNat_ofNat]; exact Nat.mod_eq_of_lt (by omega)
  have h2 : (BitVec.ofInt 64 (b : Int)).toNat = b := by
    rw [BitVec.ofInt_natCast, BitVec.toNat_ofNat]; exact Nat.mod_eq_of_lt (by omega)
  show IntKind.i64.wrap ((BitVec.ofInt 64 (a : Int) ||| BitVec.ofInt 64 (b : Int)).toNat : Int) = _
  rw [BitVec.toNat_or, h1, h2, IntKind.wrap_i64]
  omega
theorem or_bit (y b k : Nat) (hy : y < 2 ^ k) (hb : b < 2) (hk : k < 32) : bits .or .i64 (y : Int) (wrap64 ((b : Int) * 2 ^ min k 64)) = ((y + b * 2 ^ k : Nat) : Int) := by
  have hp : 2 ^ k ≤ 2 ^ 31 := Nat.pow_le_pow_right (by omega) (by omega)
  have hs : b * 2 ^ k ≤ 2 ^ 31 := by
    rcases (show b = 0 ∨ b = 1 by omega) with rfl | rfl <;> omega
  rw [show min k 64 = k by omega, show (b : Int) * 2 ^ k = ((b * 2 ^ k : Nat) : Int) by simp]
  have ho : y + b * 2 ^ k = y ||| b * 2 ^ k := by
    have := Nat.two_pow_add_eq_or_of_lt hy b
    rw [Nat.mul_comm b, Nat.or_comm, ← this, Nat.add_comm]
  rw [ho]
  generalize b * 2 ^ k = z at hs
  have hw : wrap64 (z : Int) = (z : Int) := by unfold wrap64; omega
  rw [hw]
  exact or_i64 y z (by omega) (by omega)

set_option maxRecDepth 100000 in
set_option maxHeartbeats 1600000 in
theorem fore_read {w : World} {B g : Nat} {A : Option Addr} {n c : Nat} {l : List UInt8} (hs : Sl w B A n c l) (hn : n ≤ 1000000) (i m : Nat) (hi : i ≤ 100000000) (hm : m ≤ 32) (ii mi : Int) (hii : ii = i) (hmi : mi = m)
    (hR : w.heap[g]? = some (.cells #[.slice A n c, .int .i64 ii] 152 (0, 0))) :
    Calls Tryf.prog 50 #[.pointer (some ⟨g, 0, none⟩), .int .i64 mi] w fun e w' => e = .returned (.int .i64 (numF l i m)) ∧ ∃ q q2, w' = ((w.drewN q).setCell ⟨g, 1, none⟩ (.int .i64 (i + m : Nat))).drewN q2 := by
  have q0 : w.cell? ⟨g, 0, none⟩ = some (.slice A n c) := cell_of_row w g 0 _ _ (0, 0) hR
  have q1 : w.cell? ⟨g, 1, none⟩ = some (.int .i64 ii) := cell_of_row w g 1 _ _ (0, 0) hR
  have f1 : w.frozen? ⟨g, 1, none⟩ = false := frozen_of_row w g 1 _ _ hR
  have HS := Lib.hid hs
  have HI := Lib.hid hii
  have HM := Lib.hid hmi
  have HMM := Lib.hid hm
  have HNN := Lib.hid hi
  clear hs hR hii hmi
  go_enter Tryf.func50, Tryf.ntmps50
  go_wp2
  go_loopw [5, 8] (fun v j wr => ∃ k : Nat, k ≤ m ∧ v = .int .i64 (numF l i k) ∧ j = .int .i64 k ∧ DrewN w wr) (fun _ j _ => m - (intOf j).toNat)
  case atStart => exact ⟨0, Nat.zero_le _, rfl, rfl, DrewN.refl _⟩
  case round =>
    obtain ⟨k, hk, rfl, rfl, ⟨q, rfl⟩⟩ := hrel
    by_cases hlt : k < m
    · have hlt' : (k : Int) < mi := by have := HM.out; omega
      have ea : IntKind.i64.wrap (ii + k) = ii + k := by have := HI.out; rw [IntKind.wrap_i64]; omega
      obtain ⟨b, hb⟩ : ∃ b, bitAt l (i + k) = b := ⟨_, rfl⟩
      have KB : Hid (∀ w0, Sl w0 B A n c l → Calls Tryf.prog 54 #[.slice A n c, .int .i64 (ii + k)] w0 fun e w' => e = .returned (.int .i64 b) ∧ w0 = w') := Lib.hid (fun w0 h => by rw [← hb]; exact zBit_any h (ii + k) (i + k) (by have := HI.out; omega) hn)
      obtain ⟨y, hy⟩ : ∃ y : Nat, numF l i k = y := ⟨_, rfl⟩
      rw [hy]
      have HY := Lib.hid hy
      have HBB := Lib.hid hb
      have eo : bits .or .i64 (y : Int) (wrap64 ((b : Int) * 2 ^ min k 64)) = ((numF l i (k + 1) : Nat) : Int) := by
        have hb2 := bitAt_lt l (i + k)
        have hy2 := numF_lt l i k
        rw [show numF l i (k + 1) = numF l i k + bitAt l (i + k) * 2 ^ k from rfl, hy, hb]
        rw [hb] at hb2
        rw [hy] at hy2
        exact or_bit y b k hy2 hb2 (by omega)
      clear hb hy
      go_wp2_with fail
      go_region_with (go_at_call 54; refine (KB.out _ (HS.out.drewN _)).mono ?_; rintro en w2 ⟨rfl, rfl⟩)
      all_goals
        go_wp2_with fail
        go_roundw
        case rel => exact ⟨k + 1, by omega, congrArg (Value.int .i64) eo, by go_num, ⟨q + 1, rfl⟩⟩
        case measure => simp [intOf]; omega
    · obtain rfl : k = m := by omega
      have eb : wrap64 (ii + mi) = ((i + k : Nat) : Int) := by have := HI.out; have := HM.out; unfold wrap64; omega
      have hge : mi ≤ (k : Int) := by have := HM.out; omega
      go_wp2_with fail
      go_ret
      exact ⟨rfl, q, 0, rfl⟩
end Go.Proofs.YthkklojjpgjiiaaFmt
namespace Go.Proofs.YthkklojjpgjiiaaFmt
open Go.RowKit

set_option maxHeartbeats 800000 in
theorem zLog_any (n : Nat) (h : n < 4611686018427387904) (ni : Int) (hni : ni = n) (w : World) :
    Calls Tryf.prog 21 #[.int .i64 ni] w fun e w' => e = .returned (.int .i64 (n.log2 : Nat)) ∧ w = w' := by
  go_enter Tryf.func21, Tryf.ntmps21
  subst hni
  have HN := Lib.hid h
  clear h
  go_wp2
  go_loop [0, 3] (fun v lg => ∃ k x : Nat, v = .int .i64 x ∧ lg = .int .i64 k ∧ n / 2 ^ k = x ∧ x < 4611686018427387904 ∧ k < 1000 ∧ ((n = 0 ∧ k = 0) ∨ (1 ≤ x ∧ 2 ^ k ≤ n))) (fun v _ => (intOf v).toNat)
  case atStart => exact ⟨0, n, rfl, rfl, by simp, HN.out, by omega, by rw [Nat.pow_zero]; omega⟩
  case round =>
    obtain ⟨k, x, rfl, rfl, HX0, hx, hk, HC0⟩ := hrel
    have HX := Lib.hid HX0
    have HC := Lib.hid HC0
    have HXB := Lib.hid hx
    clear HX0 HC0 hx
    by_cases h1 : 1 < x
    · have h1i : (1 : Int) < (x : Int) := by omega
      obtain ⟨y, hy⟩ : ∃ y, x / 2 = y := ⟨_, rfl⟩
      have ex : (x : Int) / 2 = (y : Int) := by omega
      have HY := Lib.hid hy
      clear hy
      go_wp2
      go_round
      case rel =>
        have hy := HY.out
        refine ⟨k + 1, y, rfl, by go_num, by rw [Nat.pow_succ, ← Nat.div_div_eq_div_mul, HX.out, hy], by have := HXB.out; omega, ?_, ?_⟩
        · have hle : 2 ^ (k + 1) ≤ n := by have := HX.out; have := Nat.div_mul_le_self n (2 ^ k); rw [Nat.pow_succ]; rw [HX.out] at this; have h2 : 2 * 2 ^ k ≤ x * 2 ^ k := Nat.mul_le_mul_right _ (by omega); omega
          have : 2 ^ (k + 1) < 2 ^ 62 := by have := HN.out; omega
          have := (Nat.pow_lt_pow_iff_right (a := 2) (by omega)).1 this
          omega
        · right
          refine ⟨by omega, ?_⟩
          have := Nat.div_mul_le_self n (2 ^ k)
          rw [HX.out] at this
          have h2 : 2 * 2 ^ k ≤ x * 2 ^ k := Nat.mul_le_mul_right _ (by omega)
          rw [Nat.pow_succ]
          omega
      case measure => have := HY.out; simp [intOf]; omega
    · have h1i : (x : Int) ≤ 1 := by omega
      go_wp2
      go_ret
      refine ⟨?_, rfl⟩
      have hl : n.log2 = k := by
        rcases HC.out with ⟨rfl, rfl⟩ | ⟨hx1, hle⟩
        · rfl
        · have h2 := HX.out
          have hn0 : n ≠ 0 := by have := Nat.two_pow_pos k; omega
          refine (Nat.log2_eq_iff hn0).2 ⟨hle, ?_⟩
          have h3 : n / 2 ^ k < 2 := by omega
          have h4 := (Nat.div_lt_iff_lt_mul (Nat.two_pow_pos k)).1 h3
          rw [Nat.pow_succ]
          omega
      rw [hl]
      rfl

set_option maxHeartbeats 800000 in
theorem fore_over {w : World} {B g : Nat} {A : Option Addr} {n c : Nat} {l : List UInt8} (hs : Sl w B A n c l) (hn : n ≤ 1000000) (ii : Int) (hR : w.heap[g]? = some (.cells #[.slice A n c, .int .i64 ii] 152 (0, 0))) :
    Calls Tryf.prog 51 #[.pointer (some ⟨g, 0, none⟩)] w fun e w' => e = .returned (.bool (decide (8 * (n : Int) < ii))) ∧ DrewN w w' := by
  have q0 : w.cell? ⟨g, 0, none⟩ = some (.slice A n c) := cell_of_row w g 0 _ _ (0, 0) hR
  have q1 : w.cell? ⟨g, 1, none⟩ = some (.int .i64 ii) := cell_of_row w g 1 _ _ (0, 0) hR
  have hm := hs.most
  have hc := hs.cap
  have e8 : IntKind.i64.wrap (8 * (n : Int)) = 8 * (n : Int) := by rw [IntKind.wrap_i64]; omega
  clear hs hR
  go_enter Tryf.func51, Tryf.ntmps51
  go_wp2
  go_quiet (fail)
  go_wp2
  go_ret
  exact ⟨rfl, _, rfl⟩

set_option maxHeartbeats 800000 in
theorem fore_bytes {w : World} {g : Nat} {A : Option Addr} {n c : Nat} (i : Nat) (hi : i < 1000000000) (ii : Int) (hii : ii = i) (hR : w.heap[g]? = some (.cells #[.slice A n c, .int .i64 ii] 152 (0, 0))) :
    Calls Tryf.prog 53 #[.pointer (some ⟨g, 0, none⟩)] w fun e w' => e = .returned (.int .i64 ((i + 7) / 8 : Nat)) ∧ w = w' := by
  have q1 : w.cell? ⟨g, 1, none⟩ = some (.int .i64 ii) := cell_of_row w g 1 _ _ (0, 0) hR
  have e7 : wrap64 (ii + 7) = ((i + 7 : Nat) : Int) := by unfold wrap64; omega
  clear hR
  go_enter Tryf.func53, Tryf.ntmps53
  go_wp2
  go_ret
  exact ⟨congrArg (fun z => Ending.returned (Value.int .i64 z)) (by omega), rfl⟩
end Go.Proofs.YthkklojjpgjiiaaFmt
