/-
  The magic numbers as lists of bytes, and the flags' byte: plain lemmas. Conditions: those of each.
-/
import Derived.Test.YtiobfiepapflaaaDoorWord
import Derived.Test.YtiobfiepapflaaaDoorU32
import Derived.Laws.BitsAllLaws
namespace Go.Proofs.YtiobfiepapflaaaDoor
open Go.RowKit

theorem leNat4 (l : List UInt8) (h : 4 ≤ l.length) : Lib.leNat (l.take 4) = l[0].toNat + 256 * (l[1].toNat + 256 * (l[2].toNat + 256 * l[3].toNat)) := by
  rw [take_4 l h]
  simp [Lib.leNat]
theorem byte_eq {b : UInt8} {n : Nat} (h : b.toNat = n) : b = UInt8.ofNat n := by
  apply UInt8.toNat_inj.1
  rw [h]
  have := b.toNat_lt
  simp [UInt8.toNat_ofNat']
  omega
theorem magic_list (l : List UInt8) (h : 4 ≤ l.length) (hM : Lib.leNat (l.take 4) = 4247762216) : l.take 4 = [40, 181, 47, 253] := by
  rw [leNat4 l h] at hM
  have h0 := l[0].toNat_lt
  have h1 := l[1].toNat_lt
  have h2 := l[2].toNat_lt
  have h3 := l[3].toNat_lt
  rw [take_4 l h, byte_eq (show l[0].toNat = 40 by omega), byte_eq (show l[1].toNat = 181 by omega), byte_eq (show l[2].toNat = 47 by omega), byte_eq (show l[3].toNat = 253 by omega)]
  rfl
theorem magic_not (l : List UInt8) (hM : Lib.leNat (l.take 4) ≠ 4247762216) : (l.take 4 == [40, 181, 47, 253]) = false := by
  rw [beq_eq_false_iff_ne]
  intro he
  rw [he] at hM
  exact hM (by decide)
/-- the number without its lowest four bits -/
theorem andNot15 (M : Nat) (h : M < 4294967296) : bits .andNot .u32 (M : Int) 15 = ((M - M % 16 : Nat) : Int) := by
  have e : M &&& 4294967280 = M - M % 16 := by
    have h1 := Nat.and_two_pow_sub_one_eq_mod M 4
    have h2 : M &&& 4294967280 = (M / 16) * 16 := by
      apply Nat.eq_of_testBit_eq
      intro i
      rw [Nat.testBit_and, show (M / 16) * 16 = (M / 16) <<< 4 by rw [Nat.shiftLeft_eq], Nat.testBit_shiftLeft, show M / 16 = M >>> 4 by rw [Nat.shiftRight_eq_div_pow], Nat.testBit_shiftRight]
      by_cases hi : 4 ≤ i
      · rw [show 4 + (i - 4) = i by omega]
        rcases Nat.lt_or_ge i 32 with h32 | h32
        · have : (4294967280 : Nat).testBit i = true := by
            have hf : ∀ j : Fin 32, 4 ≤ j.val → (4294967280 : Nat).testBit j.val = true := by decide
            exact hf ⟨i, h32⟩ hi
          simp [hi, this]
        · have : M.testBit i = false := Nat.testBit_lt_two_pow (Nat.lt_of_lt_of_le h (by simpa using Nat.pow_le_pow_right (show 0 < 2 by omega) h32))
          simp [this]
      · have : (4294967280 : Nat).testBit i = false := by
          have hf : ∀ j : Fin 4, (4294967280 : Nat).testBit j.val = false := by decide
          exact hf ⟨i, by omega⟩
        simp [hi, this]
    omega
  rw [show (15 : Int) = ((15 : Nat) : Int) by rfl, u32_andNot_nat M 15 h (by omega)]
  exact congrArg _ e
theorem and240 (b : Nat) (h : b < 256) : bits .and .u8 (b : Int) 240 = ((b - b % 16 : Nat) : Int) := by
  have hf : ∀ n : Fin 256, bits .and .u8 ((n : Nat) : Int) 240 = (((n : Nat) - (n : Nat) % 16 : Nat) : Int) := by decide +kernel
  exact hf ⟨b, h⟩
theorem skip_iff (l : List UInt8) (h : 4 ≤ l.length) (M : Nat) (hM : Lib.leNat (l.take 4) = M) (hA : (bits .andNot .u32 (M : Int) 15 == 407710288) = true) :
    (l.take 4).drop 1 = [42, 77, 24] ∧ (bits .and .u8 ((l[0].toNat : Nat) : Int) 240 == 80) = true ∧ M ≠ 4247762216 := by
  have h0 := l[0].toNat_lt
  have h1 := l[1].toNat_lt
  have h2 := l[2].toNat_lt
  have h3 := l[3].toNat_lt
  rw [leNat4 l h] at hM
  rw [andNot15 M (by omega), beq_iff_eq] at hA
  have hA' : M - M % 16 = 407710288 := by omega
  refine ⟨?_, ?_, by omega⟩
  · rw [take_4 l h, byte_eq (show l[1].toNat = 42 by omega), byte_eq (show l[2].toNat = 77 by omega), byte_eq (show l[3].toNat = 24 by omega)]
    rfl
  · rw [and240 _ h0, beq_iff_eq]
    omega
theorem skip_not (l : List UInt8) (h : 4 ≤ l.length) (M : Nat) (hM : Lib.leNat (l.take 4) = M) (hA : (bits .andNot .u32 (M : Int) 15 == 407710288) = false) :
    ((l.take 4).drop 1 == [42, 77, 24]) = false ∨ (((l.take 4).drop 1 == [42, 77, 24]) = true ∧ (bits .and .u8 ((l[0].toNat : Nat) : Int) 240 == 80) = false) := by
  by_cases e : ((l.take 4).drop 1 == [42, 77, 24]) = true
  · refine .inr ⟨e, ?_⟩
    have h0 := l[0].toNat_lt
    rw [beq_iff_eq, take_4 l h] at e
    simp only [List.drop_succ_cons, List.drop_zero, List.cons.injEq, and_true] at e
    obtain ⟨e1, e2, e3⟩ := e
    rw [leNat4 l h, e1, e2, e3] at hM
    have k1 : (42 : UInt8).toNat = 42 := rfl
    have k2 : (77 : UInt8).toNat = 77 := rfl
    have k3 : (24 : UInt8).toNat = 24 := rfl
    rw [k1, k2, k3] at hM
    rw [andNot15 M (by omega), beq_eq_false_iff_ne] at hA
    rw [and240 _ h0, beq_eq_false_iff_ne]
    omega
  · exact .inl (by simpa using e)
end Go.Proofs.YtiobfiepapflaaaDoor
