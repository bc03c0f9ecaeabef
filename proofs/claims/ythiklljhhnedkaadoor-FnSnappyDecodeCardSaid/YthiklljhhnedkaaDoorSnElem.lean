/-
  One element, by its plain function: literal and copied. Conditions: those of each.
-/
import Derived.Test.YthiklljhhnedkaaDoorSnCop
import Derived.Test.YthiklljhhnedkaaDoorSnCopB
namespace Go.Proofs.YthiklljhhnedkaaDoor
open Go.RowKit

/-- how an element ends -/
def ElemPost (w : World) (D : Nat) (A : Option Addr) (n c at0 : Nat) (r : SnR) (e : Ending) (w' : World) : Prop :=
  match r with
  | .bad => e = .returned (.bool false) ∧ (∃ p o, RdSt w' D A n c p o) ∧ Below D w w'
  | .opn => e = .returned (.bool false) ∧ (∃ R, w'.heap[D]? = some (.cells R 40 (0, 0)) ∧ R[3]? = some (.int .i64 2)) ∧ Below D w w'
  | .next k o => e = .returned (.bool true) ∧ RdSt w' D A n c (at0 + k) o ∧ Below D w w'

theorem lit_elem (D : Nat) (A : Option Addr) (n c : Nat) (l : List UInt8) (at0 k f : Nat) (o : List UInt8) (w : World) (hsl : Sl w D A n c l) (hr : RdSt w D A n c (at0 + (k + 1)) o) (hn : n ≤ 2147483647) (hk : k < (l.drop at0).length) (hf : f < 256) (hf4 : f % 4 = 0) (ho : o.length ≤ 200000) :
    Calls Tryd.prog 12 #[.pointer (some ⟨D, 0, none⟩), .int .i64 f] w (ElemPost w D A n c at0 (snElem (l.drop at0) k o f)) := by
  have hl := hsl.len
  have hql : (l.drop at0).length = n - at0 := by simp [hl]
  obtain ⟨x, hx⟩ : ∃ x, f / 4 = x := ⟨_, rfl⟩
  have hfx : (f : Int) / 4 = x := by omega
  unfold snElem
  rw [if_pos hf4, hx]
  by_cases h60 : x < 60
  · rw [if_pos h60]
    unfold snLit
    by_cases hsh : (l.drop at0).length < k + 1 + (x + 1)
    · rw [if_pos hsh]
      exact (lit_small_bad D A n c (at0 + (k + 1)) x f o w hr (by omega) hfx h60 (by omega)).mono fun e w' h => ⟨h.1, ⟨_, _, h.2.1⟩, h.2.2⟩
    · rw [if_neg hsh]
      refine (lit_small_good D A n c l (at0 + (k + 1)) x f o w hsl hr hn (by omega) hfx h60 (by omega) ho).mono fun e w' h => ⟨h.1, ?_, h.2.2⟩
      rw [List.drop_drop, ← Nat.add_assoc at0 (k + 1) (x + 1)]
      exact h.2.1
  · rw [if_neg h60]
    obtain ⟨s, hs⟩ : ∃ s, x - 59 = s := ⟨_, rfl⟩
    rw [hs]
    by_cases hsp : (l.drop at0).length < k + 1 + s
    · rw [if_pos hsp]
      exact (lit_big_short D A n c (at0 + (k + 1)) x f s o w hr hn hfx (by omega) (by omega) (by omega) (by omega) (by omega)).mono fun e w' h => ⟨h.1, ⟨_, _, h.2.1⟩, h.2.2⟩
    · rw [if_neg hsp]
      unfold snLit
      rw [List.drop_drop]
      obtain ⟨N, hN⟩ : ∃ N, Lib.leNat ((l.drop (at0 + (k + 1))).take s) = N := ⟨_, rfl⟩
      have hNb := leNat_below ((l.drop (at0 + (k + 1))).take s)
      have hlen : ((l.drop (at0 + (k + 1))).take s).length = s := by simp; omega
      rw [hlen, hN] at hNb
      have hN32 : N < 4294967296 := Nat.lt_of_lt_of_le hNb (show 256 ^ s ≤ 256 ^ 4 from Nat.pow_le_pow_right (by omega) (by omega))
      rw [hN]
      by_cases hsh : (l.drop at0).length < k + 1 + s + (N + 1)
      · rw [if_pos hsh]
        exact (lit_big_long D A n c l (at0 + (k + 1)) x f s N o w hsl hr hn (by omega) hfx (by omega) (by omega) (by omega) (by omega) hN (by omega) hN32).mono fun e w' h => ⟨h.1, ⟨_, _, h.2.1⟩, h.2.2⟩
      · rw [if_neg hsh]
        refine (lit_big_good D A n c l (at0 + (k + 1)) x f s N o w hsl hr hn (by omega) hfx (by omega) (by omega) (by omega) (by omega) hN (by omega) ho).mono fun e w' h => ⟨h.1, ?_, h.2.2⟩
        rw [List.drop_drop, ← Nat.add_assoc at0 (k + 1 + s) (N + 1), ← Nat.add_assoc at0 (k + 1) s]
        exact h.2.1

theorem cop_elem (D : Nat) (A : Option Addr) (n c : Nat) (l : List UInt8) (at0 k f : Nat) (o : List UInt8) (w : World) (hsl : Sl w D A n c l) (hr : RdSt w D A n c (at0 + (k + 1)) o) (hn : n ≤ 2147483647) (hk : k < (l.drop at0).length) (hf : f < 256) (hf4 : f % 4 ≠ 0) (ho : o.length ≤ 200000) :
    Calls Tryd.prog 13 #[.pointer (some ⟨D, 0, none⟩), .int .i64 f, .int .i64 (sizeOfTag (f % 4))] w (ElemPost w D A n c at0 (snElem (l.drop at0) k o f)) := by
  have hl := hsl.len
  have hql : (l.drop at0).length = n - at0 := by simp [hl]
  obtain ⟨x, hx⟩ : ∃ x, f / 4 = x := ⟨_, rfl⟩
  have hfx : (f : Int) / 4 = x := by omega
  obtain ⟨y, hy⟩ : ∃ y, f / 32 = y := ⟨_, rfl⟩
  have hfy : (f : Int) / 32 = y := by omega
  unfold snElem
  rw [if_neg hf4]
  by_cases ht : f % 4 = 1
  · have hsz : sizeOfTag (f % 4) = 1 := if_pos ht
    have hle : lenOf f = x % 8 + 4 := by unfold lenOf; rw [if_pos ht, hx]
    have hof : offOf (l.drop at0) k f = Lib.leNat ((l.drop (at0 + (k + 1))).take 1) + y * 256 := by unfold offOf; rw [if_pos ht, hsz, hy, List.drop_drop]
    rw [hsz, hle, hof]
    by_cases hsp : (l.drop at0).length < k + 1 + 1
    · rw [if_pos hsp]
      exact (cop_short1 D A n c (at0 + (k + 1)) x y f o w hr hn hfx hfy (by omega) (by omega) (by omega) (by omega)).mono fun e w' h => ⟨h.1, ⟨_, _, h.2.1⟩, h.2.2⟩
    · rw [if_neg hsp]
      unfold snCpy
      by_cases hfar : o.length < Lib.leNat ((l.drop (at0 + (k + 1))).take 1) + y * 256
      · rw [if_pos hfar]
        exact (cop_far1 D A n c l (at0 + (k + 1)) x y f _ _ o w hsl hr hn hfx hfy (by omega) (by omega) (by omega) rfl rfl hfar).mono fun e w' h => ⟨h.1, ⟨_, _, h.2.1⟩, h.2.2⟩
      · rw [if_neg hfar]
        by_cases h0 : Lib.leNat ((l.drop (at0 + (k + 1))).take 1) + y * 256 = 0
        · rw [if_pos h0]
          exact (cop_zero1 D A n c l (at0 + (k + 1)) x y f _ _ o w hsl hr hn hfx hfy (by omega) (by omega) (by omega) rfl rfl h0).mono fun e w' h => h
        · rw [if_neg h0]
          exact (cop_good1 D A n c l (at0 + (k + 1)) x y f _ _ _ o w hsl hr hn hfx hfy (by omega) (by omega) (by omega) rfl rfl rfl (by omega) (by omega) ho).mono fun e w' h => h
  · obtain ⟨s, hs⟩ : ∃ s, sizeOfTag (f % 4) = s := ⟨_, rfl⟩
    have hs24 : s = 2 ∨ s = 4 := by
      rw [← hs]
      unfold sizeOfTag
      rw [if_neg ht]
      split <;> simp
    have hle : lenOf f = x + 1 := by unfold lenOf; rw [if_neg ht, hx]
    have hof : offOf (l.drop at0) k f = Lib.leNat ((l.drop (at0 + (k + 1))).take s) := by unfold offOf; rw [if_neg ht, hs, List.drop_drop]; rfl
    rw [hs, hle, hof]
    by_cases hsp : (l.drop at0).length < k + 1 + s
    · rw [if_pos hsp]
      exact (cop_shortN D A n c (at0 + (k + 1)) x f s o w hr hn hfx (by omega) (by omega) (by omega) (by omega) (by omega)).mono fun e w' h => ⟨h.1, ⟨_, _, h.2.1⟩, h.2.2⟩
    · rw [if_neg hsp]
      unfold snCpy
      by_cases hfar : o.length < Lib.leNat ((l.drop (at0 + (k + 1))).take s)
      · rw [if_pos hfar]
        exact (cop_farN D A n c l (at0 + (k + 1)) x f s _ o w hsl hr hn hfx (by omega) (by omega) (by omega) (by omega) rfl hfar).mono fun e w' h => ⟨h.1, ⟨_, _, h.2.1⟩, h.2.2⟩
      · rw [if_neg hfar]
        by_cases h0 : Lib.leNat ((l.drop (at0 + (k + 1))).take s) = 0
        · rw [if_pos h0]
          exact (cop_zeroN D A n c l (at0 + (k + 1)) x f s _ o w hsl hr hn hfx (by omega) (by omega) (by omega) (by omega) rfl h0).mono fun e w' h => h
        · rw [if_neg h0]
          exact (cop_goodN D A n c l (at0 + (k + 1)) x f s _ _ o w hsl hr hn hfx (by omega) (by omega) (by omega) (by omega) rfl rfl (by omega) (by omega) ho).mono fun e w' h => ⟨h.1, by rw [← Nat.add_assoc at0 (k + 1) s]; exact h.2.1, h.2.2⟩
end Go.Proofs.YthiklljhhnedkaaDoor
