/-
  zWord gives the number of at most eight bytes, the lowest first. Condition: at most eight bytes.
-/
import Derived.Test.YtiobfiepapflaaaDoorRows
import Derived.Test.YtiobfiepapflaaaDoorSl
namespace Go.Proofs.YtiobfiepapflaaaDoor
open Go.RowKit

theorem leNat_lt : ∀ l : List UInt8, Lib.leNat l < 256 ^ l.length
  | [] => by simp [Lib.leNat]
  | b :: r => by
    have h := leNat_lt r
    have hb := b.toNat_lt
    simp only [Lib.leNat, List.length_cons, Nat.pow_succ]
    omega

theorem pow_le8 (k : Nat) (h : k ≤ 7) : 256 ^ k ≤ 72057594037927936 := by
  have : (256 : Nat) ^ k ≤ 256 ^ 7 := Nat.pow_le_pow_right (by omega) h
  simpa using this

theorem or_hi_lo (x b : Int) (hx0 : 0 ≤ x) (hx : x < 72057594037927936) (hb0 : 0 ≤ b) (hb : b < 256) : bits .or .u64 (x * 256) b = x * 256 + b :=
  bits_join .u64 64 (by decide) wraps_u64 8 (x * 256) b (by omega) (by omega) (by omega) hb0 (by omega) (by omega)

theorem leNat_drop (l : List UInt8) (m : Nat) (h : m < l.length) : Lib.leNat (l.drop m) = l[m].toNat + 256 * Lib.leNat (l.drop (m + 1)) := by
  rw [List.drop_eq_getElem_cons h]
  rfl

theorem word_step (l : List UInt8) (m : Nat) (h : m < l.length) (hb : (Lib.leNat (l.drop (m + 1)) : Int) < 72057594037927936) :
    Value.int .u64 (bits .or .u64 ((Lib.leNat (l.drop (m + 1)) : Int) * 256) (l[m].toNat : Int)) = Value.int .u64 (Lib.leNat (l.drop m)) := by
  have h256 := l[m].toNat_lt
  rw [or_hi_lo _ _ (by omega) hb (by omega) (by omega), leNat_drop l m h]
  congr 1
  omega

set_option maxHeartbeats 400000 in
theorem zWord_any (A : Option Addr) (n c : Nat) (l : List UInt8) (w : World) (hs : Sl w w.heap.size A n c l) (h8 : n ≤ 8) :
    Calls Tryd.prog 11 #[.slice A n c] w fun e w' => e = .returned (.int .u64 (Lib.leNat l)) ∧ w = w' := by
  obtain rfl := hs.len
  have hat := hs.at_
  have hcap := hs.most
  have hcc := hs.cap
  go_enter Tryd.func11, Tryd.ntmps11
  go_wp2
  go_loop [3, 4] (fun n i => ∃ k : Nat, k ≤ l.length ∧ i = .int .i64 ((k : Int) - 1) ∧ n = .int .u64 (Lib.leNat (l.drop k))) (fun _ i => (intOf i + 1).toNat)
  case atStart => exact ⟨l.length, Nat.le_refl _, rfl, by simp [Lib.leNat]⟩
  case round =>
    obtain ⟨k, hk, rfl, rfl⟩ := hrel
    by_cases hlt : 0 < k
    · obtain ⟨m, rfl⟩ : ∃ m, k = m + 1 := ⟨k - 1, by omega⟩
      have hlt' : m < l.length := by omega
      obtain ⟨g, o, rfl, hg, hcell⟩ := hat (by omega)
      have hc := hcell m hlt'
      have hb := leNat_lt (l.drop (m + 1))
      have hp := pow_le8 (l.drop (m + 1)).length (by simp; omega)
      have hbb : (Lib.leNat (l.drop (m + 1)) : Int) < 72057594037927936 := by omega
      have h256 : (l[m].toNat : Int) < 256 := by have := l[m].toNat_lt; omega
      clear hcell hat hb hp
      go_wp2
      go_round
      case rel => exact ⟨m, by omega, rfl, word_step l m hlt' hbb⟩
      case measure => simp [intOf]
    · obtain rfl : k = 0 := by omega
      go_wp2
      go_ret
      simp
end Go.Proofs.YtiobfiepapflaaaDoor
