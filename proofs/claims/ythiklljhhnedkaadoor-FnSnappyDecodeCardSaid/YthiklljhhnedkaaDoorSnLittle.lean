/-
  (*snReader).little: the number of at most four bytes, the least one first. Conditions: those of each.
-/
import Derived.Test.YthiklljhhnedkaaDoorSnLen
import Derived.Test.YthiklljhhnedkaaDoorSnSpec
import Derived.Test.YthiklljhhnedkaaDoorOwn
import Derived.Test.YthiklljhhnedkaaDoorQtail
import Derived.Laws.Rows
namespace Go.Proofs.YthiklljhhnedkaaDoor
open Go.RowKit

theorem leNat_snoc (l : List UInt8) (b : UInt8) : Lib.leNat (l ++ [b]) = Lib.leNat l + b.toNat * 256 ^ l.length := by
  induction l with
  | nil => simp [Lib.leNat]
  | cons x r ih =>
    simp only [List.cons_append, Lib.leNat, ih, List.length_cons, Nat.pow_succ]
    rw [Nat.mul_add, ← Nat.mul_assoc]
    have : 256 * b.toNat * 256 ^ r.length = b.toNat * (256 ^ r.length * 256) := by
      rw [Nat.mul_comm 256 b.toNat, Nat.mul_assoc, Nat.mul_comm 256]
    omega
theorem leNat_next (q : List UInt8) (k : Nat) (h : k < q.length) : Lib.leNat (q.take (k + 1)) = Lib.leNat (q.take k) + q[k].toNat * 256 ^ k := by
  rw [List.take_succ_eq_append_getElem h, leNat_snoc, List.length_take, Nat.min_eq_left (by omega)]
theorem leNat_below : ∀ l : List UInt8, Lib.leNat l < 256 ^ l.length
  | [] => by simp [Lib.leNat]
  | b :: r => by
    have h := leNat_below r
    have hb := b.toNat_lt
    simp only [Lib.leNat, List.length_cons, Nat.pow_succ]
    omega

/-- the cells of the reader -/
abbrev rdA (A : Option Addr) (n c : Nat) (at' : Int) (v : Value) (code : Int) : Array Value := #[.slice A n c, .int .i64 at', v, .int .i64 code]

set_option maxRecDepth 100000 in
set_option maxHeartbeats 800000 in
theorem little_short (D : Nat) (A : Option Addr) (n c : Nat) (p s : Nat) (v : Value) (code : Int) (w : World) (hd : Hid (w.heap[D]? = some (.cells (rdA A n c p v code) 40 (0, 0)))) (hn : n ≤ 2147483647) (hp : p ≤ n) (hs : s ≤ 4) (hsh : n < p + s) :
    Calls Tryd.prog 16 #[.pointer (some ⟨D, 0, none⟩), .int .i64 s] w fun e w' => e = .returned (.tuple #[.int .i64 0, .bool false]) ∧ ∃ m, w' = w.drewN m := by
  have k0 := cell_of_row w D 0 _ 40 (0, 0) hd.out
  have k1 := cell_of_row w D 1 _ 40 (0, 0) hd.out
  have h1 : (n : Int) < (p : Int) + (s : Int) := by omega
  have h2 : IntKind.i64.wrap ((p : Int) + (s : Int)) = (p : Int) + (s : Int) := by rw [IntKind.wrap_i64]; omega
  go_enter Tryd.func16, Tryd.ntmps16
  go_wp2_with fail
  go_quiet (fail)
  go_wp2_with fail
  go_ret2
  exact ⟨rfl, _, rfl⟩

/-- the head of the loop -/
def RelW (l : List UInt8) (w : World) (s : Nat) (nv kv : Value) (wr : World) : Prop :=
  ∃ (i m : Nat), i ≤ s ∧ nv = .int .i64 (Lib.leNat (l.take i) : Nat) ∧ kv = .int .i64 i ∧ wr = w.drewN m

set_option maxRecDepth 100000 in
set_option maxHeartbeats 1600000 in
theorem little_good (D : Nat) (A : Option Addr) (n c : Nat) (l : List UInt8) (p s : Nat) (v : Value) (code : Int) (w : World) (hsl : Sl w D A n c l) (hd : Hid (w.heap[D]? = some (.cells (rdA A n c p v code) 40 (0, 0)))) (hn : n ≤ 2147483647) (hs0 : 0 < s) (hs : s ≤ 4) (hsh : p + s ≤ n) :
    Calls Tryd.prog 16 #[.pointer (some ⟨D, 0, none⟩), .int .i64 s] w fun e w' => e = .returned (.tuple #[.int .i64 (Lib.leNat ((l.drop p).take s) : Nat), .bool true]) ∧ ∃ m, w' = (w.drewN m).setCell ⟨D, 1, none⟩ (.int .i64 ((p : Int) + s)) := by
  obtain rfl := hsl.len
  obtain ⟨g, o, rfl, hgD, hcell⟩ := hsl.at_ (by omega)
  have HC := Lib.hid hcell
  have hm := hsl.most
  have hcc := hsl.cap
  clear hcell hsl
  have k0 := cell_of_row w D 0 _ 40 (0, 0) hd.out
  have k1 := cell_of_row w D 1 _ 40 (0, 0) hd.out
  have f1 := frozen_of_row w D 1 _ 40 hd.out
  have h1 : decide ((l.length : Int) < (p : Int) + (s : Int)) = false := by simp; omega
  have h1j : (p : Int) + (s : Int) ≤ (l.length : Int) := by omega
  have h2 : IntKind.i64.wrap ((p : Int) + (s : Int)) = (p : Int) + (s : Int) := by rw [IntKind.wrap_i64]; omega
  have HD := Lib.hid hd
  clear hd
  go_enter Tryd.func16, Tryd.ntmps16
  go_wp2_with fail
  go_quiet (fail)
  go_wp2_with fail
  go_loopw [6, 7] (fun nv kv wr => RelW (l.drop p) w s nv kv wr) (fun _ kv _ => s - (intOf kv).toNat)
  case atStart => exact ⟨0, _, by omega, by simp [Lib.leNat], rfl, rfl⟩
  case round =>
    obtain ⟨i, m, hi, rfl, rfl, rfl⟩ := hrel
    by_cases hlt : i < s
    · have hij : (i : Int) < (s : Int) := by omega
      have hnx := leNat_next (l.drop p) i (by simp; omega)
      have hbl := leNat_below ((l.drop p).take i)
      have hll : ((l.drop p).take i).length = i := by simp; omega
      rw [hll] at hbl
      obtain ⟨N, hN⟩ : ∃ N, Lib.leNat ((l.drop p).take i) = N := ⟨_, rfl⟩
      obtain ⟨N2, hN2⟩ : ∃ N2, Lib.leNat ((l.drop p).take (i + 1)) = N2 := ⟨_, rfl⟩
      rw [hN, hN2] at hnx
      rw [hN] at hbl ⊢
      have hb0 : (l.drop p)[i]'(by simp; omega) = l[p + i] := by simp
      rw [hb0] at hnx
      have hc := HC.out (p + i) (by omega)
      have hbb := l[p + i].toNat_lt
      generalize l[p + i].toNat = b at hnx hc hbb
      have HN2 := Lib.hid hN2
      have hbi : (b : Int) < 256 := by omega
      clear hN hN2 hll hb0
      rcases (show i = 0 ∨ i = 1 ∨ i = 2 ∨ i = 3 by omega) with rfl | rfl | rfl | rfl
      · have hnx0 : N2 = N + b * 1 := hnx
        have hbl0 : N < 1 := hbl
        have hc0 : w.cell? ⟨g, o + p, none⟩ = some (.int .u8 (b : Int)) := hc
        have HNX := Lib.hid hnx0
        have hpi : IntKind.i64.wrap ((p : Int)) = (p : Int) := by rw [IntKind.wrap_i64]; omega
        have hpj : (0 : Int) ≤ (p : Int) := by omega
        have hpk : (p : Int) < (l.length : Int) := by omega
        have hw1 : IntKind.i64.wrap ((b : Int)) = (b : Int) := by rw [IntKind.wrap_i64]; omega
        have hw2 : IntKind.i64.wrap ((N : Int) + (b : Int)) = (N : Int) + (b : Int) := by rw [IntKind.wrap_i64]; omega
        clear hnx hnx0 hbl hbl0 h1 h1j h2
        go_wp2_with fail
        go_quiet (fail)
        go_wp2_with fail
        go_roundw
        case rel => exact ⟨1, _, by omega, by rw [HN2.out, HNX.out]; go_num, by go_num, rfl⟩
        case measure => simp [intOf]; omega
      · have hnx0 : N2 = N + b * 256 := hnx
        have hbl0 : N < 256 := hbl
        have HNX := Lib.hid hnx0
        have hpi : IntKind.i64.wrap ((p : Int) + 1) = (p : Int) + 1 := by rw [IntKind.wrap_i64]; omega
        have hpj : (0 : Int) ≤ (p : Int) + 1 := by omega
        have hpk : (p : Int) + 1 < (l.length : Int) := by omega
        have hw1 : IntKind.i64.wrap ((b : Int) * 256) = (b : Int) * 256 := by rw [IntKind.wrap_i64]; omega
        have hw2 : IntKind.i64.wrap ((N : Int) + (b : Int) * 256) = (N : Int) + (b : Int) * 256 := by rw [IntKind.wrap_i64]; omega
        clear hnx hnx0 hbl hbl0 h1 h1j h2
        go_wp2_with fail
        go_quiet (fail)
        go_wp2_with fail
        go_roundw
        case rel => exact ⟨2, _, by omega, by rw [HN2.out, HNX.out]; go_num, by go_num, rfl⟩
        case measure => simp [intOf]; omega
      · have hnx0 : N2 = N + b * 65536 := hnx
        have hbl0 : N < 65536 := hbl
        have HNX := Lib.hid hnx0
        have hpi : IntKind.i64.wrap ((p : Int) + 2) = (p : Int) + 2 := by rw [IntKind.wrap_i64]; omega
        have hpj : (0 : Int) ≤ (p : Int) + 2 := by omega
        have hpk : (p : Int) + 2 < (l.length : Int) := by omega
        have hw1 : IntKind.i64.wrap ((b : Int) * 65536) = (b : Int) * 65536 := by rw [IntKind.wrap_i64]; omega
        have hw2 : IntKind.i64.wrap ((N : Int) + (b : Int) * 65536) = (N : Int) + (b : Int) * 65536 := by rw [IntKind.wrap_i64]; omega
        clear hnx hnx0 hbl hbl0 h1 h1j h2
        go_wp2_with fail
        go_quiet (fail)
        go_wp2_with fail
        go_roundw
        case rel => exact ⟨3, _, by omega, by rw [HN2.out, HNX.out]; go_num, by go_num, rfl⟩
        case measure => simp [intOf]; omega
      · have hnx0 : N2 = N + b * 16777216 := hnx
        have hbl0 : N < 16777216 := hbl
        have HNX := Lib.hid hnx0
        have hpi : IntKind.i64.wrap ((p : Int) + 3) = (p : Int) + 3 := by rw [IntKind.wrap_i64]; omega
        have hpj : (0 : Int) ≤ (p : Int) + 3 := by omega
        have hpk : (p : Int) + 3 < (l.length : Int) := by omega
        have hw1 : IntKind.i64.wrap ((b : Int) * 16777216) = (b : Int) * 16777216 := by rw [IntKind.wrap_i64]; omega
        have hw2 : IntKind.i64.wrap ((N : Int) + (b : Int) * 16777216) = (N : Int) + (b : Int) * 16777216 := by rw [IntKind.wrap_i64]; omega
        clear hnx hnx0 hbl hbl0 h1 h1j h2
        go_wp2_with fail
        go_quiet (fail)
        go_wp2_with fail
        go_roundw
        case rel => exact ⟨4, _, by omega, by rw [HN2.out, HNX.out]; go_num, by go_num, rfl⟩
        case measure => simp [intOf]; omega
    · obtain rfl : i = s := by omega
      have hij : decide ((i : Int) < (i : Int)) = false := by simp
      go_wp2_with fail
      go_ret2
      exact ⟨rfl, _, rfl⟩
end Go.Proofs.YthiklljhhnedkaaDoor
