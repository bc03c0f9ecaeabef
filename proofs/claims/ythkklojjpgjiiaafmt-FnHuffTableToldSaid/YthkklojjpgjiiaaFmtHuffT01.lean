/-
  What it says that a slice of bytes reads as a list, and that this stays so: plain lemmas, no conditions of their own.
  Bits of bytes, forwards: plain lemmas, and the walks of spec.zBit, spec.zLog, spec.zFore.read. Conditions: those of each.
  spec.zFore.read: a number of some bits. Conditions: those of each.
  spec.zLog, zFore.over, zFore.bytes. Conditions: those of each.
  spec.zChance: a chance as a function of the bits. Conditions: those of each.
  Bits of bytes as numbers, plain: joining, cutting, bytes beyond the end. Conditions: those of each.
  Slices of int that the call itself made, appended to by one number. Plain lemmas; conditions: those of each.
-/
import Derived.WalkKit
import Derived.WalkSpells
import Derived.WalkLawsBesides
import Derived.Deep.QuietTactic
import Derived.BigQuiet
import Derived.Lib.Hide
import Derived.Lib.EndianBits
import Derived.Deep.Draws
import Derived.Lib.Endian
import Derived.Test.YthkklojjpgjiiaaFmtRows
import Derived.Outline
import Derived.Deep.RegionWith
import Derived.Maps.AppendAt
import Derived.Deep.AppendLies
import Derived.Laws.OwnMore
import Derived.Laws.IdiomCopy
namespace Go.Proofs.YthkklojjpgjiiaaFmt
open Go.RowKit

/-- The slice of address A, length n, capacity c reads as the bytes l, and lies below block B. -/
def Sl (w : World) (B : Nat) (A : Option Addr) (n c : Nat) (l : List UInt8) : Prop :=
  l.length = n ∧ n ≤ c ∧ c ≤ maxLen ∧ (n = 0 ∨ ∃ g o, A = some ⟨g, o, none⟩ ∧ g < B ∧ ∀ j (h : j < l.length), w.cell? ⟨g, o + j, none⟩ = some (.int .u8 (l[j]).toNat))

section
variable {w w' : World} {B B' : Nat} {A : Option Addr} {n c : Nat} {l : List UInt8}

theorem Sl.len (h : Sl w B A n c l) : l.length = n := h.1
theorem Sl.cap (h : Sl w B A n c l) : n ≤ c := h.2.1
theorem Sl.most (h : Sl w B A n c l) : c ≤ 9223372036854775807 := h.2.2.1
theorem Sl.nil (w : World) (B : Nat) : Sl w B none 0 0 [] := ⟨rfl, Nat.le_refl _, by unfold maxLen; omega, .inl rfl⟩
theorem Sl.at_ (h : Sl w B A n c l) (hn : 0 < n) : ∃ g o, A = some ⟨g, o, none⟩ ∧ g < B ∧ ∀ j (h : j < l.length), w.cell? ⟨g, o + j, none⟩ = some (.int .u8 (l[j]).toNat) := by
  rcases h.2.2.2 with e | e
  · omega
  · exact e
theorem Sl.keep (h : Sl w B A n c l) (hk : ∀ b o, b < B → w'.cell? ⟨b, o, none⟩ = w.cell? ⟨b, o, none⟩) : Sl w' B A n c l := by
  refine ⟨h.1, h.2.1, h.2.2.1, ?_⟩
  rcases h.2.2.2 with e | ⟨g, o, e, hb, hc⟩
  · exact .inl e
  · exact .inr ⟨g, o, e, hb, fun j hj => (hk g (o + j) hb).trans (hc j hj)⟩
theorem Sl.more (h : Sl w B A n c l) (hB : B ≤ B') : Sl w B' A n c l := by
  refine ⟨h.1, h.2.1, h.2.2.1, ?_⟩
  rcases h.2.2.2 with e | ⟨g, o, e, hb, hc⟩
  · exact .inl e
  · exact .inr ⟨g, o, e, by omega, hc⟩
theorem Sl.below (h : Sl w B A n c l) (hb : Below B w w') : Sl w' B A n c l := h.keep fun b o hp => hb.cell (p := ⟨b, o, none⟩) hp
theorem Sl.drew (h : Sl w B A n c l) : Sl w.drew B A n c l := h
theorem Sl.drewN (h : Sl w B A n c l) (k : Nat) : Sl (w.drewN k) B A n c l := h
theorem Sl.alloc (h : Sl w B A n c l) (hB : B ≤ w.heap.size) (o : Obj) : Sl (w.alloc o) B A n c l := h.keep fun b o' hp => World.cell?_alloc_lt w o ⟨b, o', none⟩ (by exact Nat.lt_of_lt_of_le hp hB)
theorem Sl.setCell (h : Sl w B A n c l) {p : Addr} (hB : B ≤ p.block) (u : Value) : Sl (w.setCell p u) B A n c l :=
  h.keep fun b o hq => World.cell?_setCell_other w p ⟨b, o, none⟩ u (fun e => by subst e; exact absurd hB (Nat.not_le.2 hq))
theorem Sl.grown (h : Sl w B A n c l) {row : Option Nat} (hg : w.grownBy w' row) (hB : B ≤ w.heap.size) (hr : ∀ g, row = some g → B ≤ g) : Sl w' B A n c l :=
  h.keep fun b o hp => World.cell?_of_block (a := ⟨b, o, none⟩) (hg.block b (by omega) (fun e => by have := hr _ e.symm; omega))

theorem add_some (g o k : Nat) : (⟨g, o, none⟩ : Addr).add k = ⟨g, o + k, none⟩ := by
  unfold Addr.add
  split
  · subst_vars; rfl
  · rfl

/-- s[i:j], the capacity whatever it is then -/
theorem Sl.cut (h : Sl w B A n c l) {i j c' : Nat} (A' : Option Addr) (hij : i ≤ j) (hj : j ≤ n) (hc1 : j - i ≤ c') (hc2 : c' ≤ c)
    (hA : i < j → A' = A.map (·.add i)) : Sl w B A' (j - i) c' ((l.take j).drop i) := by
  have hl := h.1
  refine ⟨by simp; omega, hc1, Nat.le_trans hc2 h.2.2.1, ?_⟩
  rcases Nat.eq_or_lt_of_le hij with e | e
  · exact .inl (by omega)
  · rcases h.2.2.2 with e' | ⟨g, o, e', hb, hc⟩
    · omega
    · refine .inr ⟨g, o + i, ?_, hb, fun k hk => ?_⟩
      · rw [hA e, e']
        simp [add_some]
      · simp at hk
        have := hc (i + k) (by omega)
        rw [← Nat.add_assoc] at this
        rw [this]
        simp
end
end Go.Proofs.YthkklojjpgjiiaaFmt
namespace Go.Proofs.YthkklojjpgjiiaaFmt
open Go.RowKit

/-- a bit of bytes; false beyond them -/
def bitAt (l : List UInt8) (i : Nat) : Nat := (l.getD (i / 8) 0).toNat / 2 ^ (i % 8) % 2

theorem and1_shift (v r : Nat) (hv : v < 256) : bits .and .i64 (wrap64 ((v : Int) / 2 ^ r)) 1 = ((v / 2 ^ r % 2 : Nat) : Int) := by
  have h : ∀ x : Fin 256, bits .and .i64 (x.val : Int) 1 = ((x.val % 2 : Nat) : Int) := by decide +kernel
  have hx : v / 2 ^ r < 256 := Nat.lt_of_le_of_lt (Nat.div_le_self _ _) hv
  have hc : (v : Int) / 2 ^ r = ((v / 2 ^ r : Nat) : Int) := by simp
  rw [hc]
  generalize v / 2 ^ r = x at hx
  have hw : wrap64 (x : Int) = (x : Int) := by unfold wrap64; omega
  rw [hw]
  exact h ⟨x, hx⟩

set_option maxRecDepth 100000 in
set_option maxHeartbeats 1600000 in
theorem zBit_in {w : World} {B : Nat} {A : Option Addr} {n c : Nat} {l : List UInt8} (hs : Sl w B A n c l) (at_ : Int) (i : Nat) (hi : at_ = i) (hlt : i < 8 * l.length) (hn : n ≤ 1000000) :
    Calls Tryf.prog 54 #[.slice A n c, .int .i64 at_] w fun e w' => e = .returned (.int .i64 (bitAt l i)) ∧ w = w' := by
  obtain rfl := hs.len
  obtain ⟨g, o, rfl, _, hc⟩ := hs.at_ (by omega)
  obtain ⟨k, hk⟩ : ∃ k, i / 8 = k := ⟨_, rfl⟩
  obtain ⟨r, hr⟩ : ∃ r, i % 8 = r := ⟨_, rfl⟩
  have hr8 : r < 8 := by omega
  have hkl : k < l.length := by omega
  have kk := hc k hkl
  obtain ⟨v, hv⟩ : ∃ v, (l[k]'hkl).toNat = v := ⟨_, rfl⟩
  rw [hv] at kk
  have HV : Hid (v < 256) := Lib.hid (by rw [← hv]; exact UInt8.toNat_lt _)
  have hm := hs.most
  have hcc := hs.cap
  have hki : (k : Int) < (l.length : Int) := by omega
  have d1 : decide (at_ < 0) = false := decide_eq_false (by omega)
  have d2 : decide (8 * (l.length : Int) ≤ at_) = false := decide_eq_false (by omega)
  have e1 : IntKind.i64.wrap (at_ / 8) = (k : Int) := by rw [IntKind.wrap_i64]; omega
  have e2 : IntKind.i64.wrap (at_ % 8) = (r : Int) := by rw [IntKind.wrap_i64]; omega
  have e1' : IntKind.i64.wrap (at_.tdiv 8) = (k : Int) := by rw [Int.tdiv_eq_ediv_of_nonneg (by omega)]; exact e1
  have e2' : at_.tmod 8 = (r : Int) := by rw [Int.tmod_eq_emod_of_nonneg (by omega)]; omega
  have e2'' : at_ % 8 = (r : Int) := by omega
  have hat : 0 ≤ at_ := by omega
  have HB : Hid (bitAt l i = v / 2 ^ r % 2) := Lib.hid (by unfold bitAt; rw [hk, hr, List.getD_eq_getElem?_getD, List.getElem?_eq_getElem hkl, Option.getD_some, hv])
  clear hi hk hr hv hc hs hlt
  go_enter Tryf.func54, Tryf.ntmps54
  go_wp2_with fail
  go_ret
  refine ⟨?_, rfl⟩
  rw [HB.out, ← and1_shift v r HV.out]
  rfl

set_option maxRecDepth 100000 in
set_option maxHeartbeats 1600000 in
theorem zBit_out {w : World} {B : Nat} {A : Option Addr} {n c : Nat} {l : List UInt8} (hs : Sl w B A n c l) (at_ : Int) (h : at_ < 0 ∨ 8 * (l.length : Int) ≤ at_) (hn : n ≤ 1000000) :
    Calls Tryf.prog 54 #[.slice A n c, .int .i64 at_] w fun e w' => e = .returned (.int .i64 0) ∧ w = w' := by
  obtain rfl := hs.len
  have hm := hs.most
  have hcc := hs.cap
  by_cases h0 : at_ < 0
  · have d1 : decide (at_ < 0) = true := decide_eq_true h0
    clear h hs
    go_enter Tryf.func54, Tryf.ntmps54
    go_wp2_with fail
    go_ret
    exact ⟨rfl, rfl⟩
  · have d1 : decide (at_ < 0) = false := decide_eq_false h0
    have d2 : decide (8 * (l.length : Int) ≤ at_) = true := decide_eq_true (by omega)
    clear h hs
    go_enter Tryf.func54, Tryf.ntmps54
    go_wp2_with fail
    go_ret
    exact ⟨rfl, rfl⟩
end Go.Proofs.YthkklojjpgjiiaaFmt
namespace Go.Proofs.YthkklojjpgjiiaaFmt
open Go.RowKit

def DrewN (w w' : World) : Prop := ∃ n, w' = w.drewN n
theorem DrewN.refl (w : World) : DrewN w w := ⟨0, rfl⟩
theorem DrewN.more {w w' : World} (h : DrewN w w') (k : Nat) : DrewN w (w'.drewN k) := by
  obtain ⟨n, rfl⟩ := h
  exact ⟨n + k, by rw [World.drewN_drewN]⟩
theorem DrewN.cell {w w' : World} (h : DrewN w w') (a : Addr) : w'.cell? a = w.cell? a := by
  obtain ⟨n, rfl⟩ := h
  rfl
theorem DrewN.below {w w' : World} (h : DrewN w w') (B : Nat) : Below B w w' := by
  obtain ⟨n, rfl⟩ := h
  exact ⟨rfl, rfl, rfl, Nat.le_refl _, fun _ _ => rfl⟩
theorem DrewN.size {w w' : World} (h : DrewN w w') : w'.heap.size = w.heap.size := by
  obtain ⟨n, rfl⟩ := h
  rfl

/-- the number of k bits from i on, the lowest first -/
def numF (l : List UInt8) (i : Nat) : Nat → Nat
  | 0 => 0
  | k + 1 => numF l i k + bitAt l (i + k) * 2 ^ k
theorem bitAt_lt (l : List UInt8) (i : Nat) : bitAt l i < 2 := Nat.mod_lt _ (by omega)
theorem numF_lt (l : List UInt8) (i : Nat) : ∀ k, numF l i k < 2 ^ k
  | 0 => by simp [numF]
  | k + 1 => by
    have := numF_lt l i k
    have hb := bitAt_lt l (i + k)
    unfold numF
    rw [Nat.pow_succ]
    rcases (show bitAt l (i + k) = 0 ∨ bitAt l (i + k) = 1 by omega) with h | h <;> rw [h] <;> omega
theorem bitAt_over (l : List UInt8) (i : Nat) (h : 8 * l.length ≤ i) : bitAt l i = 0 := by
  unfold bitAt
  rw [List.getD_eq_getElem?_getD, List.getElem?_eq_none (by omega)]
  simp
theorem zBit_any {w : World} {B : Nat} {A : Option Addr} {n c : Nat} {l : List UInt8} (hs : Sl w B A n c l) (at_ : Int) (i : Nat) (hi : at_ = i) (hn : n ≤ 1000000) :
    Calls Tryf.prog 54 #[.slice A n c, .int .i64 at_] w fun e w' => e = .returned (.int .i64 (bitAt l i)) ∧ w = w' := by
  by_cases h : i < 8 * l.length
  · exact zBit_in hs at_ i hi h hn
  · rw [bitAt_over l i (by omega)]
    exact zBit_out hs at_ (.inr (by omega)) hn

theorem or_i64 (a b : Nat) (ha : a < 9223372036854775808) (hb : b < 9223372036854775808) : bits .or .i64 (a : Int) (b : Int) = ((a ||| b : Nat) : Int) := by
  have hx : a ||| b < 2 ^ 63 := Nat.or_lt_two_pow (by omega) (by omega)
  have h1 : (BitVec.ofInt 64 (a : Int)).toNat = a := by
    rw [BitVec.ofInt_natCast, BitVec.toNat_ofNat]; exact Nat.mod_eq_of_lt (by omega)
  have h2 : (BitVec.ofInt 64 (b : Int)).toNat = b := by
    rw [BitVec.ofInt_natCast, BitVec.toNat_ofNat]; exact Nat.mod_eq_of_lt (by omega)
  show IntKind.i64.wrap ((BitVec.ofInt 64 (a : Int) ||| BitVec.ofInt 64 (b : Int)).toNat : Int) = _
  rw [BitVec.toNat_or, h1, h2, IntKind.wrap_i64]
  omega
theorem or_bit (y b k : Nat) (hy : y < 2 ^ k) (hb : b < 2) (hk : k < 32) : bits .or .i64 (y : Int) (wrap64 ((b : Int) * 2 ^ min k 64)) = ((y + b * 2 ^ k : Nat) : Int) := by
  have hp : 2 ^ k ≤ 2 ^ 31 := Nat.pow_le_pow_right (by omega) (by omega)
  have hs : b * 2 ^ k ≤ 2 ^ 31 := by
    rcases (show b = 0 ∨ b = 1 by omega) with rfl | rfl <;> omega
  rw [show min k 64 = k by omega, show (b : Int) * 2 ^ k = ((b * 2 ^ k : Nat) : Int) by simp]
  have ho : y + b * 2 ^ k = y ||| b * 2 ^ k := by
    have := Nat.two_pow_add_eq_or_of_lt hy b
    rw [Nat.mul_comm b, Nat.or_comm, ← this, Nat.add_comm]
  rw [ho]
  generalize b * 2 ^ k = z at hs
  have hw : wrap64 (z : Int) = (z : Int) := by unfold wrap64; omega
  rw [hw]
  exact or_i64 y z (by omega) (by omega)

set_option maxRecDepth 100000 in
set_option maxHeartbeats 1600000 in
theorem fore_read {w : World} {B g : Nat} {A : Option Addr} {n c : Nat} {l : List UInt8} (hs : Sl w B A n c l) (hn : n ≤ 1000000) (i m : Nat) (hi : i ≤ 100000000) (hm : m ≤ 32) (ii mi : Int) (hii : ii = i) (hmi : mi = m)
    (hR : w.heap[g]? = some (.cells #[.slice A n c, .int .i64 ii] 152 (0, 0))) :
    Calls Tryf.prog 50 #[.pointer (some ⟨g, 0, none⟩), .int .i64 mi] w fun e w' => e = .returned (.int .i64 (numF l i m)) ∧ ∃ q q2, w' = ((w.drewN q).setCell ⟨g, 1, none⟩ (.int .i64 (i + m : Nat))).drewN q2 := by
  have q0 : w.cell? ⟨g, 0, none⟩ = some (.slice A n c) := cell_of_row w g 0 _ _ (0, 0) hR
  have q1 : w.cell? ⟨g, 1, none⟩ = some (.int .i64 ii) := cell_of_row w g 1 _ _ (0, 0) hR
  have f1 : w.frozen? ⟨g, 1, none⟩ = false := frozen_of_row w g 1 _ _ hR
  have HS := Lib.hid hs
  have HI := Lib.hid hii
  have HM := Lib.hid hmi
  have HMM := Lib.hid hm
  have HNN := Lib.hid hi
  clear hs hR hii hmi
  go_enter Tryf.func50, Tryf.ntmps50
  go_wp2
  go_loopw [5, 8] (fun v j wr => ∃ k : Nat, k ≤ m ∧ v = .int .i64 (numF l i k) ∧ j = .int .i64 k ∧ DrewN w wr) (fun _ j _ => m - (intOf j).toNat)
  case atStart => exact ⟨0, Nat.zero_le _, rfl, rfl, DrewN.refl _⟩
  case round =>
    obtain ⟨k, hk, rfl, rfl, ⟨q, rfl⟩⟩ := hrel
    by_cases hlt : k < m
    · have hlt' : (k : Int) < mi := by have := HM.out; omega
      have ea : IntKind.i64.wrap (ii + k) = ii + k := by have := HI.out; rw [IntKind.wrap_i64]; omega
      obtain ⟨b, hb⟩ : ∃ b, bitAt l (i + k) = b := ⟨_, rfl⟩
      have KB : Hid (∀ w0, Sl w0 B A n c l → Calls Tryf.prog 54 #[.slice A n c, .int .i64 (ii + k)] w0 fun e w' => e = .returned (.int .i64 b) ∧ w0 = w') := Lib.hid (fun w0 h => by rw [← hb]; exact zBit_any h (ii + k) (i + k) (by have := HI.out; omega) hn)
      obtain ⟨y, hy⟩ : ∃ y : Nat, numF l i k = y := ⟨_, rfl⟩
      rw [hy]
      have HY := Lib.hid hy
      have HBB := Lib.hid hb
      have eo : bits .or .i64 (y : Int) (wrap64 ((b : Int) * 2 ^ min k 64)) = ((numF l i (k + 1) : Nat) : Int) := by
        have hb2 := bitAt_lt l (i + k)
        have hy2 := numF_lt l i k
        rw [show numF l i (k + 1) = numF l i k + bitAt l (i + k) * 2 ^ k from rfl, hy, hb]
        rw [hb] at hb2
        rw [hy] at hy2
        exact or_bit y b k hy2 hb2 (by omega)
      clear hb hy
      go_wp2_with fail
      go_region_with (go_at_call 54; refine (KB.out _ (HS.out.drewN _)).mono ?_; rintro en w2 ⟨rfl, rfl⟩)
      all_goals
        go_wp2_with fail
        go_roundw
        case rel => exact ⟨k + 1, by omega, congrArg (Value.int .i64) eo, by go_num, ⟨q + 1, rfl⟩⟩
        case measure => simp [intOf]; omega
    · obtain rfl : k = m := by omega
      have eb : wrap64 (ii + mi) = ((i + k : Nat) : Int) := by have := HI.out; have := HM.out; unfold wrap64; omega
      have hge : mi ≤ (k : Int) := by have := HM.out; omega
      go_wp2_with fail
      go_ret
      exact ⟨rfl, q, 0, rfl⟩
end Go.Proofs.YthkklojjpgjiiaaFmt
namespace Go.Proofs.YthkklojjpgjiiaaFmt
open Go.RowKit

set_option maxHeartbeats 800000 in
theorem zLog_any (n : Nat) (h : n < 4611686018427387904) (ni : Int) (hni : ni = n) (w : World) :
    Calls Tryf.prog 21 #[.int .i64 ni] w fun e w' => e = .returned (.int .i64 (n.log2 : Nat)) ∧ w = w' := by
  go_enter Tryf.func21, Tryf.ntmps21
  subst hni
  have HN := Lib.hid h
  clear h
  go_wp2
  go_loop [0, 3] (fun v lg => ∃ k x : Nat, v = .int .i64 x ∧ lg = .int .i64 k ∧ n / 2 ^ k = x ∧ x < 4611686018427387904 ∧ k < 1000 ∧ ((n = 0 ∧ k = 0) ∨ (1 ≤ x ∧ 2 ^ k ≤ n))) (fun v _ => (intOf v).toNat)
  case atStart => exact ⟨0, n, rfl, rfl, by simp, HN.out, by omega, by rw [Nat.pow_zero]; omega⟩
  case round =>
    obtain ⟨k, x, rfl, rfl, HX0, hx, hk, HC0⟩ := hrel
    have HX := Lib.hid HX0
    have HC := Lib.hid HC0
    have HXB := Lib.hid hx
    clear HX0 HC0 hx
    by_cases h1 : 1 < x
    · have h1i : (1 : Int) < (x : Int) := by omega
      obtain ⟨y, hy⟩ : ∃ y, x / 2 = y := ⟨_, rfl⟩
      have ex : (x : Int) / 2 = (y : Int) := by omega
      have HY := Lib.hid hy
      clear hy
      go_wp2
      go_round
      case rel =>
        have hy := HY.out
        refine ⟨k + 1, y, rfl, by go_num, by rw [Nat.pow_succ, ← Nat.div_div_eq_div_mul, HX.out, hy], by have := HXB.out; omega, ?_, ?_⟩
        · have hle : 2 ^ (k + 1) ≤ n := by have := HX.out; have := Nat.div_mul_le_self n (2 ^ k); rw [Nat.pow_succ]; rw [HX.out] at this; have h2 : 2 * 2 ^ k ≤ x * 2 ^ k := Nat.mul_le_mul_right _ (by omega); omega
          have : 2 ^ (k + 1) < 2 ^ 62 := by have := HN.out; omega
          have := (Nat.pow_lt_pow_iff_right (a := 2) (by omega)).1 this
          omega
        · right
          refine ⟨by omega, ?_⟩
          have := Nat.div_mul_le_self n (2 ^ k)
          rw [HX.out] at this
          have h2 : 2 * 2 ^ k ≤ x * 2 ^ k := Nat.mul_le_mul_right _ (by omega)
          rw [Nat.pow_succ]
          omega
      case measure => have := HY.out; simp [intOf]; omega
    · have h1i : (x : Int) ≤ 1 := by omega
      go_wp2
      go_ret
      refine ⟨?_, rfl⟩
      have hl : n.log2 = k := by
        rcases HC.out with ⟨rfl, rfl⟩ | ⟨hx1, hle⟩
        · rfl
        · have h2 := HX.out
          have hn0 : n ≠ 0 := by have := Nat.two_pow_pos k; omega
          refine (Nat.log2_eq_iff hn0).2 ⟨hle, ?_⟩
          have h3 : n / 2 ^ k < 2 := by omega
          have h4 := (Nat.div_lt_iff_lt_mul (Nat.two_pow_pos k)).1 h3
          rw [Nat.pow_succ]
          omega
      rw [hl]
      rfl

set_option maxHeartbeats 800000 in
theorem fore_over {w : World} {B g : Nat} {A : Option Addr} {n c : Nat} {l : List UInt8} (hs : Sl w B A n c l) (hn : n ≤ 1000000) (ii : Int) (hR : w.heap[g]? = some (.cells #[.slice A n c, .int .i64 ii] 152 (0, 0))) :
    Calls Tryf.prog 51 #[.pointer (some ⟨g, 0, none⟩)] w fun e w' => e = .returned (.bool (decide (8 * (n : Int) < ii))) ∧ DrewN w w' := by
  have q0 : w.cell? ⟨g, 0, none⟩ = some (.slice A n c) := cell_of_row w g 0 _ _ (0, 0) hR
  have q1 : w.cell? ⟨g, 1, none⟩ = some (.int .i64 ii) := cell_of_row w g 1 _ _ (0, 0) hR
  have hm := hs.most
  have hc := hs.cap
  have e8 : IntKind.i64.wrap (8 * (n : Int)) = 8 * (n : Int) := by rw [IntKind.wrap_i64]; omega
  clear hs hR
  go_enter Tryf.func51, Tryf.ntmps51
  go_wp2
  go_quiet (fail)
  go_wp2
  go_ret
  exact ⟨rfl, _, rfl⟩

set_option maxHeartbeats 800000 in
theorem fore_bytes {w : World} {g : Nat} {A : Option Addr} {n c : Nat} (i : Nat) (hi : i < 1000000000) (ii : Int) (hii : ii = i) (hR : w.heap[g]? = some (.cells #[.slice A n c, .int .i64 ii] 152 (0, 0))) :
    Calls Tryf.prog 53 #[.pointer (some ⟨g, 0, none⟩)] w fun e w' => e = .returned (.int .i64 ((i + 7) / 8 : Nat)) ∧ w = w' := by
  have q1 : w.cell? ⟨g, 1, none⟩ = some (.int .i64 ii) := cell_of_row w g 1 _ _ (0, 0) hR
  have e7 : wrap64 (ii + 7) = ((i + 7 : Nat) : Int) := by unfold wrap64; omega
  clear hR
  go_enter Tryf.func53, Tryf.ntmps53
  go_wp2
  go_ret
  exact ⟨congrArg (fun z => Ending.returned (Value.int .i64 z)) (by omega), rfl⟩
end Go.Proofs.YthkklojjpgjiiaaFmt
namespace Go.Proofs.YthkklojjpgjiiaaFmt
open Go.RowKit

def chB (left : Nat) : Nat := (left + 1).log2 + 1
def chT (left : Nat) : Nat := 2 ^ (left + 1).log2
def chFew (left : Nat) : Nat := 2 * chT left - 1 - (left + 1)
/-- a chance, and where the next bits stand -/
def chanceF (l : List UInt8) (i left : Nat) : Int × Nat :=
  if numF l i (chB left) % chT left < chFew left then ((numF l i (chB left) % chT left : Nat) - 1, i + chB left - 1)
  else if chT left ≤ numF l i (chB left) then ((numF l i (chB left) : Int) - chFew left - 1, i + chB left)
  else ((numF l i (chB left) : Int) - 1, i + chB left)

/-- a reader of bits forwards, its block g alone changed -/
def Fore (g : Nat) (A : Option Addr) (n c : Nat) (w : World) (i : Nat) (w' : World) : Prop :=
  w'.heap[g]? = some (.cells #[.slice A n c, .int .i64 (i : Nat)] 152 (0, 0)) ∧ w'.heap.size = w.heap.size ∧ Below g w w' ∧ ∀ k, k ≠ g → w'.heap[k]? = w.heap[k]?
theorem Fore.refl {g : Nat} {A : Option Addr} {n c i : Nat} {w : World} (h : w.heap[g]? = some (.cells #[.slice A n c, .int .i64 (i : Nat)] 152 (0, 0))) : Fore g A n c w i w := ⟨h, rfl, Below.refl _ _, fun _ _ => rfl⟩
theorem Fore.drewN {g : Nat} {A : Option Addr} {n c i : Nat} {w w' : World} (h : Fore g A n c w i w') (q : Nat) : Fore g A n c w i (w'.drewN q) := ⟨h.1, h.2.1, ⟨h.2.2.1.os, h.2.2.1.tape, h.2.2.1.output, h.2.2.1.size, h.2.2.1.block⟩, h.2.2.2⟩
theorem Fore.set_ {g : Nat} {A : Option Addr} {n c i : Nat} {w w' : World} (h : Fore g A n c w i w') (j : Nat) (ji : Int) (hj : ji = j) : Fore g A n c w j (w'.setCell ⟨g, 1, none⟩ (.int .i64 ji)) := by
  subst hj
  refine ⟨?_, by rw [← h.2.1]; simp, h.2.2.1.setCell (p := ⟨g, 1, none⟩) (Nat.le_refl g) _, fun k hk => ?_⟩
  · have h1 := h.1
    simp [World.setCell, Array.getElem?_modify, h1]
  · rw [← h.2.2.2 k hk]
    simp [World.setCell, Array.getElem?_modify, Ne.symm hk]
theorem Fore.trans {g : Nat} {A : Option Addr} {n c i j : Nat} {w w1 w2 : World} (h : Fore g A n c w i w1) (h2 : Fore g A n c w1 j w2) : Fore g A n c w j w2 :=
  ⟨h2.1, h2.2.1.trans h.2.1, h.2.2.1.trans h2.2.2.1, fun k hk => (h2.2.2.2 k hk).trans (h.2.2.2 k hk)⟩
theorem fore_read' {w : World} {B g : Nat} {A : Option Addr} {n c : Nat} {l : List UInt8} (hs : Sl w B A n c l) (hn : n ≤ 1000000) (i m : Nat) (hi : i ≤ 100000000) (hm : m ≤ 32) (mi : Int) (hmi : mi = m)
    (hR : w.heap[g]? = some (.cells #[.slice A n c, .int .i64 (i : Nat)] 152 (0, 0))) :
    Calls Tryf.prog 50 #[.pointer (some ⟨g, 0, none⟩), .int .i64 mi] w fun e w' => e = .returned (.int .i64 (numF l i m)) ∧ Fore g A n c w (i + m) w' := by
  refine (fore_read hs hn i m hi hm (i : Nat) mi rfl hmi hR).mono ?_
  rintro e w' ⟨rfl, q, q2, rfl⟩
  exact ⟨rfl, (((Fore.refl hR).drewN q).set_ (i + m) _ rfl).drewN q2⟩

theorem and_i64 (a b : Nat) (ha : a < 9223372036854775808) (hb : b < 9223372036854775808) : bits .and .i64 (a : Int) (b : Int) = ((a &&& b : Nat) : Int) := by
  have hx : a &&& b < 2 ^ 63 := Nat.and_lt_two_pow _ (by omega)
  have h1 : (BitVec.ofInt 64 (a : Int)).toNat = a := by
    rw [BitVec.ofInt_natCast, BitVec.toNat_ofNat]; exact Nat.mod_eq_of_lt (by omega)
  have h2 : (BitVec.ofInt 64 (b : Int)).toNat = b := by
    rw [BitVec.ofInt_natCast, BitVec.toNat_ofNat]; exact Nat.mod_eq_of_lt (by omega)
  show IntKind.i64.wrap ((BitVec.ofInt 64 (a : Int) &&& BitVec.ofInt 64 (b : Int)).toNat : Int) = _
  rw [BitVec.toNat_and, h1, h2, IntKind.wrap_i64]
  omega
theorem low_bits (v b : Nat) (hv : v < 1000000) (hb : b < 32) : bits .and .i64 (v : Int) ((2 ^ b - 1 : Nat) : Int) = ((v % 2 ^ b : Nat) : Int) := by
  have hp : 2 ^ b ≤ 2 ^ 31 := Nat.pow_le_pow_right (by omega) (by omega)
  rw [and_i64 v (2 ^ b - 1) (by omega) (by omega), Nat.and_two_pow_sub_one_eq_mod]

set_option maxRecDepth 100000 in
set_option maxHeartbeats 1600000 in
theorem zChance_any {w : World} {B g : Nat} {A : Option Addr} {n c : Nat} {l : List UInt8} (hs : Sl w B A n c l) (hn : n ≤ 1000000) (i left : Nat) (hi : i ≤ 1000000) (hl : 1 ≤ left) (hl2 : left ≤ 1000) (li : Int) (hli : li = left)
    (hR : w.heap[g]? = some (.cells #[.slice A n c, .int .i64 (i : Nat)] 152 (0, 0))) :
    Calls Tryf.prog 52 #[.pointer (some ⟨g, 0, none⟩), .int .i64 li] w fun e w' => e = .returned (.int .i64 (chanceF l i left).1) ∧ Fore g A n c w (chanceF l i left).2 w' := by
  obtain ⟨b, hb⟩ : ∃ b, (left + 1).log2 = b := ⟨_, rfl⟩
  have hb1 : 1 ≤ b ∧ b ≤ 9 := by
    have h2 := Nat.log2_self_le (n := left + 1) (by omega)
    have h3 := Nat.lt_log2_self (n := left + 1)
    rw [hb] at h2 h3
    constructor
    · rcases Nat.eq_zero_or_pos b with h | h
      · subst h; simp at h3; omega
      · exact h
    · have : 2 ^ b < 2 ^ 10 := by omega
      have := (Nat.pow_lt_pow_iff_right (a := 2) (by omega)).1 this
      omega
  obtain ⟨v, hv⟩ : ∃ v, numF l i (b + 1) = v := ⟨_, rfl⟩
  have KL := Lib.hid (zLog_any (left + 1) (by omega) (li + 1) (by omega))
  rw [hb] at KL
  have KR := Lib.hid (fore_read' hs hn i (b + 1) (by omega) (by omega) ((b : Int) + 1) (by omega) hR)
  rw [hv] at KR
  have el : wrap64 (li + 1) = li + 1 := by unfold wrap64; omega
  have HB := Lib.hid hb
  have HV := Lib.hid hv
  have HR := Lib.hid hR
  have HL := Lib.hid hli
  clear hs hR hb hv hli
  go_enter Tryf.func52, Tryf.ntmps52
  go_wp2_with fail
  refine (KL.out w).mono ?_
  rintro e w1 ⟨rfl, rfl⟩
  go_wp2_with fail
  refine KR.out.mono ?_
  rintro e w2 ⟨rfl, hf⟩
  have hlog := HB.out
  have hvv := HV.out
  have q1 : w2.cell? ⟨g, 1, none⟩ = some (.int .i64 (i + (b + 1) : Nat)) := cell_of_row w2 g 1 _ _ (0, 0) hf.1
  have f1 : w2.frozen? ⟨g, 1, none⟩ = false := frozen_of_row w2 g 1 _ _ hf.1
  have hv2 : v < 2 ^ (b + 1) := by rw [← hvv]; exact numF_lt l i (b + 1)
  have hv3 : v < 1024 := Nat.lt_of_lt_of_le hv2 (show 2 ^ (b + 1) ≤ 2 ^ 10 from Nat.pow_le_pow_right (by omega) (by omega))
  have ea := low_bits v b (by omega) (by omega)
  obtain ⟨x, hx⟩ : ∃ x, v % 2 ^ b = x := ⟨_, rfl⟩
  rw [hx] at ea
  obtain ⟨s, hs⟩ : ∃ s : Nat, i + (b + 1) = s := ⟨_, rfl⟩
  rw [hs] at q1 hf
  obtain ⟨f, hfw⟩ : ∃ f, chFew left = f := ⟨_, rfl⟩
  have HFW := Lib.hid hfw
  have HF := Lib.hid hf
  have HS := Lib.hid hs
  have HX := Lib.hid hx
  have HV2 := Lib.hid hv2
  have HLG := Lib.hid hlog
  clear hf hs hx hv2 hlog hvv KL KR hfw
  rcases (show b = 1 ∨ b = 2 ∨ b = 3 ∨ b = 4 ∨ b = 5 ∨ b = 6 ∨ b = 7 ∨ b = 8 ∨ b = 9 by omega) with rfl | rfl | rfl | rfl | rfl | rfl | rfl | rfl | rfl
  · have hT : chT left = 2 := by unfold chT; rw [HLG.out]
    have hB : chB left = 2 := by unfold chB; rw [HLG.out]
    have hf0 : chFew left = f := HFW.out
    have hle : left + 1 < 4 := by have h := Nat.lt_log2_self (n := left + 1); rw [HLG.out] at h; simp only [Nat.reducePow, Nat.reduceAdd] at h; omega
    have hff : f = 4 - 1 - (left + 1) := by rw [← hf0]; unfold chFew; rw [hT]
    have hxx : v % 2 = x := HX.out
    have hv2 : v < 4 := HV2.out
    have hss : i + 2 = s := HS.out
    have hch : chanceF l i left = if x < f then ((x : Int) - 1, s - 1) else if 2 ≤ v then ((v : Int) - f - 1, s) else ((v : Int) - 1, s) := by
      unfold chanceF
      rw [hB, hT, hf0, HV.out, hxx, hss]
    have ef : wrap64 (3 - (li + 1)) = (f : Int) := by have := HL.out; unfold wrap64; omega
    have es : wrap64 ((s : Int) - 1) = ((s - 1 : Nat) : Int) := by unfold wrap64; omega
    have ew : wrap64 ((v : Int) - (f : Int)) = (v : Int) - (f : Int) := by unfold wrap64; omega
    have ew1 : wrap64 ((v : Int) - (f : Int) - 1) = (v : Int) - (f : Int) - 1 := by unfold wrap64; omega
    have ev : wrap64 ((v : Int) - 1) = (v : Int) - 1 := by unfold wrap64; omega
    have ex : wrap64 ((x : Int) - 1) = (x : Int) - 1 := by unfold wrap64; omega
    simp only [Nat.reducePow, Nat.reduceSub, Int.cast_ofNat_Int] at ea
    obtain ⟨s1, hs1⟩ : ∃ s1 : Nat, s - 1 = s1 := ⟨_, rfl⟩
    rw [hs1] at es hch
    have HCH := Lib.hid hch
    clear hT hB hf0 hle hff hxx hv2 hss hch hs1
    by_cases hc : x < f
    · have hci : (x : Int) < (f : Int) := by omega
      have HH := Lib.hid hc
      clear hc
      go_wp2_with fail
      go_ret
      rw [HCH.out, if_pos HH.out]
      exact ⟨congrArg (fun z => Ending.returned (Value.int .i64 z)) ex, HF.out.set_ s1 _ rfl⟩
    · have hci : (f : Int) ≤ (x : Int) := by omega
      have HH := Lib.hid hc
      clear hc
      by_cases hd : 2 ≤ v
      · have hdi : (1 : Int) < (v : Int) := by omega
        have HD := Lib.hid hd
        clear hd
        go_wp2_with fail
        go_ret
        rw [HCH.out, if_neg HH.out, if_pos HD.out]
        exact ⟨congrArg (fun z => Ending.returned (Value.int .i64 z)) ew1, HF.out⟩
      · have hdi : (v : Int) ≤ 1 := by omega
        have HD := Lib.hid hd
        clear hd
        go_wp2_with fail
        go_ret
        rw [HCH.out, if_neg HH.out, if_neg HD.out]
        exact ⟨by first | rfl | exact congrArg (fun z => Ending.returned (Value.int .i64 z)) ev, HF.out⟩
  · have hT : chT left = 4 := by unfold chT; rw [HLG.out]
    have hB : chB left = 3 := by unfold chB; rw [HLG.out]
    have hf0 : chFew left = f := HFW.out
    have hle : left + 1 < 8 := by have h := Nat.lt_log2_self (n := left + 1); rw [HLG.out] at h; simp only [Nat.reducePow, Nat.reduceAdd] at h; omega
    have hff : f = 8 - 1 - (left + 1) := by rw [← hf0]; unfold chFew; rw [hT]
    have hxx : v % 4 = x := HX.out
    have hv2 : v < 8 := HV2.out
    have hss : i + 3 = s := HS.out
    have hch : chanceF l i left = if x < f then ((x : Int) - 1, s - 1) else if 4 ≤ v then ((v : Int) - f - 1, s) else ((v : Int) - 1, s) := by
      unfold chanceF
      rw [hB, hT, hf0, HV.out, hxx, hss]
    have ef : wrap64 (7 - (li + 1)) = (f : Int) := by have := HL.out; unfold wrap64; omega
    have es : wrap64 ((s : Int) - 1) = ((s - 1 : Nat) : Int) := by unfold wrap64; omega
    have ew : wrap64 ((v : Int) - (f : Int)) = (v : Int) - (f : Int) := by unfold wrap64; omega
    have ew1 : wrap64 ((v : Int) - (f : Int) - 1) = (v : Int) - (f : Int) - 1 := by unfold wrap64; omega
    have ev : wrap64 ((v : Int) - 1) = (v : Int) - 1 := by unfold wrap64; omega
    have ex : wrap64 ((x : Int) - 1) = (x : Int) - 1 := by unfold wrap64; omega
    simp only [Nat.reducePow, Nat.reduceSub, Int.cast_ofNat_Int] at ea
    obtain ⟨s1, hs1⟩ : ∃ s1 : Nat, s - 1 = s1 := ⟨_, rfl⟩
    rw [hs1] at es hch
    have HCH := Lib.hid hch
    clear hT hB hf0 hle hff hxx hv2 hss hch hs1
    by_cases hc : x < f
    · have hci : (x : Int) < (f : Int) := by omega
      have HH := Lib.hid hc
      clear hc
      go_wp2_with fail
      go_ret
      rw [HCH.out, if_pos HH.out]
      exact ⟨congrArg (fun z => Ending.returned (Value.int .i64 z)) ex, HF.out.set_ s1 _ rfl⟩
    · have hci : (f : Int) ≤ (x : Int) := by omega
      have HH := Lib.hid hc
      clear hc
      by_cases hd : 4 ≤ v
      · have hdi : (3 : Int) < (v : Int) := by omega
        have HD := Lib.hid hd
        clear hd
        go_wp2_with fail
        go_ret
        rw [HCH.out, if_neg HH.out, if_pos HD.out]
        exact ⟨congrArg (fun z => Ending.returned (Value.int .i64 z)) ew1, HF.out⟩
      · have hdi : (v : Int) ≤ 3 := by omega
        have HD := Lib.hid hd
        clear hd
        go_wp2_with fail
        go_ret
        rw [HCH.out, if_neg HH.out, if_neg HD.out]
        exact ⟨by first | rfl | exact congrArg (fun z => Ending.returned (Value.int .i64 z)) ev, HF.out⟩
  · have hT : chT left = 8 := by unfold chT; rw [HLG.out]
    have hB : chB left = 4 := by unfold chB; rw [HLG.out]
    have hf0 : chFew left = f := HFW.out
    have hle : left + 1 < 16 := by have h := Nat.lt_log2_self (n := left + 1); rw [HLG.out] at h; simp only [Nat.reducePow, Nat.reduceAdd] at h; omega
    have hff : f = 16 - 1 - (left + 1) := by rw [← hf0]; unfold chFew; rw [hT]
    have hxx : v % 8 = x := HX.out
    have hv2 : v < 16 := HV2.out
    have hss : i + 4 = s := HS.out
    have hch : chanceF l i left = if x < f then ((x : Int) - 1, s - 1) else if 8 ≤ v then ((v : Int) - f - 1, s) else ((v : Int) - 1, s) := by
      unfold chanceF
      rw [hB, hT, hf0, HV.out, hxx, hss]
    have ef : wrap64 (15 - (li + 1)) = (f : Int) := by have := HL.out; unfold wrap64; omega
    have es : wrap64 ((s : Int) - 1) = ((s - 1 : Nat) : Int) := by unfold wrap64; omega
    have ew : wrap64 ((v : Int) - (f : Int)) = (v : Int) - (f : Int) := by unfold wrap64; omega
    have ew1 : wrap64 ((v : Int) - (f : Int) - 1) = (v : Int) - (f : Int) - 1 := by unfold wrap64; omega
    have ev : wrap64 ((v : Int) - 1) = (v : Int) - 1 := by unfold wrap64; omega
    have ex : wrap64 ((x : Int) - 1) = (x : Int) - 1 := by unfold wrap64; omega
    simp only [Nat.reducePow, Nat.reduceSub, Int.cast_ofNat_Int] at ea
    obtain ⟨s1, hs1⟩ : ∃ s1 : Nat, s - 1 = s1 := ⟨_, rfl⟩
    rw [hs1] at es hch
    have HCH := Lib.hid hch
    clear hT hB hf0 hle hff hxx hv2 hss hch hs1
    by_cases hc : x < f
    · have hci : (x : Int) < (f : Int) := by omega
      have HH := Lib.hid hc
      clear hc
      go_wp2_with fail
      go_ret
      rw [HCH.out, if_pos HH.out]
      exact ⟨congrArg (fun z => Ending.returned (Value.int .i64 z)) ex, HF.out.set_ s1 _ rfl⟩
    · have hci : (f : Int) ≤ (x : Int) := by omega
      have HH := Lib.hid hc
      clear hc
      by_cases hd : 8 ≤ v
      · have hdi : (7 : Int) < (v : Int) := by omega
        have HD := Lib.hid hd
        clear hd
        go_wp2_with fail
        go_ret
        rw [HCH.out, if_neg HH.out, if_pos HD.out]
        exact ⟨congrArg (fun z => Ending.returned (Value.int .i64 z)) ew1, HF.out⟩
      · have hdi : (v : Int) ≤ 7 := by omega
        have HD := Lib.hid hd
        clear hd
        go_wp2_with fail
        go_ret
        rw [HCH.out, if_neg HH.out, if_neg HD.out]
        exact ⟨by first | rfl | exact congrArg (fun z => Ending.returned (Value.int .i64 z)) ev, HF.out⟩
  · have hT : chT left = 16 := by unfold chT; rw [HLG.out]
    have hB : chB left = 5 := by unfold chB; rw [HLG.out]
    have hf0 : chFew left = f := HFW.out
    have hle : left + 1 < 32 := by have h := Nat.lt_log2_self (n := left + 1); rw [HLG.out] at h; simp only [Nat.reducePow, Nat.reduceAdd] at h; omega
    have hff : f = 32 - 1 - (left + 1) := by rw [← hf0]; unfold chFew; rw [hT]
    have hxx : v % 16 = x := HX.out
    have hv2 : v < 32 := HV2.out
    have hss : i + 5 = s := HS.out
    have hch : chanceF l i left = if x < f then ((x : Int) - 1, s - 1) else if 16 ≤ v then ((v : Int) - f - 1, s) else ((v : Int) - 1, s) := by
      unfold chanceF
      rw [hB, hT, hf0, HV.out, hxx, hss]
    have ef : wrap64 (31 - (li + 1)) = (f : Int) := by have := HL.out; unfold wrap64; omega
    have es : wrap64 ((s : Int) - 1) = ((s - 1 : Nat) : Int) := by unfold wrap64; omega
    have ew : wrap64 ((v : Int) - (f : Int)) = (v : Int) - (f : Int) := by unfold wrap64; omega
    have ew1 : wrap64 ((v : Int) - (f : Int) - 1) = (v : Int) - (f : Int) - 1 := by unfold wrap64; omega
    have ev : wrap64 ((v : Int) - 1) = (v : Int) - 1 := by unfold wrap64; omega
    have ex : wrap64 ((x : Int) - 1) = (x : Int) - 1 := by unfold wrap64; omega
    simp only [Nat.reducePow, Nat.reduceSub, Int.cast_ofNat_Int] at ea
    obtain ⟨s1, hs1⟩ : ∃ s1 : Nat, s - 1 = s1 := ⟨_, rfl⟩
    rw [hs1] at es hch
    have HCH := Lib.hid hch
    clear hT hB hf0 hle hff hxx hv2 hss hch hs1
    by_cases hc : x < f
    · have hci : (x : Int) < (f : Int) := by omega
      have HH := Lib.hid hc
      clear hc
      go_wp2_with fail
      go_ret
      rw [HCH.out, if_pos HH.out]
      exact ⟨congrArg (fun z => Ending.returned (Value.int .i64 z)) ex, HF.out.set_ s1 _ rfl⟩
    · have hci : (f : Int) ≤ (x : Int) := by omega
      have HH := Lib.hid hc
      clear hc
      by_cases hd : 16 ≤ v
      · have hdi : (15 : Int) < (v : Int) := by omega
        have HD := Lib.hid hd
        clear hd
        go_wp2_with fail
        go_ret
        rw [HCH.out, if_neg HH.out, if_pos HD.out]
        exact ⟨congrArg (fun z => Ending.returned (Value.int .i64 z)) ew1, HF.out⟩
      · have hdi : (v : Int) ≤ 15 := by omega
        have HD := Lib.hid hd
        clear hd
        go_wp2_with fail
        go_ret
        rw [HCH.out, if_neg HH.out, if_neg HD.out]
        exact ⟨by first | rfl | exact congrArg (fun z => Ending.returned (Value.int .i64 z)) ev, HF.out⟩
  · have hT : chT left = 32 := by unfold chT; rw [HLG.out]
    have hB : chB left = 6 := by unfold chB; rw [HLG.out]
    have hf0 : chFew left = f := HFW.out
    have hle : left + 1 < 64 := by have h := Nat.lt_log2_self (n := left + 1); rw [HLG.out] at h; simp only [Nat.reducePow, Nat.reduceAdd] at h; omega
    have hff : f = 64 - 1 - (left + 1) := by rw [← hf0]; unfold chFew; rw [hT]
    have hxx : v % 32 = x := HX.out
    have hv2 : v < 64 := HV2.out
    have hss : i + 6 = s := HS.out
    have hch : chanceF l i left = if x < f then ((x : Int) - 1, s - 1) else if 32 ≤ v then ((v : Int) - f - 1, s) else ((v : Int) - 1, s) := by
      unfold chanceF
      rw [hB, hT, hf0, HV.out, hxx, hss]
    have ef : wrap64 (63 - (li + 1)) = (f : Int) := by have := HL.out; unfold wrap64; omega
    have es : wrap64 ((s : Int) - 1) = ((s - 1 : Nat) : Int) := by unfold wrap64; omega
    have ew : wrap64 ((v : Int) - (f : Int)) = (v : Int) - (f : Int) := by unfold wrap64; omega
    have ew1 : wrap64 ((v : Int) - (f : Int) - 1) = (v : Int) - (f : Int) - 1 := by unfold wrap64; omega
    have ev : wrap64 ((v : Int) - 1) = (v : Int) - 1 := by unfold wrap64; omega
    have ex : wrap64 ((x : Int) - 1) = (x : Int) - 1 := by unfold wrap64; omega
    simp only [Nat.reducePow, Nat.reduceSub, Int.cast_ofNat_Int] at ea
    obtain ⟨s1, hs1⟩ : ∃ s1 : Nat, s - 1 = s1 := ⟨_, rfl⟩
    rw [hs1] at es hch
    have HCH := Lib.hid hch
    clear hT hB hf0 hle hff hxx hv2 hss hch hs1
    by_cases hc : x < f
    · have hci : (x : Int) < (f : Int) := by omega
      have HH := Lib.hid hc
      clear hc
      go_wp2_with fail
      go_ret
      rw [HCH.out, if_pos HH.out]
      exact ⟨congrArg (fun z => Ending.returned (Value.int .i64 z)) ex, HF.out.set_ s1 _ rfl⟩
    · have hci : (f : Int) ≤ (x : Int) := by omega
      have HH := Lib.hid hc
      clear hc
      by_cases hd : 32 ≤ v
      · have hdi : (31 : Int) < (v : Int) := by omega
        have HD := Lib.hid hd
        clear hd
        go_wp2_with fail
        go_ret
        rw [HCH.out, if_neg HH.out, if_pos HD.out]
        exact ⟨congrArg (fun z => Ending.returned (Value.int .i64 z)) ew1, HF.out⟩
      · have hdi : (v : Int) ≤ 31 := by omega
        have HD := Lib.hid hd
        clear hd
        go_wp2_with fail
        go_ret
        rw [HCH.out, if_neg HH.out, if_neg HD.out]
        exact ⟨by first | rfl | exact congrArg (fun z => Ending.returned (Value.int .i64 z)) ev, HF.out⟩
  · have hT : chT left = 64 := by unfold chT; rw [HLG.out]
    have hB : chB left = 7 := by unfold chB; rw [HLG.out]
    have hf0 : chFew left = f := HFW.out
    have hle : left + 1 < 128 := by have h := Nat.lt_log2_self (n := left + 1); rw [HLG.out] at h; simp only [Nat.reducePow, Nat.reduceAdd] at h; omega
    have hff : f = 128 - 1 - (left + 1) := by rw [← hf0]; unfold chFew; rw [hT]
    have hxx : v % 64 = x := HX.out
    have hv2 : v < 128 := HV2.out
    have hss : i + 7 = s := HS.out
    have hch : chanceF l i left = if x < f then ((x : Int) - 1, s - 1) else if 64 ≤ v then ((v : Int) - f - 1, s) else ((v : Int) - 1, s) := by
      unfold chanceF
      rw [hB, hT, hf0, HV.out, hxx, hss]
    have ef : wrap64 (127 - (li + 1)) = (f : Int) := by have := HL.out; unfold wrap64; omega
    have es : wrap64 ((s : Int) - 1) = ((s - 1 : Nat) : Int) := by unfold wrap64; omega
    have ew : wrap64 ((v : Int) - (f : Int)) = (v : Int) - (f : Int) := by unfold wrap64; omega
    have ew1 : wrap64 ((v : Int) - (f : Int) - 1) = (v : Int) - (f : Int) - 1 := by unfold wrap64; omega
    have ev : wrap64 ((v : Int) - 1) = (v : Int) - 1 := by unfold wrap64; omega
    have ex : wrap64 ((x : Int) - 1) = (x : Int) - 1 := by unfold wrap64; omega
    simp only [Nat.reducePow, Nat.reduceSub, Int.cast_ofNat_Int] at ea
    obtain ⟨s1, hs1⟩ : ∃ s1 : Nat, s - 1 = s1 := ⟨_, rfl⟩
    rw [hs1] at es hch
    have HCH := Lib.hid hch
    clear hT hB hf0 hle hff hxx hv2 hss hch hs1
    by_cases hc : x < f
    · have hci : (x : Int) < (f : Int) := by omega
      have HH := Lib.hid hc
      clear hc
      go_wp2_with fail
      go_ret
      rw [HCH.out, if_pos HH.out]
      exact ⟨congrArg (fun z => Ending.returned (Value.int .i64 z)) ex, HF.out.set_ s1 _ rfl⟩
    · have hci : (f : Int) ≤ (x : Int) := by omega
      have HH := Lib.hid hc
      clear hc
      by_cases hd : 64 ≤ v
      · have hdi : (63 : Int) < (v : Int) := by omega
        have HD := Lib.hid hd
        clear hd
        go_wp2_with fail
        go_ret
        rw [HCH.out, if_neg HH.out, if_pos HD.out]
        exact ⟨congrArg (fun z => Ending.returned (Value.int .i64 z)) ew1, HF.out⟩
      · have hdi : (v : Int) ≤ 63 := by omega
        have HD := Lib.hid hd
        clear hd
        go_wp2_with fail
        go_ret
        rw [HCH.out, if_neg HH.out, if_neg HD.out]
        exact ⟨by first | rfl | exact congrArg (fun z => Ending.returned (Value.int .i64 z)) ev, HF.out⟩
  · have hT : chT left = 128 := by unfold chT; rw [HLG.out]
    have hB : chB left = 8 := by unfold chB; rw [HLG.out]
    have hf0 : chFew left = f := HFW.out
    have hle : left + 1 < 256 := by have h := Nat.lt_log2_self (n := left + 1); rw [HLG.out] at h; simp only [Nat.reducePow, Nat.reduceAdd] at h; omega
    have hff : f = 256 - 1 - (left + 1) := by rw [← hf0]; unfold chFew; rw [hT]
    have hxx : v % 128 = x := HX.out
    have hv2 : v < 256 := HV2.out
    have hss : i + 8 = s := HS.out
    have hch : chanceF l i left = if x < f then ((x : Int) - 1, s - 1) else if 128 ≤ v then ((v : Int) - f - 1, s) else ((v : Int) - 1, s) := by
      unfold chanceF
      rw [hB, hT, hf0, HV.out, hxx, hss]
    have ef : wrap64 (255 - (li + 1)) = (f : Int) := by have := HL.out; unfold wrap64; omega
    have es : wrap64 ((s : Int) - 1) = ((s - 1 : Nat) : Int) := by unfold wrap64; omega
    have ew : wrap64 ((v : Int) - (f : Int)) = (v : Int) - (f : Int) := by unfold wrap64; omega
    have ew1 : wrap64 ((v : Int) - (f : Int) - 1) = (v : Int) - (f : Int) - 1 := by unfold wrap64; omega
    have ev : wrap64 ((v : Int) - 1) = (v : Int) - 1 := by unfold wrap64; omega
    have ex : wrap64 ((x : Int) - 1) = (x : Int) - 1 := by unfold wrap64; omega
    simp only [Nat.reducePow, Nat.reduceSub, Int.cast_ofNat_Int] at ea
    obtain ⟨s1, hs1⟩ : ∃ s1 : Nat, s - 1 = s1 := ⟨_, rfl⟩
    rw [hs1] at es hch
    have HCH := Lib.hid hch
    clear hT hB hf0 hle hff hxx hv2 hss hch hs1
    by_cases hc : x < f
    · have hci : (x : Int) < (f : Int) := by omega
      have HH := Lib.hid hc
      clear hc
      go_wp2_with fail
      go_ret
      rw [HCH.out, if_pos HH.out]
      exact ⟨congrArg (fun z => Ending.returned (Value.int .i64 z)) ex, HF.out.set_ s1 _ rfl⟩
    · have hci : (f : Int) ≤ (x : Int) := by omega
      have HH := Lib.hid hc
      clear hc
      by_cases hd : 128 ≤ v
      · have hdi : (127 : Int) < (v : Int) := by omega
        have HD := Lib.hid hd
        clear hd
        go_wp2_with fail
        go_ret
        rw [HCH.out, if_neg HH.out, if_pos HD.out]
        exact ⟨congrArg (fun z => Ending.returned (Value.int .i64 z)) ew1, HF.out⟩
      · have hdi : (v : Int) ≤ 127 := by omega
        have HD := Lib.hid hd
        clear hd
        go_wp2_with fail
        go_ret
        rw [HCH.out, if_neg HH.out, if_neg HD.out]
        exact ⟨by first | rfl | exact congrArg (fun z => Ending.returned (Value.int .i64 z)) ev, HF.out⟩
  · have hT : chT left = 256 := by unfold chT; rw [HLG.out]
    have hB : chB left = 9 := by unfold chB; rw [HLG.out]
    have hf0 : chFew left = f := HFW.out
    have hle : left + 1 < 512 := by have h := Nat.lt_log2_self (n := left + 1); rw [HLG.out] at h; simp only [Nat.reducePow, Nat.reduceAdd] at h; omega
    have hff : f = 512 - 1 - (left + 1) := by rw [← hf0]; unfold chFew; rw [hT]
    have hxx : v % 256 = x := HX.out
    have hv2 : v < 512 := HV2.out
    have hss : i + 9 = s := HS.out
    have hch : chanceF l i left = if x < f then ((x : Int) - 1, s - 1) else if 256 ≤ v then ((v : Int) - f - 1, s) else ((v : Int) - 1, s) := by
      unfold chanceF
      rw [hB, hT, hf0, HV.out, hxx, hss]
    have ef : wrap64 (511 - (li + 1)) = (f : Int) := by have := HL.out; unfold wrap64; omega
    have es : wrap64 ((s : Int) - 1) = ((s - 1 : Nat) : Int) := by unfold wrap64; omega
    have ew : wrap64 ((v : Int) - (f : Int)) = (v : Int) - (f : Int) := by unfold wrap64; omega
    have ew1 : wrap64 ((v : Int) - (f : Int) - 1) = (v : Int) - (f : Int) - 1 := by unfold wrap64; omega
    have ev : wrap64 ((v : Int) - 1) = (v : Int) - 1 := by unfold wrap64; omega
    have ex : wrap64 ((x : Int) - 1) = (x : Int) - 1 := by unfold wrap64; omega
    simp only [Nat.reducePow, Nat.reduceSub, Int.cast_ofNat_Int] at ea
    obtain ⟨s1, hs1⟩ : ∃ s1 : Nat, s - 1 = s1 := ⟨_, rfl⟩
    rw [hs1] at es hch
    have HCH := Lib.hid hch
    clear hT hB hf0 hle hff hxx hv2 hss hch hs1
    by_cases hc : x < f
    · have hci : (x : Int) < (f : Int) := by omega
      have HH := Lib.hid hc
      clear hc
      go_wp2_with fail
      go_ret
      rw [HCH.out, if_pos HH.out]
      exact ⟨congrArg (fun z => Ending.returned (Value.int .i64 z)) ex, HF.out.set_ s1 _ rfl⟩
    · have hci : (f : Int) ≤ (x : Int) := by omega
      have HH := Lib.hid hc
      clear hc
      by_cases hd : 256 ≤ v
      · have hdi : (255 : Int) < (v : Int) := by omega
        have HD := Lib.hid hd
        clear hd
        go_wp2_with fail
        go_ret
        rw [HCH.out, if_neg HH.out, if_pos HD.out]
        exact ⟨congrArg (fun z => Ending.returned (Value.int .i64 z)) ew1, HF.out⟩
      · have hdi : (v : Int) ≤ 255 := by omega
        have HD := Lib.hid hd
        clear hd
        go_wp2_with fail
        go_ret
        rw [HCH.out, if_neg HH.out, if_neg HD.out]
        exact ⟨by first | rfl | exact congrArg (fun z => Ending.returned (Value.int .i64 z)) ev, HF.out⟩
  · have hT : chT left = 512 := by unfold chT; rw [HLG.out]
    have hB : chB left = 10 := by unfold chB; rw [HLG.out]
    have hf0 : chFew left = f := HFW.out
    have hle : left + 1 < 1024 := by have h := Nat.lt_log2_self (n := left + 1); rw [HLG.out] at h; simp only [Nat.reducePow, Nat.reduceAdd] at h; omega
    have hff : f = 1024 - 1 - (left + 1) := by rw [← hf0]; unfold chFew; rw [hT]
    have hxx : v % 512 = x := HX.out
    have hv2 : v < 1024 := HV2.out
    have hss : i + 10 = s := HS.out
    have hch : chanceF l i left = if x < f then ((x : Int) - 1, s - 1) else if 512 ≤ v then ((v : Int) - f - 1, s) else ((v : Int) - 1, s) := by
      unfold chanceF
      rw [hB, hT, hf0, HV.out, hxx, hss]
    have ef : wrap64 (1023 - (li + 1)) = (f : Int) := by have := HL.out; unfold wrap64; omega
    have es : wrap64 ((s : Int) - 1) = ((s - 1 : Nat) : Int) := by unfold wrap64; omega
    have ew : wrap64 ((v : Int) - (f : Int)) = (v : Int) - (f : Int) := by unfold wrap64; omega
    have ew1 : wrap64 ((v : Int) - (f : Int) - 1) = (v : Int) - (f : Int) - 1 := by unfold wrap64; omega
    have ev : wrap64 ((v : Int) - 1) = (v : Int) - 1 := by unfold wrap64; omega
    have ex : wrap64 ((x : Int) - 1) = (x : Int) - 1 := by unfold wrap64; omega
    simp only [Nat.reducePow, Nat.reduceSub, Int.cast_ofNat_Int] at ea
    obtain ⟨s1, hs1⟩ : ∃ s1 : Nat, s - 1 = s1 := ⟨_, rfl⟩
    rw [hs1] at es hch
    have HCH := Lib.hid hch
    clear hT hB hf0 hle hff hxx hv2 hss hch hs1
    by_cases hc : x < f
    · have hci : (x : Int) < (f : Int) := by omega
      have HH := Lib.hid hc
      clear hc
      go_wp2_with fail
      go_ret
      rw [HCH.out, if_pos HH.out]
      exact ⟨congrArg (fun z => Ending.returned (Value.int .i64 z)) ex, HF.out.set_ s1 _ rfl⟩
    · have hci : (f : Int) ≤ (x : Int) := by omega
      have HH := Lib.hid hc
      clear hc
      by_cases hd : 512 ≤ v
      · have hdi : (511 : Int) < (v : Int) := by omega
        have HD := Lib.hid hd
        clear hd
        go_wp2_with fail
        go_ret
        rw [HCH.out, if_neg HH.out, if_pos HD.out]
        exact ⟨congrArg (fun z => Ending.returned (Value.int .i64 z)) ew1, HF.out⟩
      · have hdi : (v : Int) ≤ 511 := by omega
        have HD := Lib.hid hd
        clear hd
        go_wp2_with fail
        go_ret
        rw [HCH.out, if_neg HH.out, if_neg HD.out]
        exact ⟨by first | rfl | exact congrArg (fun z => Ending.returned (Value.int .i64 z)) ev, HF.out⟩
end Go.Proofs.YthkklojjpgjiiaaFmt
namespace Go.Proofs.YthkklojjpgjiiaaFmt

theorem numF_add (l : List UInt8) (i a : Nat) : ∀ b, numF l i (a + b) = numF l i a + 2 ^ a * numF l (i + a) b
  | 0 => by simp [numF]
  | b + 1 => by
    rw [← Nat.add_assoc, numF, numF_add l i a b, numF, Nat.mul_add, ← Nat.add_assoc i a b, Nat.pow_add, Nat.add_assoc]
    congr 2
    exact Nat.mul_left_comm _ _ _
theorem numF_mod (l : List UInt8) (i a b : Nat) : numF l i (a + b) % 2 ^ a = numF l i a := by
  rw [numF_add, Nat.add_mul_mod_self_left, Nat.mod_eq_of_lt (numF_lt l i a)]
theorem numF_mod_le (l : List UInt8) (i a k : Nat) (h : a ≤ k) : numF l i k % 2 ^ a = numF l i a := by
  obtain ⟨b, rfl⟩ := Nat.le.dest h
  exact numF_mod l i a b
theorem numF_div (l : List UInt8) (i a b : Nat) : numF l i (a + b) / 2 ^ a = numF l (i + a) b := by
  rw [numF_add, Nat.add_mul_div_left _ _ (Nat.two_pow_pos a), Nat.div_eq_of_lt (numF_lt l i a), Nat.zero_add]
theorem bitAt_take (l : List UInt8) (m i : Nat) (h : i < 8 * m) : bitAt (l.take m) i = bitAt l i := by
  unfold bitAt
  rw [List.getD_eq_getElem?_getD, List.getD_eq_getElem?_getD, List.getElem?_take_of_lt (by omega)]
theorem numF_take (l : List UInt8) (m i : Nat) : ∀ k, i + k ≤ 8 * m → numF (l.take m) i k = numF l i k
  | 0, _ => rfl
  | k + 1, h => by rw [numF, numF, numF_take l m i k (by omega), bitAt_take l m _ (by omega)]
theorem numF_zero (l : List UInt8) (i : Nat) (h : 8 * l.length ≤ i) : ∀ k, numF l i k = 0
  | 0 => rfl
  | k + 1 => by rw [numF, numF_zero l i h k, bitAt_over l _ (by omega)]; simp
theorem numF_past (l : List UInt8) (i a k : Nat) (h : 8 * l.length ≤ i + a) (ha : a ≤ k) : numF l i k = numF l i a := by
  obtain ⟨b, rfl⟩ := Nat.le.dest ha
  rw [numF_add, numF_zero l _ h]
  simp
/-- shifting a window that reaches to the end of its bytes -/
theorem numF_shift (l : List UInt8) (i s k : Nat) (h : 8 * l.length ≤ i + k) (hs : s ≤ k) : numF l i k / 2 ^ s = numF l (i + s) k := by
  obtain ⟨b, rfl⟩ := Nat.le.dest hs
  rw [numF_div, numF_past l (i + s) b (s + b) (by omega) (by omega)]
theorem numF_byte (l : List UInt8) (j : Nat) : numF l (8 * j) 8 = (l.getD j 0).toNat := by
  have h : ∀ v : Fin 256, (((((((0 + v.val / 2 ^ 0 % 2 * 2 ^ 0) + v.val / 2 ^ 1 % 2 * 2 ^ 1) + v.val / 2 ^ 2 % 2 * 2 ^ 2) + v.val / 2 ^ 3 % 2 * 2 ^ 3) + v.val / 2 ^ 4 % 2 * 2 ^ 4) + v.val / 2 ^ 5 % 2 * 2 ^ 5) + v.val / 2 ^ 6 % 2 * 2 ^ 6) + v.val / 2 ^ 7 % 2 * 2 ^ 7 = v.val := by decide +kernel
  have hb : ∀ k, k < 8 → bitAt l (8 * j + k) = (l.getD j 0).toNat / 2 ^ k % 2 := by
    intro k hk
    unfold bitAt
    rw [show (8 * j + k) / 8 = j by omega, show (8 * j + k) % 8 = k by omega]
  simp only [numF]
  rw [hb 0 (by omega), hb 1 (by omega), hb 2 (by omega), hb 3 (by omega), hb 4 (by omega), hb 5 (by omega), hb 6 (by omega), hb 7 (by omega)]
  exact h ⟨(l.getD j 0).toNat, UInt8.toNat_lt _⟩
theorem numF_word (l : List UInt8) (j : Nat) : numF l (8 * j) 32 = (l.getD j 0).toNat + 256 * (l.getD (j + 1) 0).toNat + 65536 * (l.getD (j + 2) 0).toNat + 16777216 * (l.getD (j + 3) 0).toNat := by
  have h1 := numF_add l (8 * j) 8 24
  have h2 := numF_add l (8 * (j + 1)) 8 16
  have h3 := numF_add l (8 * (j + 2)) 8 8
  simp only [Nat.reduceAdd] at h1 h2 h3
  rw [h1, show 8 * j + 8 = 8 * (j + 1) by omega, h2, show 8 * (j + 1) + 8 = 8 * (j + 2) by omega, h3, show 8 * (j + 2) + 8 = 8 * (j + 3) by omega, numF_byte, numF_byte, numF_byte, numF_byte]
  omega

/-- a chance of a number of bits that was read, and how many bits it takes -/
def chanceV (v left : Nat) : Int × Nat :=
  if v % chT left < chFew left then ((v % chT left : Nat) - 1, chB left - 1)
  else if chT left ≤ v then ((v : Int) - chFew left - 1, chB left)
  else ((v : Int) - 1, chB left)
theorem chB_ge (left : Nat) (h : 1 ≤ left) : 2 ≤ chB left := by
  unfold chB
  have := (Nat.le_log2 (n := left + 1) (k := 1) (by omega)).2 (by omega)
  omega
theorem chT_facts (left : Nat) : chT left ≤ left + 1 ∧ left + 1 < 2 * chT left ∧ 2 ^ chB left = 2 * chT left := by
  unfold chT chB
  refine ⟨Nat.log2_self_le (by omega), ?_, by rw [Nat.pow_succ]; omega⟩
  have := Nat.lt_log2_self (n := left + 1)
  rw [Nat.pow_succ] at this
  omega
theorem chanceF_eq (l : List UInt8) (i left : Nat) (h : 1 ≤ left) : chanceF l i left = ((chanceV (numF l i (chB left)) left).1, i + (chanceV (numF l i (chB left)) left).2) := by
  have := chB_ge left h
  unfold chanceF chanceV
  split
  · exact Prod.ext rfl (by show i + chB left - 1 = i + (chB left - 1); omega)
  · split <;> rfl
theorem chanceV_facts (v left : Nat) (hv : v < 2 * chT left) : -1 ≤ (chanceV v left).1 ∧ (chanceV v left).1 ≤ left ∧ chB left - 1 ≤ (chanceV v left).2 ∧ (chanceV v left).2 ≤ chB left := by
  have ht := chT_facts left
  have hf : chFew left = 2 * chT left - 1 - (left + 1) := rfl
  unfold chanceV
  split
  · rename_i h1
    have : v % chT left < chT left := Nat.mod_lt _ (by omega)
    refine ⟨?_, ?_, ?_, ?_⟩ <;> dsimp only <;> omega
  · rename_i h1
    split
    · rename_i h2
      refine ⟨?_, ?_, ?_, ?_⟩ <;> dsimp only <;> omega
    · rename_i h2
      have : v % chT left = v := Nat.mod_eq_of_lt (by omega)
      refine ⟨?_, ?_, ?_, ?_⟩ <;> dsimp only <;> omega

/-- a run of zeros: so many, and where it ends -/
inductive ZR (l : List UInt8) : Nat → Nat → Nat → Prop
  | last {i : Nat} (h : numF l i 2 < 3 ∨ 8 * l.length < i + 2) : ZR l i (numF l i 2) (i + 2)
  | more {i k j : Nat} (h : numF l i 2 = 3) (h2 : i + 2 ≤ 8 * l.length) (hz : ZR l (i + 2) k j) : ZR l i (k + 3) j
theorem ZR.ge {l : List UInt8} {i k j : Nat} (h : ZR l i k j) : i + 2 ≤ j := by
  induction h with
  | last _ => exact Nat.le_refl _
  | more _ _ _ ih => omega
theorem ZR.inv_last {l : List UInt8} {i k j : Nat} (h : ZR l i k j) (hv : numF l i 2 < 3) : k = numF l i 2 ∧ j = i + 2 := by
  cases h with
  | last h => exact ⟨rfl, rfl⟩
  | more h h2 hz => omega
theorem ZR.inv_more {l : List UInt8} {i k j : Nat} (h : ZR l i k j) (hv : numF l i 2 = 3) (hi : i + 2 ≤ 8 * l.length) : ∃ k', k = k' + 3 ∧ ZR l (i + 2) k' j := by
  cases h with
  | last h => omega
  | more h h2 hz => exact ⟨_, rfl, hz⟩
theorem ZR.inv_pairs {l : List UInt8} {j : Nat} : ∀ (m i k : Nat), ZR l i k j → (∀ t, t < m → numF l (i + 2 * t) 2 = 3) → i + 2 * m ≤ 8 * l.length → ∃ k', k = k' + 3 * m ∧ ZR l (i + 2 * m) k' j
  | 0, i, k, h, _, _ => ⟨k, rfl, h⟩
  | m + 1, i, k, h, hv, hi => by
    obtain ⟨k1, rfl, h1⟩ := h.inv_more (by simpa using hv 0 (by omega)) (by omega)
    obtain ⟨k2, rfl, h2⟩ := ZR.inv_pairs m (i + 2) k1 h1 (fun t ht => by have := hv (t + 1) (by omega); rwa [show i + 2 * (t + 1) = i + 2 + 2 * t by omega] at this) (by omega)
    exact ⟨k2, by omega, by rwa [show i + 2 + 2 * m = i + 2 * (m + 1) by omega] at h2⟩

/-- the reading of chances from a place, so many parts left, some read: they and where they end, or a refusal -/
inductive CR (l : List UInt8) : Nat → Nat → List Int → Option (List Int × Nat) → Prop
  | done {i : Nat} {out : List Int} (h : i ≤ 8 * l.length) (h2 : out.length ≤ 256) : CR l i 0 out (some (out, i))
  | bad {i : Nat} {out : List Int} (h : 8 * l.length < i ∨ 256 < out.length) : CR l i 0 out none
  | stop {i left : Nat} {out : List Int} (h0 : 0 < left) (h : 8 * l.length < i ∨ 255 < out.length) : CR l i left out none
  | some_ {i left : Nat} {out : List Int} {c : Int} {j : Nat} {R : Option (List Int × Nat)} (h0 : 0 < left) (h : i ≤ 8 * l.length) (h2 : out.length ≤ 255) (hc : chanceF l i left = (c, j)) (hne : c ≠ 0) (hr : CR l j (left - c.natAbs) (out ++ [c]) R) : CR l i left out R
  | zero {i left : Nat} {out : List Int} {j k j2 : Nat} {R : Option (List Int × Nat)} (h0 : 0 < left) (h : i ≤ 8 * l.length) (h2 : out.length ≤ 255) (hc : chanceF l i left = (0, j)) (hz : ZR l j k j2) (hr : CR l j2 left (out ++ [0] ++ List.replicate k 0) R) : CR l i left out R
/-- what the reading comes to where the last byte is begun -/
def LostR (l : List UInt8) (R : Option (List Int × Nat)) : Prop := ∀ o i, R = some (o, i) → 8 * (l.length - 1) < i
theorem CR.lost {l : List UInt8} {i left : Nat} {out : List Int} {R : Option (List Int × Nat)} (h : CR l i left out R) (hi : 8 * (l.length - 1) < i) : LostR l R := by
  induction h with
  | done h h2 => rintro o i e; cases e; exact hi
  | bad h => rintro o i e; cases e
  | stop h0 h => rintro o i e; cases e
  | some_ h0 h h2 hc hne hr ih =>
    refine ih ?_
    rw [chanceF_eq _ _ _ h0] at hc
    have := congrArg Prod.snd hc
    dsimp only at this
    omega
  | zero h0 h h2 hc hz hr ih =>
    refine ih ?_
    rw [chanceF_eq _ _ _ h0] at hc
    have := congrArg Prod.snd hc
    have := hz.ge
    dsimp only at *
    omega
theorem CR.long {l : List UInt8} {i left : Nat} {out : List Int} {R : Option (List Int × Nat)} (h : CR l i left out R) (h0 : 0 < left) (hl : 255 < out.length) : R = none := by
  cases h with
  | done => omega
  | bad => omega
  | stop => rfl
  | some_ => omega
  | zero => omega
def sumA (o : List Int) : Nat := (o.map Int.natAbs).sum
theorem sumA_append (a b : List Int) : sumA (a ++ b) = sumA a + sumA b := by simp [sumA]
theorem sumA_one (c : Int) : sumA [c] = c.natAbs := by simp [sumA]
theorem sumA_zeros (k : Nat) : sumA (List.replicate k 0) = 0 := by simp [sumA]
/-- chances that may stand: each at least -1 -/
def Least (o : List Int) : Prop := ∀ c ∈ o, -1 ≤ c
theorem Least.snoc {o : List Int} (h : Least o) {c : Int} (hc : -1 ≤ c) : Least (o ++ [c]) := by
  intro x hx
  rcases List.mem_append.1 hx with h1 | h1
  · exact h x h1
  · rw [List.mem_singleton.1 h1]; exact hc
theorem Least.zeros {o : List Int} (h : Least o) (k : Nat) : Least (o ++ List.replicate k 0) := by
  intro x hx
  rcases List.mem_append.1 hx with h1 | h1
  · exact h x h1
  · rw [(List.mem_replicate.1 h1).2]; decide
theorem CR.valid {l : List UInt8} {i left : Nat} {out : List Int} {R : Option (List Int × Nat)} (h : CR l i left out R) : ∀ o j, R = some (o, j) → Least out → Least o ∧ sumA o = sumA out + left ∧ o.length ≤ 256 ∧ j ≤ 8 * l.length := by
  induction h with
  | done h h2 => rintro o j e hl; cases e; exact ⟨hl, rfl, h2, h⟩
  | bad h => rintro o j e; cases e
  | stop h0 h => rintro o j e; cases e
  | @some_ i left out c j R h0 h h2 hc hne hr ih =>
    intro o j2 e hl
    rw [chanceF_eq _ _ _ h0] at hc
    have h1 := congrArg Prod.fst hc
    have hf := chanceV_facts (numF l i (chB left)) left (by have := numF_lt l i (chB left); rw [(chT_facts left).2.2] at this; exact this)
    dsimp only at h1
    rw [h1] at hf
    obtain ⟨a, b, c', d⟩ := ih o j2 e (hl.snoc hf.1)
    refine ⟨a, ?_, c', d⟩
    rw [b, sumA_append, sumA_one]
    omega
  | zero h0 h h2 hc hz hr ih =>
    intro o j2 e hl
    obtain ⟨a, b, c', d⟩ := ih o j2 e ((hl.snoc (by decide)).zeros _)
    refine ⟨a, ?_, c', d⟩
    rw [b, sumA_append, sumA_append, sumA_one, sumA_zeros]
    simp
end Go.Proofs.YthkklojjpgjiiaaFmt
namespace Go.Proofs.YthkklojjpgjiiaaFmt
open Go.RowKit

theorem info_int : (Tryf.prog.info? 3).map (fun i => (i.zero, i.size, i.bytes)) = some (some (.int .i64 0), 1, 8) := by kernel_rfl

/-- The slice value v, made by the call (its block from 'base' on), holds the numbers l. -/
def OwnI (w : World) (base : Nat) (v : Value) (l : List Int) : Prop := w.ownsRow base 3 1 v l.length (l.map (Value.int .i64))

section
variable {w w' : World} {base : Nat} {v : Value} {l : List Int}
theorem OwnI.drewN (h : OwnI w base v l) (k : Nat) : OwnI (w.drewN k) base v l := h
theorem OwnI.alloc (h : OwnI w base v l) (o : Obj) : OwnI (w.alloc o) base v l := World.ownsRow.alloc h o
theorem OwnI.nil (w : World) (base : Nat) : OwnI w base (.slice none 0 0) [] := World.ownsRow_nil _ _ _ _
theorem OwnI.lit (w : World) (hb : base ≤ w.heap.size) : OwnI (w.alloc (.cells #[] 3)) base (.slice (some ⟨w.heap.size, 0, none⟩) 0 0) [] :=
  World.ownsRow_lit w #[] 0 hb (by unfold maxLen; omega) rfl
theorem OwnI.block (h : OwnI w base v l) : ∀ k, v.ownBlock = some k → base ≤ k ∧ k < w.heap.size := World.ownsRow.lt h
/-- another world in which all blocks are the same, one below the base left aside -/
theorem OwnI.but (h : OwnI w base v l) {g : Nat} (hg : g < base) (h1 : w'.os = w.os) (h2 : w'.tape = w.tape) (h3 : w'.output = w.output) (hs : w.heap.size ≤ w'.heap.size) (hb : ∀ k, k ≠ g → k < w.heap.size → w'.heap[k]? = w.heap[k]?) : OwnI w' base v l := by
  refine World.ownsRow.kept (row := some g) h ⟨h1, h2, h3, hs, fun k hk hne => hb k (fun e => hne (by rw [e])) hk⟩ ?_
  cases hv : v.ownBlock with
  | none => exact .inl rfl
  | some k =>
    right
    intro e
    have := (OwnI.block h k hv).1
    cases e
    omega
theorem OwnI.len (h : OwnI w base v l) : ∃ A c, v = .slice A l.length c ∧ l.length ≤ c ∧ c ≤ maxLen := by
  rcases h.2 with ⟨rfl, h0⟩ | ⟨g, cap, cur, rfl, hb, hh, hc, hm, hs, ht⟩
  · exact ⟨none, 0, by rw [h0], by omega, by unfold maxLen; omega⟩
  · exact ⟨_, cap, rfl, hc, hm⟩
theorem OwnI.lenv (h : OwnI w base v l) : ∃ A c n, v = .slice A n c := by
  obtain ⟨A, c, rfl, _, _⟩ := h.len
  exact ⟨A, c, _, rfl⟩
theorem OwnI.open_ (h : OwnI w base v l) (hl : 0 < l.length) : ∃ G c, v = .slice (some ⟨G, 0, none⟩) l.length c ∧ base ≤ G ∧ G < w.heap.size ∧ ∀ k, k < l.length → w.cell? ⟨G, k, none⟩ = some (.int .i64 (l.getD k 0)) := by
  obtain ⟨A, c, rfl, hc, hm⟩ := h.len
  rcases h.2 with ⟨_, h0⟩ | ⟨g, cap, cur, hv, hb, hh, _⟩
  · omega
  · injection hv with h1 h2 h3
    subst h1
    subst h3
    have hg : g < w.heap.size := by
      rcases Nat.lt_or_ge g w.heap.size with hlt | hge
      · exact hlt
      · rw [Array.getElem?_eq_none hge] at hh; cases hh
    refine ⟨g, c, rfl, hb, hg, fun k hk => ?_⟩
    have hat := World.ownsRow.cellAt (g := g) (cap := c) h k (by omega)
    rw [hat]
    simp [hk]
theorem grown_below (hg : w.grownBy w' v.ownBlock) (h : OwnI w base v l) (B : Nat) (hB : B ≤ base) (hBs : B ≤ w.heap.size) : Below B w w' :=
  ⟨hg.os, hg.tape, hg.output, hg.size, fun k hk => hg.block k (by omega) (fun e => by have := (h.block k e.symm).1; omega)⟩
end

theorem wpList_append_i (w : World) {ops : Array Oper} {rest : List Oper} {o : Oper} {a : Act} {Q : Exit → Act → World → Prop} (hgd : o.guard = none) (s x : Operand)
    (ho : o.op = .call { callee := .builtin .append, args := #[s, x], argTypes := #[29, 29] })
    (base : Nat) (v : Value) (l : List Int) (hs : a.eval s = v) (hown : OwnI w base v l) (g : Nat) (hx : a.eval x = .slice (some ⟨g, 0, none⟩) 1 1) (c : Int) (hc : w.cell? ⟨g, 0, none⟩ = some (.int .i64 c))
    (hl : l.length ≤ 100000000) (hbase : base ≤ w.heap.size)
    (h : ∀ v' w', OwnI w' base v' (l ++ [c]) → Below base w w' → wpList Tryf.prog ops Q rest (a.put o.dst v') w') : wpList Tryf.prog ops Q (o :: rest) a w := by
  obtain ⟨i, hi, hz, hsz, hby⟩ := info_parts info_int
  refine wpList_append_own w hgd s x 29 ho base 3 i (.int .i64 0) 1 8 Tryf.underlying29 hi hz hsz hby rfl (by decide) v l.length (l.map (Value.int .i64)) hs hown ⟨g, 0, none⟩ 1 1 [.int .i64 c] hx rfl ?_ ?_ ?_ ?_ hbase ?_
  · intro j u hj
    match j, hj with
    | 0, hj => simp at hj; subst hj; simpa [Addr.add] using hc
  · intro u hu; simp at hu; subst hu; rfl
  · unfold maxLen; omega
  · omega
  · intro v' w' h2 h3 _
    refine h v' w' ?_ ⟨h3.os, h3.tape, h3.output, h3.size, fun k hk => h3.block k (by omega) (fun e => by have := (hown.block k e.symm).1; omega)⟩
    unfold OwnI
    rw [List.length_append, List.map_append]
    exact h2
end Go.Proofs.YthkklojjpgjiiaaFmt
