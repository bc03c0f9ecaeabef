/-
  (*fse.bitReader).fillFast, fill, fillFastStart, init. Conditions: those of each.
  (*fse.bitReader).fillFastStart, init. Conditions: those of each.
-/
import Derived.Test.YthkklojjpgjiiaaFmtHuffT07
import Derived.Deep.RegionWith
import Derived.Test.YthkklojjpgjiiaaFmtHuffT05
import Derived.Deep.Cut
import Derived.Outline
namespace Go.Proofs.YthkklojjpgjiiaaFmt
open Go.RowKit

theorem or_u64 (a b k : Nat) (hb : b < 2 ^ k) (hk : k ≤ 32) : bits .or .u64 (IntKind.u64.wrap ((a : Int) * 2 ^ k)) (b : Int) = ((a * 2 ^ k % 2 ^ 64 + b : Nat) : Int) := by
  have hk32 : 2 ^ k ≤ 2 ^ 32 := Nat.pow_le_pow_right (by omega) hk
  rw [show (a : Int) * 2 ^ k = ((a * 2 ^ k : Nat) : Int) by simp, u64_nat]
  have e1 : (a * 2 ^ k) % 2 ^ 64 = (a % 2 ^ (64 - k)) * 2 ^ k := by
    rw [show (2 : Nat) ^ 64 = 2 ^ (64 - k) * 2 ^ k by rw [← Nat.pow_add]; congr 1; omega, Nat.mul_mod_mul_right]
  have hx : a * 2 ^ k % 2 ^ 64 < 2 ^ 64 := Nat.mod_lt _ (by decide)
  have hor : a * 2 ^ k % 2 ^ 64 ||| b = a * 2 ^ k % 2 ^ 64 + b := by
    rw [e1, Nat.or_comm, or_shift b _ k hb, Nat.add_comm]
  generalize a * 2 ^ k % 2 ^ 64 = x at *
  have h1 : (BitVec.ofInt 64 (x : Int)).toNat = x := by
    rw [BitVec.ofInt_natCast, BitVec.toNat_ofNat]; exact Nat.mod_eq_of_lt hx
  have h2 : (BitVec.ofInt 64 (b : Int)).toNat = b := by
    rw [BitVec.ofInt_natCast, BitVec.toNat_ofNat]; exact Nat.mod_eq_of_lt (by omega)
  show IntKind.u64.wrap ((BitVec.ofInt 64 (x : Int) ||| BitVec.ofInt 64 (b : Int)).toNat : Int) = _
  have hy : x ||| b < 2 ^ 64 := Nat.or_lt_two_pow hx (by omega)
  rw [BitVec.toNat_or, h1, h2, u64_nat, Nat.mod_eq_of_lt hy, hor]

/-- a bit reader whose bits are still so many -/
def BrAt (w : World) (D : Nat) (T : TypeId) (N o : Nat) (A : Option Addr) (n c : Nat) (l : List UInt8) (f0 : Nat → Value) (L : Nat) (P : Nat → Nat → Prop) (w0 : World) : Prop :=
  ∃ off rd, BrIn w D T N o A n c l f0 off rd w0 ∧ leftB off rd = L ∧ P off rd

theorem BrIn.put {w w0 : World} {D N o : Nat} {T : TypeId} {A : Option Addr} {n c off rd val : Nat} {l : List UInt8} {f0 f : Nat → Value} (hr : RowF w D T N f) (hk : BrKeep o f0 f) (hst : BrSt f o A n c off val rd) (hon : Only (· = D) w0 w) {off' val' rd' : Nat} (hb : BrOk l off' val' rd') :
    BrIn (((w.setCell ⟨D, o + 2, none⟩ (.int .u64 (val' : Nat))).setCell ⟨D, o + 3, none⟩ (.int .u8 (rd' : Nat))).setCell ⟨D, o + 1, none⟩ (.int .u64 (off' : Nat))) D T N o A n c l f0 off' rd' w0 := by
  refine ⟨_, val', ((hr.set_ (o + 2) _).set_ (o + 3) _).set_ (o + 1) _, ?_, ?_, hb, ((hon.set_ rfl _).set_ rfl _).set_ rfl _⟩
  · intro k h1 h2 h3
    rw [updV_ne _ _ _ _ h1, updV_ne _ _ _ _ h3, updV_ne _ _ _ _ h2]
    exact hk k h1 h2 h3
  · refine ⟨?_, ?_, ?_, ?_⟩
    · rw [updV_ne _ _ _ _ (by omega), updV_ne _ _ _ _ (by omega), updV_ne _ _ _ _ (by omega)]; exact hst.1
    · rw [updV_same]
    · rw [updV_ne _ _ _ _ (by omega), updV_ne _ _ _ _ (by omega), updV_same]
    · rw [updV_ne _ _ _ _ (by omega), updV_same]
theorem word_val {l : List UInt8} {i b0 b1 b2 b3 val : Nat} (hw : numF l (8 * i) 32 = b0 + 256 * b1 + 65536 * b2 + 16777216 * b3) (l0 : b0 < 256) (l1 : b1 < 256) (l2 : b2 < 256) (l3 : b3 < 256) :
    bits .or .u64 (IntKind.u64.wrap ((val : Int) * 4294967296)) (IntKind.u64.wrap (bits .or .u32 (bits .or .u32 (bits .or .u32 (b0 : Int) ((b1 : Int) * 256)) ((b2 : Int) * 65536)) ((b3 : Int) * 16777216))) = ((val * 2 ^ 32 % 2 ^ 64 + numF l (8 * i) 32 : Nat) : Int) := by
  have e1 : bits .or .u32 (b0 : Int) ((b1 : Int) * 256) = ((b0 + b1 * 256 : Nat) : Int) := by
    rw [show (b1 : Int) * 256 = ((b1 * 256 : Nat) : Int) by simp, or32 _ _ (by omega) (by omega), show b1 * 256 = b1 * 2 ^ 8 by rfl, or_shift b0 b1 8 (by omega)]
  have e2 : bits .or .u32 ((b0 + b1 * 256 : Nat) : Int) ((b2 : Int) * 65536) = ((b0 + b1 * 256 + b2 * 65536 : Nat) : Int) := by
    rw [show (b2 : Int) * 65536 = ((b2 * 65536 : Nat) : Int) by simp, or32 _ _ (by omega) (by omega), show b2 * 65536 = b2 * 2 ^ 16 by rfl, or_shift _ b2 16 (by omega)]
  have e3 : bits .or .u32 ((b0 + b1 * 256 + b2 * 65536 : Nat) : Int) ((b3 : Int) * 16777216) = ((b0 + b1 * 256 + b2 * 65536 + b3 * 16777216 : Nat) : Int) := by
    rw [show (b3 : Int) * 16777216 = ((b3 * 16777216 : Nat) : Int) by simp, or32 _ _ (by omega) (by omega), show b3 * 16777216 = b3 * 2 ^ 24 by rfl, or_shift _ b3 24 (by omega)]
  rw [e1, e2, e3, show b0 + b1 * 256 + b2 * 65536 + b3 * 16777216 = numF l (8 * i) 32 by omega, u64_nat, Nat.mod_eq_of_lt (Nat.lt_trans (numF_lt _ _ _) (by decide))]
  exact or_u64 val _ 32 (numF_lt _ _ _) (Nat.le_refl _)
set_option maxRecDepth 100000 in
set_option maxHeartbeats 1600000 in
theorem fillFast_any {w w0 : World} {D N o : Nat} {T : TypeId} {A : Option Addr} {n c off rd : Nat} {l : List UInt8} {f0 : Nat → Value} (h : BrIn w D T N o A n c l f0 off rd w0) (ho : o + 3 < N) (hs : Sl w D A n c l) (hn : n ≤ 1000000) (h4 : 4 ≤ off) :
    Calls Tryf.prog 66 #[.pointer (some ⟨D, o, none⟩)] w fun e w' => e = .returned (.tuple #[]) ∧ BrAt w' D T N o A n c l f0 (leftB off rd) (fun off1 rd1 => rd1 ≤ 32 ∧ off ≤ off1 + 4) w0 := by
  have H := Lib.hid h
  obtain ⟨f, val, hr, hk, hst, hb, hon⟩ := h
  have q3 : w.cell? ⟨D, o + 3, none⟩ = some (.int .u8 (rd : Nat)) := hr.cellv _ (by omega) _ hst.2.2.2
  by_cases h32 : rd < 32
  · have hd : decide ((rd : Int) < 32) = true := decide_eq_true (by omega)
    have H32 := Lib.hid h32
    clear hr hk hst hb hon h32 hs
    go_enter Tryf.func66, Tryf.ntmps66
    go_wp2_with fail
    refine bodyPost_ret (results_none rfl _ _ _) rfl ?_
    exact ⟨rfl, off, rd, H.out, rfl, Nat.le_of_lt H32.out, by omega⟩
  · have hd : decide ((rd : Int) < 32) = false := decide_eq_false (by omega)
    have q0 : w.cell? ⟨D, o, none⟩ = some (.slice A n c) := hr.cellv _ (by omega) _ hst.1
    have q1 : w.cell? ⟨D, o + 1, none⟩ = some (.int .u64 (off : Nat)) := hr.cellv _ (by omega) _ hst.2.1
    have q2 : w.cell? ⟨D, o + 2, none⟩ = some (.int .u64 (val : Nat)) := hr.cellv _ (by omega) _ hst.2.2.1
    have f1 : w.frozen? ⟨D, o + 1, none⟩ = false := hr.frozen _
    have f2 : w.frozen? ⟨D, o + 2, none⟩ = false := hr.frozen _
    have f3 : w.frozen? ⟨D, o + 3, none⟩ = false := hr.frozen _
    have hol : off ≤ l.length := hb.1
    have hrd := hb.2.1
    have hnl := hs.len
    obtain ⟨g, o2, rfl, hg, hc⟩ := hs.at_ (by omega)
    have hcc := hs.cap
    have hcm := hs.most
    obtain ⟨i, hi⟩ : ∃ i, off - 4 = i := ⟨_, rfl⟩
    have hoi : (off : Int) - 4 = (i : Int) := by omega
    have hoi2 : IntKind.u64.wrap ((off : Int) - 4) = (i : Int) := by rw [hoi, u64_nat, Nat.mod_eq_of_lt (by omega)]
    have hin : (i : Int) + 4 ≤ (n : Int) := by omega
    have hw := numF_word l i
    obtain ⟨b0, hb0⟩ : ∃ b, (l.getD i 0).toNat = b := ⟨_, rfl⟩
    obtain ⟨b1, hb1⟩ : ∃ b, (l.getD (i + 1) 0).toNat = b := ⟨_, rfl⟩
    obtain ⟨b2, hb2⟩ : ∃ b, (l.getD (i + 2) 0).toNat = b := ⟨_, rfl⟩
    obtain ⟨b3, hb3⟩ : ∃ b, (l.getD (i + 3) 0).toNat = b := ⟨_, rfl⟩
    have hcell : ∀ j, i + j < n → w.cell? ⟨g, o2 + (i + j), none⟩ = some (.int .u8 ((l.getD (i + j) 0).toNat : Nat)) := fun j hj => by
      rw [hc (i + j) (by omega), List.getD_eq_getElem?_getD, List.getElem?_eq_getElem (by omega), Option.getD_some]
    have k0 : w.cell? ⟨g, o2 + i, none⟩ = some (.int .u8 (b0 : Nat)) := by rw [← hb0]; exact hcell 0 (by omega)
    have k1 : w.cell? ⟨g, o2 + i + 1, none⟩ = some (.int .u8 (b1 : Nat)) := by rw [← hb1, Nat.add_assoc]; exact hcell 1 (by omega)
    have k2 : w.cell? ⟨g, o2 + i + 2, none⟩ = some (.int .u8 (b2 : Nat)) := by rw [← hb2, Nat.add_assoc]; exact hcell 2 (by omega)
    have k3 : w.cell? ⟨g, o2 + i + 3, none⟩ = some (.int .u8 (b3 : Nat)) := by rw [← hb3, Nat.add_assoc]; exact hcell 3 (by omega)
    rw [hb0, hb1, hb2, hb3] at hw
    have l0 : b0 < 256 := by rw [← hb0]; exact UInt8.toNat_lt _
    have l1 : b1 < 256 := by rw [← hb1]; exact UInt8.toNat_lt _
    have l2 : b2 < 256 := by rw [← hb2]; exact UInt8.toNat_lt _
    have l3 : b3 < 256 := by rw [← hb3]; exact UInt8.toNat_lt _
    have hne : ¬ c = i := by omega
    have hwv := word_val (val := val) hw l0 l1 l2 l3
    have hfill := hb.fillN (k := 32) (Nat.le_refl _) (by omega) i (by omega)
    have HR := Lib.hid hr
    have HK := Lib.hid hk
    have HST := Lib.hid hst
    have HON := Lib.hid hon
    have HF := Lib.hid hfill
    have HWV := Lib.hid hwv
    have HI := Lib.hid hi
    have H32 := Lib.hid h32
    have hrw : (rd : Int) - 32 = ((rd - 32 : Nat) : Int) := by omega
    clear hs hc hcell hw hr hk hst hb hon hfill hwv hi hb0 hb1 hb2 hb3 hnl h32 hol
    go_enter Tryf.func66, Tryf.ntmps66
    go_wp2_with fail
    go_quiet (fail)
    go_wp2_with fail
    go_quiet (fail)
    go_wp2_with fail
    refine bodyPost_end (results_none rfl _ _ _) rfl ?_
    rw [HWV.out]
    refine ⟨rfl, i, rd - 32, BrIn.put (HR.out.drewN _) HK.out HST.out (HON.out.drewN _) HF.out, ?_, ?_, ?_⟩
    · unfold leftB; have := HI.out; have := H32.out; omega
    · have := H32.out; omega
    · have := HI.out; omega

set_option maxRecDepth 100000 in
set_option maxHeartbeats 1600000 in
theorem fill_great {w w0 : World} {D N o : Nat} {T : TypeId} {A : Option Addr} {n c off rd : Nat} {l : List UInt8} {f0 : Nat → Value} (h : BrIn w D T N o A n c l f0 off rd w0) (ho : o + 3 < N) (hs : Sl w D A n c l) (hn : n ≤ 1000000) (h4 : 4 < off) (h32 : 32 ≤ rd) :
    Calls Tryf.prog 71 #[.pointer (some ⟨D, o, none⟩)] w fun e w' => e = .returned (.tuple #[]) ∧ BrAt w' D T N o A n c l f0 (leftB off rd) (fun off1 rd1 => off1 = off - 4 ∧ rd1 = rd - 32) w0 := by
  have H := Lib.hid h
  obtain ⟨f, val, hr, hk, hst, hb, hon⟩ := h
  have q3 : w.cell? ⟨D, o + 3, none⟩ = some (.int .u8 (rd : Nat)) := hr.cellv _ (by omega) _ hst.2.2.2
  have hd : decide ((rd : Int) < 32) = false := decide_eq_false (by omega)
  have hd4 : decide ((4 : Int) < (off : Int)) = true := decide_eq_true (by omega)
  have q0 : w.cell? ⟨D, o, none⟩ = some (.slice A n c) := hr.cellv _ (by omega) _ hst.1
  have q1 : w.cell? ⟨D, o + 1, none⟩ = some (.int .u64 (off : Nat)) := hr.cellv _ (by omega) _ hst.2.1
  have q2 : w.cell? ⟨D, o + 2, none⟩ = some (.int .u64 (val : Nat)) := hr.cellv _ (by omega) _ hst.2.2.1
  have f1 : w.frozen? ⟨D, o + 1, none⟩ = false := hr.frozen _
  have f2 : w.frozen? ⟨D, o + 2, none⟩ = false := hr.frozen _
  have f3 : w.frozen? ⟨D, o + 3, none⟩ = false := hr.frozen _
  have hol : off ≤ l.length := hb.1
  have hrd := hb.2.1
  have hnl := hs.len
  obtain ⟨g, o2, rfl, hg, hc⟩ := hs.at_ (by omega)
  have hcc := hs.cap
  have hcm := hs.most
  obtain ⟨i, hi⟩ : ∃ i, off - 4 = i := ⟨_, rfl⟩
  have hoi : (off : Int) - 4 = (i : Int) := by omega
  have hoi2 : IntKind.u64.wrap ((off : Int) - 4) = (i : Int) := by rw [hoi, u64_nat, Nat.mod_eq_of_lt (by omega)]
  have hin : (i : Int) + 4 ≤ (n : Int) := by omega
  have hw := numF_word l i
  obtain ⟨b0, hb0⟩ : ∃ b, (l.getD i 0).toNat = b := ⟨_, rfl⟩
  obtain ⟨b1, hb1⟩ : ∃ b, (l.getD (i + 1) 0).toNat = b := ⟨_, rfl⟩
  obtain ⟨b2, hb2⟩ : ∃ b, (l.getD (i + 2) 0).toNat = b := ⟨_, rfl⟩
  obtain ⟨b3, hb3⟩ : ∃ b, (l.getD (i + 3) 0).toNat = b := ⟨_, rfl⟩
  have hcell : ∀ j, i + j < n → w.cell? ⟨g, o2 + (i + j), none⟩ = some (.int .u8 ((l.getD (i + j) 0).toNat : Nat)) := fun j hj => by
    rw [hc (i + j) (by omega), List.getD_eq_getElem?_getD, List.getElem?_eq_getElem (by omega), Option.getD_some]
  have k0 : w.cell? ⟨g, o2 + i, none⟩ = some (.int .u8 (b0 : Nat)) := by rw [← hb0]; exact hcell 0 (by omega)
  have k1 : w.cell? ⟨g, o2 + i + 1, none⟩ = some (.int .u8 (b1 : Nat)) := by rw [← hb1, Nat.add_assoc]; exact hcell 1 (by omega)
  have k2 : w.cell? ⟨g, o2 + i + 2, none⟩ = some (.int .u8 (b2 : Nat)) := by rw [← hb2, Nat.add_assoc]; exact hcell 2 (by omega)
  have k3 : w.cell? ⟨g, o2 + i + 3, none⟩ = some (.int .u8 (b3 : Nat)) := by rw [← hb3, Nat.add_assoc]; exact hcell 3 (by omega)
  rw [hb0, hb1, hb2, hb3] at hw
  have l0 : b0 < 256 := by rw [← hb0]; exact UInt8.toNat_lt _
  have l1 : b1 < 256 := by rw [← hb1]; exact UInt8.toNat_lt _
  have l2 : b2 < 256 := by rw [← hb2]; exact UInt8.toNat_lt _
  have l3 : b3 < 256 := by rw [← hb3]; exact UInt8.toNat_lt _
  have hne : ¬ c = i := by omega
  have hwv := word_val (val := val) hw l0 l1 l2 l3
  have hfill := hb.fillN (k := 32) (Nat.le_refl _) (by omega) i (by omega)
  have HR := Lib.hid hr
  have HK := Lib.hid hk
  have HST := Lib.hid hst
  have HON := Lib.hid hon
  have HF := Lib.hid hfill
  have HWV := Lib.hid hwv
  have HI := Lib.hid hi
  have H32 := Lib.hid h32
  have hrw : (rd : Int) - 32 = ((rd - 32 : Nat) : Int) := by omega
  clear hs hc hcell hw hr hk hst hb hon hfill hwv hi hb0 hb1 hb2 hb3 hnl h32 hol
  go_enter Tryf.func71, Tryf.ntmps71
  go_wp2_with fail
  go_quiet (fail)
  go_wp2_with fail
  go_quiet (fail)
  go_wp2_with fail
  refine bodyPost_ret (results_none rfl _ _ _) rfl ?_
  rw [HWV.out]
  refine ⟨rfl, i, rd - 32, BrIn.put (HR.out.drewN _) HK.out HST.out (HON.out.drewN _) HF.out, ?_, HI.out.symm, rfl⟩
  unfold leftB; have := HI.out; have := H32.out; omega

def offOf (D o : Nat) (w : World) : Nat := match w.cell? ⟨D, o + 1, none⟩ with | some (.int _ z) => z.toNat | _ => 0
theorem byte_val {l : List UInt8} {i b val : Nat} (hw : numF l (8 * i) 8 = b) : bits .or .u64 (IntKind.u64.wrap ((val : Int) * 256)) (b : Int) = ((val * 2 ^ 8 % 2 ^ 64 + numF l (8 * i) 8 : Nat) : Int) := by
  rw [← hw]
  exact or_u64 val _ 8 (numF_lt _ _ _) (by omega)
theorem offOf_in {w w0 : World} {D N o : Nat} {T : TypeId} {A : Option Addr} {n c off rd : Nat} {l : List UInt8} {f0 : Nat → Value} (h : BrIn w D T N o A n c l f0 off rd w0) (ho : o + 3 < N) : offOf D o w = off := by
  obtain ⟨f, val, hr, hk, hst, hb, hon⟩ := h
  unfold offOf
  rw [hr.cellv (o + 1) (by omega) _ hst.2.1]
  simp
def RelFl (D : Nat) (T : TypeId) (N o : Nat) (A : Option Addr) (n c : Nat) (l : List UInt8) (f0 : Nat → Value) (L : Nat) (w0 : World) (wr : World) : Prop :=
  ∃ off rd, BrIn wr D T N o A n c l f0 off rd w0 ∧ leftB off rd = L ∧ 8 * off ≤ rd
set_option maxRecDepth 100000 in
set_option maxHeartbeats 1600000 in
theorem fill_small {w w0 : World} {D N o : Nat} {T : TypeId} {A : Option Addr} {n c off rd : Nat} {l : List UInt8} {f0 : Nat → Value} (h : BrIn w D T N o A n c l f0 off rd w0) (ho : o + 3 < N) (hs : Sl w D A n c l) (hw0 : D < w0.heap.size) (hn : n ≤ 1000000) (h4 : off ≤ 4) (h32 : 32 ≤ rd) :
    Calls Tryf.prog 71 #[.pointer (some ⟨D, o, none⟩)] w fun e w' => e = .returned (.tuple #[]) ∧ BrAt w' D T N o A n c l f0 (leftB off rd) (fun off1 _ => off1 = 0) w0 := by
  have H := Lib.hid h
  obtain ⟨f, val, hr, hk, hst, hb, hon⟩ := h
  have q3 : w.cell? ⟨D, o + 3, none⟩ = some (.int .u8 (rd : Nat)) := hr.cellv _ (by omega) _ hst.2.2.2
  have q1 : w.cell? ⟨D, o + 1, none⟩ = some (.int .u64 (off : Nat)) := hr.cellv _ (by omega) _ hst.2.1
  have hd : decide ((rd : Int) < 32) = false := decide_eq_false (by omega)
  have hd4 : decide ((4 : Int) < (off : Int)) = false := decide_eq_false (by omega)
  have HSL : Hid (Sl w0 D A n c l) := Lib.hid (hs.keep fun b o' hb' => (World.cell?_of_block (hon.block b (fun (e : b = D) => by omega) (by omega))).symm)
  have HN := Lib.hid hn
  have H4 := Lib.hid h4
  have H32 := Lib.hid h32
  clear hr hk hst hb hon hs hn h4 h32
  go_enter Tryf.func71, Tryf.ntmps71
  go_wp2_with fail
  clear q1 q3
  go_loopw [] (RelFl D T N o A n c l f0 (leftB off rd) w0) (fun wr => offOf D o wr)
  case atStart => exact ⟨off, rd, H.out, rfl, by have := H4.out; have := H32.out; omega⟩
  case round =>
    obtain ⟨of2, rd2, hbr, hL, h8⟩ := hrel
    have HBR := Lib.hid hbr
    have HL := Lib.hid hL
    have H8 := Lib.hid h8
    obtain ⟨f, val, hr, hk, hst, hb, hon⟩ := hbr
    have q1 : wr.cell? ⟨D, o + 1, none⟩ = some (.int .u64 (of2 : Nat)) := hr.cellv _ (by omega) _ hst.2.1
    have hoff : offOf D o wr = of2 := by unfold offOf; rw [q1]; simp
    have HOFF := Lib.hid hoff
    clear hL h8 hoff
    by_cases h0 : of2 = 0
    · subst h0
      clear hr hk hst hb hon
      go_wp2_with fail
      refine bodyPost_end (results_none rfl _ _ _) rfl ?_
      exact ⟨rfl, 0, rd2, HBR.out, HL.out, rfl⟩
    · have hpos : 0 < of2 := by omega
      obtain ⟨i, hi⟩ : ∃ i, of2 - 1 = i := ⟨_, rfl⟩
      have hoi : (of2 : Int) - 1 = (i : Int) := by omega
      have q0 : wr.cell? ⟨D, o, none⟩ = some (.slice A n c) := hr.cellv _ (by omega) _ hst.1
      have q2 : wr.cell? ⟨D, o + 2, none⟩ = some (.int .u64 (val : Nat)) := hr.cellv _ (by omega) _ hst.2.2.1
      have q3 : wr.cell? ⟨D, o + 3, none⟩ = some (.int .u8 (rd2 : Nat)) := hr.cellv _ (by omega) _ hst.2.2.2
      have f1 : wr.frozen? ⟨D, o + 1, none⟩ = false := hr.frozen _
      have f2 : wr.frozen? ⟨D, o + 2, none⟩ = false := hr.frozen _
      have f3 : wr.frozen? ⟨D, o + 3, none⟩ = false := hr.frozen _
      have hol : of2 ≤ l.length := hb.1
      have hrd := hb.2.1
      have hnl := HSL.out.len
      have hsr : Sl wr D A n c l := HSL.out.keep fun b o' hb' => World.cell?_of_block (hon.block b (fun (e : b = D) => by omega) (by omega))
      obtain ⟨g, o2, rfl, hg, hc⟩ := hsr.at_ (by omega)
      have hcc := hsr.cap
      have hcm := hsr.most
      have hw := numF_byte l i
      obtain ⟨b0, hb0⟩ : ∃ b, (l.getD i 0).toNat = b := ⟨_, rfl⟩
      rw [hb0] at hw
      have k0 : wr.cell? ⟨g, o2 + i, none⟩ = some (.int .u8 (b0 : Nat)) := by
        rw [hc i (by omega), ← hb0, List.getD_eq_getElem?_getD, List.getElem?_eq_getElem (by omega), Option.getD_some]
      have hoi2 : IntKind.u64.wrap ((of2 : Int) - 1) = (i : Int) := by rw [hoi, u64_nat, Nat.mod_eq_of_lt (by omega)]
      have hin : (i : Int) < (n : Int) := by omega
      have l0 : b0 < 256 := by rw [← hb0]; exact UInt8.toNat_lt _
      have hfill := hb.fillN (k := 8) (by omega) (by have := H8.out; omega) i (by omega)
      have hwv := byte_val (val := val) hw
      have hrw : (rd2 : Int) - 8 = ((rd2 - 8 : Nat) : Int) := by have := H8.out; omega
      have HR := Lib.hid hr
      have HK := Lib.hid hk
      have HST := Lib.hid hst
      have HON := Lib.hid hon
      have HF := Lib.hid hfill
      have HWV := Lib.hid hwv
      have HI := Lib.hid hi
      clear hsr hc hw hr hk hst hb hon hfill hwv hi hb0 hnl hol h0
      go_wp2_with fail
      refine wp_region_quiet_tail 21 (by kernel_rfl) (by kernel_rfl) ?_
      simp only [List.take_succ_cons, List.take_zero, List.drop_succ_cons, List.drop_zero]
      repeat (go_big_quiet_step (fail))
      refine wpQuiet_nil ?_
      go_wp2_with fail
      rw [HWV.out]
      have hput := BrIn.put (HR.out.drewN 1) HK.out HST.out (HON.out.drewN 1) HF.out
      refine ⟨⟨i, rd2 - 8, hput, ?_, ?_⟩, ?_⟩
      · rw [← HL.out]; unfold leftB; have := HI.out; have := H8.out; omega
      · have := HI.out; have := H8.out; omega
      · rw [offOf_in hput ho, HOFF.out]; have := HI.out; omega
theorem BrAt.mono {w w0 : World} {D N o : Nat} {T : TypeId} {A : Option Addr} {n c L : Nat} {l : List UInt8} {f0 : Nat → Value} {P Q : Nat → Nat → Prop} (h : BrAt w D T N o A n c l f0 L P w0) (hpq : ∀ a b, P a b → leftB a b = L → Q a b) : BrAt w D T N o A n c l f0 L Q w0 := by
  obtain ⟨off, rd, h1, h2, h3⟩ := h
  exact ⟨off, rd, h1, h2, hpq _ _ h3 h2⟩
set_option maxHeartbeats 800000 in
theorem fill_any {w w0 : World} {D N o : Nat} {T : TypeId} {A : Option Addr} {n c off rd : Nat} {l : List UInt8} {f0 : Nat → Value} (h : BrIn w D T N o A n c l f0 off rd w0) (ho : o + 3 < N) (hs : Sl w D A n c l) (hw0 : D < w0.heap.size) (hn : n ≤ 1000000) :
    Calls Tryf.prog 71 #[.pointer (some ⟨D, o, none⟩)] w fun e w' => e = .returned (.tuple #[]) ∧ BrAt w' D T N o A n c l f0 (leftB off rd) (fun off1 rd1 => rd1 ≤ 32 ∨ off1 = 0) w0 := by
  by_cases h32 : rd < 32
  · have H := Lib.hid h
    obtain ⟨f, val, hr, hk, hst, hb, hon⟩ := h
    have q3 : w.cell? ⟨D, o + 3, none⟩ = some (.int .u8 (rd : Nat)) := hr.cellv _ (by omega) _ hst.2.2.2
    have hd : decide ((rd : Int) < 32) = true := decide_eq_true (by omega)
    have H32 := Lib.hid h32
    clear hr hk hst hb hon h32 hs
    go_enter Tryf.func71, Tryf.ntmps71
    go_wp2_with fail
    refine bodyPost_ret (results_none rfl _ _ _) rfl ?_
    exact ⟨rfl, off, rd, H.out, rfl, .inl (Nat.le_of_lt H32.out)⟩
  · by_cases h4 : 4 < off
    · refine (fill_great h ho hs hn h4 (by omega)).mono fun e w' hh => ⟨hh.1, hh.2.mono fun a b hab _ => .inl ?_⟩
      have hb : rd ≤ 64 := by obtain ⟨_, _, _, _, _, hb, _⟩ := h; exact hb.2.1
      omega
    · exact (fill_small h ho hs hw0 hn (by omega) (by omega)).mono fun e w' hh => ⟨hh.1, hh.2.mono fun a b hab _ => .inr hab⟩
set_option maxHeartbeats 800000 in
/-- the first of the two fills of a short stream -/
theorem fill_first {w w0 : World} {D N o : Nat} {T : TypeId} {A : Option Addr} {n c off : Nat} {l : List UInt8} {f0 : Nat → Value} (h : BrIn w D T N o A n c l f0 off 64 w0) (ho : o + 3 < N) (hs : Sl w D A n c l) (hw0 : D < w0.heap.size) (hn : n ≤ 1000000) (h8 : off < 8) :
    Calls Tryf.prog 71 #[.pointer (some ⟨D, o, none⟩)] w fun e w' => e = .returned (.tuple #[]) ∧ BrAt w' D T N o A n c l f0 (leftB off 64) (fun off1 rd1 => off1 ≤ 4 ∧ 32 ≤ rd1) w0 := by
  by_cases h4 : 4 < off
  · exact (fill_great h ho hs hn h4 (by omega)).mono fun e w' hh => ⟨hh.1, hh.2.mono fun a b hab _ => by omega⟩
  · refine (fill_small h ho hs hw0 hn (by omega) (by omega)).mono fun e w' hh => ⟨hh.1, hh.2.mono fun a b hab hl => ?_⟩
    unfold leftB at hl
    omega
end Go.Proofs.YthkklojjpgjiiaaFmt
namespace Go.Proofs.YthkklojjpgjiiaaFmt
open Go.RowKit

theorem leNat_numF (l : List UInt8) : ∀ (k i : Nat), i + k ≤ l.length → numF l (8 * i) (8 * k) = Lib.leNat ((l.drop i).take k)
  | 0, i, _ => by simp [numF, Lib.leNat]
  | k + 1, i, h => by
    have ih := leNat_numF l k (i + 1) (by omega)
    have hd : l.drop i = l[i]'(by omega) :: l.drop (i + 1) := List.drop_eq_getElem_cons (by omega)
    rw [show 8 * (k + 1) = 8 + 8 * k by omega, numF_add, numF_byte, show 8 * i + 8 = 8 * (i + 1) by omega, ih, hd, List.take_succ_cons]
    simp only [Lib.leNat]
    rw [List.getD_eq_getElem?_getD, List.getElem?_eq_getElem (by omega), Option.getD_some]

set_option maxRecDepth 100000 in
set_option maxHeartbeats 1600000 in
theorem fillFastStart_any {w w0 : World} {D N o : Nat} {T : TypeId} {A : Option Addr} {n c rd : Nat} {l : List UInt8} {f0 : Nat → Value} (h : BrIn w D T N o A n c l f0 n rd w0) (ho : o + 3 < N) (hs : Sl w D A n c l) (hn : n ≤ 1000000) (h8 : 8 ≤ n) :
    Calls Tryf.prog 73 #[.pointer (some ⟨D, o, none⟩)] w fun e w' => e = .returned (.tuple #[]) ∧ BrIn w' D T N o A n c l f0 (n - 8) 0 w0 := by
  obtain ⟨f, val, hr, hk, hst, hb, hon⟩ := h
  have hnl := hs.len
  obtain ⟨g, o2, rfl, hg, hc⟩ := hs.at_ (by omega)
  have hcc := hs.cap
  have hcm := hs.most
  obtain ⟨i, hi⟩ : ∃ i, n - 8 = i := ⟨_, rfl⟩
  have hoi : (n : Int) - 8 = (i : Int) := by omega
  have hoi2 : IntKind.u64.wrap ((n : Int) - 8) = (i : Int) := by rw [hoi, u64_nat, Nat.mod_eq_of_lt (by omega)]
  have hin : (i : Int) + 8 ≤ (n : Int) := by omega
  have q0 : w.cell? ⟨D, o, none⟩ = some (.slice (some ⟨g, o2, none⟩) n c) := hr.cellv _ (by omega) _ hst.1
  have q1 : w.cell? ⟨D, o + 1, none⟩ = some (.int .u64 (n : Nat)) := hr.cellv _ (by omega) _ hst.2.1
  have q2 : w.cell? ⟨D, o + 2, none⟩ = some (.int .u64 (val : Nat)) := hr.cellv _ (by omega) _ hst.2.2.1
  have q3 : w.cell? ⟨D, o + 3, none⟩ = some (.int .u8 (rd : Nat)) := hr.cellv _ (by omega) _ hst.2.2.2
  have f1 : w.frozen? ⟨D, o + 1, none⟩ = false := hr.frozen _
  have f2 : w.frozen? ⟨D, o + 2, none⟩ = false := hr.frozen _
  have f3 : w.frozen? ⟨D, o + 3, none⟩ = false := hr.frozen _
  have hne : ¬ c = i := by omega
  have hk8 : ∀ j (hj : j < 8), w.cell? ⟨g, o2 + i + j, none⟩ = some (.int .u8 ((l[i + j]'(by omega)).toNat : Nat)) := fun j hj => by rw [Nat.add_assoc]; exact hc (i + j) (by omega)
  have hle := leNat_numF l 8 i (by omega)
  have htk : (l.drop i).take 8 = [l[i]'(by omega), l[i + 1]'(by omega), l[i + 2]'(by omega), l[i + 3]'(by omega), l[i + 4]'(by omega), l[i + 5]'(by omega), l[i + 6]'(by omega), l[i + 7]'(by omega)] := by
    rw [List.drop_eq_getElem_cons (show i < l.length by omega), List.take_succ_cons, List.drop_eq_getElem_cons (show i + 1 < l.length by omega), List.take_succ_cons, List.drop_eq_getElem_cons (show i + 1 + 1 < l.length by omega), List.take_succ_cons, List.drop_eq_getElem_cons (show i + 1 + 1 + 1 < l.length by omega), List.take_succ_cons,
      List.drop_eq_getElem_cons (show i + 1 + 1 + 1 + 1 < l.length by omega), List.take_succ_cons, List.drop_eq_getElem_cons (show i + 1 + 1 + 1 + 1 + 1 < l.length by omega), List.take_succ_cons, List.drop_eq_getElem_cons (show i + 1 + 1 + 1 + 1 + 1 + 1 < l.length by omega), List.take_succ_cons,
      List.drop_eq_getElem_cons (show i + 1 + 1 + 1 + 1 + 1 + 1 + 1 < l.length by omega), List.take_succ_cons, List.take_zero]
  have KU := Lib.hid (fun q => Tryf.binary_LE_Uint64 g (o2 + i) (n - i) (c - i) (l[i]'(by omega)) (l[i + 1]'(by omega)) (l[i + 2]'(by omega)) (l[i + 3]'(by omega)) (l[i + 4]'(by omega)) (l[i + 5]'(by omega)) (l[i + 6]'(by omega)) (l[i + 7]'(by omega)) (w.drewN q) (by omega)
    (hk8 0 (by omega)) (hk8 1 (by omega)) (hk8 2 (by omega)) (hk8 3 (by omega)) (hk8 4 (by omega)) (hk8 5 (by omega)) (hk8 6 (by omega)) (hk8 7 (by omega)))
  rw [← htk, ← hle] at KU
  have KV := Lib.hid (fun q => (KU.out q).mono (R' := fun e w' => e = .returned (.int .u64 (numF l (8 * i) (8 * 8) : Nat)) ∧ RowF w' D T N f ∧ Only (· = D) w w') fun e w' hh => ⟨hh.1, (hr.drewN q).below hh.2 hr.lt, Only.of_below ⟨hh.2.os, hh.2.tape, hh.2.output, hh.2.size, hh.2.block⟩ (fun k hk _ => hk)⟩)
  have hbs := BrOk.start l (by omega)
  have HR := Lib.hid hr
  have HK := Lib.hid hk
  have HST := Lib.hid hst
  have HON := Lib.hid hon
  have HBS := Lib.hid hbs
  have HI := Lib.hid hi
  have HNL := Lib.hid hnl
  clear hs hc hk8 hle htk hr hk hst hb hon hbs hi hnl
  go_enter Tryf.func73, Tryf.ntmps73
  go_wp2_with fail
  refine wp_region_tail0 11 (by kernel_rfl) (by kernel_rfl) (.tmp 0) rfl rfl (fun _ _ _ _ h => h) ?_
  simp only [List.take_succ_cons, List.take_zero, List.drop_succ_cons, List.drop_zero]
  simp [Act.put, Act.eval]
  repeat (go_big_quiet_step (fail))
  refine wpQuiet_nil ?_
  obtain ⟨wd, hwd⟩ : ∃ wd, w.drewN 1 = wd := ⟨_, rfl⟩
  have hkv := KV.out 1
  rw [hwd] at hkv
  rw [hwd]
  have HKV := Lib.hid hkv
  have HWD := Lib.hid hwd
  clear hkv hwd q0 q1 q2 q3 f1 f2 f3
  go_wp2_with fail
  refine HKV.out.mono ?_
  rintro e w1 ⟨rfl, hr1, ho1⟩
  have q1 : w1.cell? ⟨D, o + 1, none⟩ = some (.int .u64 (n : Nat)) := hr1.cellv _ (by omega) _ HST.out.2.1
  have q2 : w1.cell? ⟨D, o + 2, none⟩ = some (.int .u64 (val : Nat)) := hr1.cellv _ (by omega) _ HST.out.2.2.1
  have q3 : w1.cell? ⟨D, o + 3, none⟩ = some (.int .u8 (rd : Nat)) := hr1.cellv _ (by omega) _ HST.out.2.2.2
  have f1 : w1.frozen? ⟨D, o + 1, none⟩ = false := hr1.frozen _
  have f2 : w1.frozen? ⟨D, o + 2, none⟩ = false := hr1.frozen _
  have f3 : w1.frozen? ⟨D, o + 3, none⟩ = false := hr1.frozen _
  have HR1 := Lib.hid hr1
  have HO1 := Lib.hid ho1
  clear hr1 ho1
  go_wp2_with fail
  refine bodyPost_end (results_none rfl _ _ _) rfl ?_
  refine ⟨rfl, ?_⟩
  rw [HI.out]
  have hb := HBS.out
  rw [HNL.out, HI.out] at hb
  exact BrIn.put HR1.out HK.out HST.out (HON.out.trans HO1.out) hb
/-- an error of errors.New's make is handed back -/
def ErrE (e : Ending) (w : World) : Prop := ∃ b s, e = .returned (.iface 107 (.pointer (some ⟨b, 0, none⟩))) ∧ w.cell? ⟨b, 0, none⟩ = some (.string s)
theorem errE_of {w w' : World} {e : Ending} (h : ErrPost w e w') : ErrE e w' ∧ Only (fun _ => False) w w' := by
  obtain ⟨b, s, h1, h2, h3, h4, h5⟩ := h
  exact ⟨⟨b, s, h3, h4⟩, Only.of_below h5 (fun k hk _ => hk)⟩
set_option maxRecDepth 100000 in
set_option maxHeartbeats 1600000 in
/-- the reader begins: an error where the stream has no end -/
theorem brInit_bad {w : World} {D N o : Nat} {T : TypeId} {A : Option Addr} {n c : Nat} {l : List UInt8} {f : Nat → Value} (hr : RowF w D T N f) (ho : o + 3 < N) (hs : Sl w D A n c l) (hbad : l = [] ∨ lastB l = 0) :
    Calls Tryf.prog 63 #[.pointer (some ⟨D, o, none⟩), .slice A n c] w fun e w' => ErrE e w' ∧ Only (· = D) w w' := by
  have hnl := hs.len
  by_cases hn0 : n = 0
  · subst hn0
    clear hs hnl
    go_enter Tryf.func63, Tryf.ntmps63
    go_wp2_with fail
    refine (errorsNew_any _ _).mono ?_
    rintro e w1 he
    obtain ⟨⟨b, s, rfl, hc⟩, hon⟩ := errE_of he
    have HC := Lib.hid hc
    have HON := Lib.hid hon
    clear he hc hon
    go_wp2_with fail
    go_ret
    exact ⟨⟨b, s, rfl, HC.out⟩, HON.out.mono (fun _ h => h.elim)⟩
  · have hlb : lastB l = 0 := by
      rcases hbad with h | h
      · rw [h] at hnl; simp at hnl; omega
      · exact h
    obtain ⟨g, o2, rfl, hg, hc⟩ := hs.at_ (by omega)
    have k0 : w.cell? ⟨g, o2 + (n - 1), none⟩ = some (.int .u8 0) := by
      rw [hc (n - 1) (by omega)]
      have h2 : (l[n - 1]'(by omega)).toNat = 0 := by
        unfold lastB at hlb
        rw [hnl, List.getD_eq_getElem?_getD, List.getElem?_eq_getElem (by omega), Option.getD_some] at hlb
        exact hlb
      rw [h2]
      rfl
    have hd1 : decide ((n : Int) < 1) = false := decide_eq_false (by omega)
    have hgD : ¬ g = D := by omega
    have hgD2 : ¬ D = g := by omega
    have e1 : (n : Int) - 1 = ((n - 1 : Nat) : Int) := by omega
    have e2 : wrap64 ((n : Int) - 1) = ((n - 1 : Nat) : Int) := by have := hs.cap; have := hs.most; unfold wrap64; omega
    have hlt : (0 : Int) < (n : Int) := by omega
    have q0 : w.cell? ⟨D, o, none⟩ = some (f o) := hr.cell _ (by omega)
    have q1 : w.cell? ⟨D, o + 1, none⟩ = some (f (o + 1)) := hr.cell _ (by omega)
    have f0 : w.frozen? ⟨D, o, none⟩ = false := hr.frozen _
    have f1 : w.frozen? ⟨D, o + 1, none⟩ = false := hr.frozen _
    have hcc := hs.cap
    have hcm := hs.most
    clear hs hc hbad hlb hr hnl
    go_enter Tryf.func63, Tryf.ntmps63
    go_wp2_with fail
    refine (errorsNew_any _ _).mono ?_
    rintro e w1 he
    obtain ⟨⟨b, s, rfl, hc⟩, hon⟩ := errE_of he
    have HC := Lib.hid hc
    have HON := Lib.hid hon
    clear he hc hon
    go_wp2_with fail
    go_ret
    exact ⟨⟨b, s, rfl, HC.out⟩, (((Only.refl (· = D) w).set_ (p := ⟨D, o, none⟩) rfl _).set_ (p := ⟨D, o + 1, none⟩) rfl _).trans (HON.out.mono (fun _ h => h.elim))⟩
theorem BrIn.putRd {w w0 : World} {D N o : Nat} {T : TypeId} {A : Option Addr} {n c off rd val : Nat} {l : List UInt8} {f0 f : Nat → Value} (hr : RowF w D T N f) (hk : BrKeep o f0 f) (hst : BrSt f o A n c off val rd) (hon : Only (· = D) w0 w) {rd' : Nat} (hb : BrOk l off val rd') :
    BrIn (w.setCell ⟨D, o + 3, none⟩ (.int .u8 (rd' : Nat))) D T N o A n c l f0 off rd' w0 := by
  refine ⟨_, val, hr.set_ (o + 3) _, ?_, ?_, hb, hon.set_ rfl _⟩
  · intro k h1 h2 h3
    rw [updV_ne _ _ _ _ h3]
    exact hk k h1 h2 h3
  · refine ⟨?_, ?_, ?_, ?_⟩
    · rw [updV_ne _ _ _ _ (by omega)]; exact hst.1
    · rw [updV_ne _ _ _ _ (by omega)]; exact hst.2.1
    · rw [updV_ne _ _ _ _ (by omega)]; exact hst.2.2.1
    · rw [updV_same]
set_option maxRecDepth 100000 in
set_option maxHeartbeats 3200000 in
/-- the reader begins: all bits of the stream are left -/
theorem brInit_good {w : World} {D N o : Nat} {T : TypeId} {A : Option Addr} {n c : Nat} {l : List UInt8} {f : Nat → Value} (hr : RowF w D T N f) (ho : o + 3 < N) (hs : Sl w D A n c l) (hn : n ≤ 1000000) (hne : l ≠ []) (hlast : lastB l ≠ 0) :
    Calls Tryf.prog 63 #[.pointer (some ⟨D, o, none⟩), .slice A n c] w fun e w' => e = .returned .nilIface ∧ BrAt w' D T N o A n c l (updV f o (.slice A n c)) (backL l) (fun off rd => rd ≤ 8 ∨ off = 0) w := by
  have hnl := hs.len
  have hn0 : n ≠ 0 := fun h => hne (List.length_eq_zero_iff.1 (by omega))
  obtain ⟨g, o2, rfl, hg, hc⟩ := hs.at_ (by omega)
  obtain ⟨v, hv⟩ : ∃ v, lastB l = v := ⟨_, rfl⟩
  have hv256 : v < 256 := by rw [← hv]; exact UInt8.toNat_lt _
  have k0 : w.cell? ⟨g, o2 + (n - 1), none⟩ = some (.int .u8 (v : Nat)) := by
    have h2 : (l[n - 1]'(by omega)).toNat = v := by
      unfold lastB at hv
      rw [hnl, List.getD_eq_getElem?_getD, List.getElem?_eq_getElem (by omega), Option.getD_some] at hv
      exact hv
    rw [hc (n - 1) (by omega), h2]
  have hd1 : decide ((n : Int) < 1) = false := decide_eq_false (by omega)
  have hgD : ¬ g = D := by omega
  have hgD2 : ¬ D = g := by omega
  have e2 : wrap64 ((n : Int) - 1) = ((n - 1 : Nat) : Int) := by have := hs.cap; have := hs.most; unfold wrap64; omega
  have hlt : (0 : Int) < (n : Int) := by omega
  have hve : ((v : Int) == 0) = false := beq_eq_false_iff_ne.2 (by omega)
  have q0 : w.cell? ⟨D, o, none⟩ = some (f o) := hr.cell _ (by omega)
  have q1 : w.cell? ⟨D, o + 1, none⟩ = some (f (o + 1)) := hr.cell _ (by omega)
  have q2 : w.cell? ⟨D, o + 2, none⟩ = some (f (o + 2)) := hr.cell _ (by omega)
  have q3 : w.cell? ⟨D, o + 3, none⟩ = some (f (o + 3)) := hr.cell _ (by omega)
  have f0 : w.frozen? ⟨D, o, none⟩ = false := hr.frozen _
  have f1 : w.frozen? ⟨D, o + 1, none⟩ = false := hr.frozen _
  have f2 : w.frozen? ⟨D, o + 2, none⟩ = false := hr.frozen _
  have f3 : w.frozen? ⟨D, o + 3, none⟩ = false := hr.frozen _
  have hcc := hs.cap
  have hcm := hs.most
  -- the world in which the filling begins
  obtain ⟨w1, hw1⟩ : ∃ w1, (((w.setCell ⟨D, o, none⟩ (.slice (some ⟨g, o2, none⟩) n c)).setCell ⟨D, o + 1, none⟩ (.int .u64 (n : Nat))).setCell ⟨D, o + 3, none⟩ (.int .u8 64)).setCell ⟨D, o + 2, none⟩ (.int .u64 0) = w1 := ⟨_, rfl⟩
  have hbr : BrIn w1 D T N o (some ⟨g, o2, none⟩) n c l (updV f o (.slice (some ⟨g, o2, none⟩) n c)) n 64 w := by
    rw [← hw1]
    refine ⟨_, 0, (((hr.set_ o _).set_ (o + 1) _).set_ (o + 3) _).set_ (o + 2) _, ?_, ?_, ?_, ((((Only.refl (· = D) w).set_ (p := ⟨D, o, none⟩) rfl _).set_ (p := ⟨D, o + 1, none⟩) rfl _).set_ (p := ⟨D, o + 3, none⟩) rfl _).set_ (p := ⟨D, o + 2, none⟩) rfl _⟩
    · intro k h1 h2 h3
      rw [updV_ne _ _ _ _ h2, updV_ne _ _ _ _ h3, updV_ne _ _ _ _ h1]
    · refine ⟨?_, ?_, ?_, ?_⟩
      · rw [updV_ne _ _ _ _ (by omega), updV_ne _ _ _ _ (by omega), updV_ne _ _ _ _ (by omega), updV_same]
      · rw [updV_ne _ _ _ _ (by omega), updV_ne _ _ _ _ (by omega), updV_same]
      · rw [updV_same]; rfl
      · rw [updV_ne _ _ _ _ (by omega), updV_same]; rfl
    · rw [← hnl]; exact BrOk.empty l
  have hs1 : Sl w1 D (some ⟨g, o2, none⟩) n c l := hs.keep fun b o' hb' => World.cell?_of_block (by obtain ⟨_, _, _, _, _, _, hon⟩ := hbr; exact hon.block b (fun (e : b = D) => by omega) (by have := hr.lt; omega))
  have hDw : D < w.heap.size := hr.lt
  obtain ⟨lv, hlv⟩ : ∃ lv, v.log2 = lv := ⟨_, rfl⟩
  have hlv8 : lv < 8 := by rw [← hlv]; exact (Nat.log2_lt (by omega)).2 (by omega)
  have KH := Lib.hid (fun w0 => highBits_any v w0 (by omega) (by omega) (v : Int) rfl)
  rw [hlv] at KH
  have hback : backL l = 8 * n - (8 - lv) := by unfold backL; rw [hnl, hv, hlv]; omega
  have HBR := Lib.hid hbr
  have HS1 := Lib.hid hs1
  have HS := Lib.hid hs
  have HNL := Lib.hid hnl
  have HN := Lib.hid hn
  have HDW := Lib.hid hDw
  have HBK := Lib.hid hback
  have HW1 := Lib.hid hw1
  clear hs hc hr hnl hv hbr hs1 hw1 hlv hback hDw hne hlast
  by_cases h8 : 8 ≤ n
  · have hd8 : decide ((8 : Int) ≤ (n : Int)) = true := decide_eq_true (by omega)
    have KF := Lib.hid (fillFastStart_any HBR.out ho HS1.out HN.out h8)
    go_enter Tryf.func63, Tryf.ntmps63
    go_wp2_with fail
    rw [HW1.out]
    refine KF.out.mono ?_
    rintro e wf ⟨rfl, hbf⟩
    obtain ⟨ff, val, hr, hk, hst, hb, hon⟩ := hbf
    have q3 : wf.cell? ⟨D, o + 3, none⟩ = some (.int .u8 (0 : Nat)) := hr.cellv _ (by omega) _ hst.2.2.2
    have f3 : wf.frozen? ⟨D, o + 3, none⟩ = false := hr.frozen _
    have hb2 := hb.after (n := 8 - lv) (by omega)
    rw [show 0 + (8 - lv) = 8 - lv by omega] at hb2
    have HR := Lib.hid hr
    have HK := Lib.hid hk
    have HST := Lib.hid hst
    have HON := Lib.hid hon
    have HB := Lib.hid hb2
    clear hr hk hst hon hb hb2
    have hw8 : (8 : Int) - (lv : Int) = ((8 - lv : Nat) : Int) := by omega
    go_wp2_with fail
    refine wp_region_quiet_tail 12 (by kernel_rfl) (by kernel_rfl) ?_
    simp only [List.take_succ_cons, List.take_zero, List.drop_succ_cons, List.drop_zero]
    repeat (go_big_quiet_step (fail))
    go_big_quiet_want
    go_big_quiet_op
    refine ⟨_, (KH.out _).mono (fun _ _ h => ⟨h.1, h.2.symm⟩), ?_⟩
    go_big_quiet_on
    repeat (go_big_quiet_step (fail))
    refine wpQuiet_nil ?_
    go_wp2_with fail
    go_ret
    refine ⟨rfl, n - 8, 8 - lv, BrIn.putRd (HR.out.drewN 1) HK.out HST.out (HON.out.drewN 1) HB.out, ?_, .inl (by omega)⟩
    rw [HBK.out]
    unfold leftB
    omega
  · have hd8 : decide ((8 : Int) ≤ (n : Int)) = false := decide_eq_false (by omega)
    have KF := Lib.hid (fill_first HBR.out ho HS1.out HDW.out HN.out (by omega))
    go_enter Tryf.func63, Tryf.ntmps63
    go_wp2_with fail
    rw [HW1.out]
    refine KF.out.mono ?_
    rintro e wf ⟨rfl, of1, rd1, hb1, hl1, h41, h321⟩
    have hsf : Sl wf D (some ⟨g, o2, none⟩) n c l := HS.out.keep fun b o' hb' => World.cell?_of_block (by obtain ⟨_, _, _, _, _, _, hon⟩ := hb1; exact hon.block b (fun (e : b = D) => by omega) (by have := HDW.out; omega))
    have KG := Lib.hid (fill_small hb1 ho hsf HDW.out HN.out h41 h321)
    rw [hl1] at KG
    clear hb1 hl1 h41 h321 hsf KF
    go_wp2_with fail
    refine KG.out.mono ?_
    rintro e wf2 ⟨rfl, of2, rd2, hbf, hl2, rfl⟩
    have hrd2 : rd2 ≤ 56 := by
      obtain ⟨_, _, _, _, _, hb, _⟩ := hbf
      have := hb.2.1
      unfold leftB at hl2
      omega
    have HL2 := Lib.hid hl2
    have HL3 := Lib.hid hrd2
    clear hl2 hrd2 KG
    obtain ⟨ff, val, hr, hk, hst, hb, hon⟩ := hbf
    have q3 : wf2.cell? ⟨D, o + 3, none⟩ = some (.int .u8 (rd2 : Nat)) := hr.cellv _ (by omega) _ hst.2.2.2
    have f3 : wf2.frozen? ⟨D, o + 3, none⟩ = false := hr.frozen _
    have hrd2 : rd2 ≤ 56 := HL3.out
    obtain ⟨e8, he8⟩ : ∃ e8, 8 - lv = e8 := ⟨_, rfl⟩
    obtain ⟨r3, hr3⟩ : ∃ r3, rd2 + e8 = r3 := ⟨_, rfl⟩
    have hb2 := hb.after (n := e8) (by omega)
    rw [hr3] at hb2
    have hr364 : r3 ≤ 64 := by omega
    have hw8 : (8 : Int) - (lv : Int) = (e8 : Int) := by omega
    have hrw8 : (rd2 : Int) + (e8 : Int) = (r3 : Int) := by omega
    have HE8 := Lib.hid he8
    have HR3 := Lib.hid hr3
    clear he8 hr3
    have HR := Lib.hid hr
    have HK := Lib.hid hk
    have HST := Lib.hid hst
    have HON := Lib.hid hon
    have HB := Lib.hid hb2
    clear hr hk hst hon hb hb2
    go_wp2_with fail
    refine wp_region_quiet_tail 12 (by kernel_rfl) (by kernel_rfl) ?_
    simp only [List.take_succ_cons, List.take_zero, List.drop_succ_cons, List.drop_zero]
    repeat (go_big_quiet_step (fail))
    go_big_quiet_want
    go_big_quiet_op
    refine ⟨_, (KH.out _).mono (fun _ _ h => ⟨h.1, h.2.symm⟩), ?_⟩
    go_big_quiet_on
    repeat (go_big_quiet_step (fail))
    refine wpQuiet_nil ?_
    go_wp2_with fail
    go_ret
    refine ⟨rfl, 0, r3, BrIn.putRd (HR.out.drewN 1) HK.out HST.out (HON.out.drewN 1) HB.out, ?_, .inr rfl⟩
    rw [HBK.out]
    have := HL2.out
    have := HE8.out
    have := HR3.out
    unfold leftB at *
    omega
end Go.Proofs.YthkklojjpgjiiaaFmt
