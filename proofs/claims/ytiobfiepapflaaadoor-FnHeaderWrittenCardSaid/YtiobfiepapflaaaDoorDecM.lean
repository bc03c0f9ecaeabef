/-
  (*zstd.Header).DecodeAndStrip behind the magic number of a frame. Conditions: those of each.
-/
import Derived.Test.YtiobfiepapflaaaDoorDec
import Derived.Test.YtiobfiepapflaaaDoorStrs
import Derived.Test.YtiobfiepapflaaaDoorHdPlain
import Derived.Test.YtiobfiepapflaaaDoorQtail
import Derived.Outline
import Derived.Deep.CutRange
import Derived.Deep.CutBlock
namespace Go.Proofs.YtiobfiepapflaaaDoor
open Go.RowKit

/-- where the walk stands: p bytes are read, the header holds R -/
def DS (w : World) (D : Nat) (l : List UInt8) (p : Nat) (R : Array Value) (v : Value) (wx : World) : Prop :=
  p ≤ l.length ∧ ∃ A c, v = .slice A (l.length - p) c ∧ Sl wx D A (l.length - p) c (l.drop p) ∧ Hid (wx.heap[D]? = some (.cells R 46 (0, 0))) ∧ Below D w wx
theorem row_set {w : World} {D i : Nat} {R : Array Value} {v : Value} (h : Hid (w.heap[D]? = some (.cells R 46 (0, 0)))) : Hid ((w.setCell ⟨D, i, none⟩ v).heap[D]? = some (.cells (R.setIfInBounds i v) 46 (0, 0))) :=
  Lib.hid (by simp [World.setCell, Array.getElem?_modify, h.out])
theorem below_set {w w' : World} {D i : Nat} (h : Below D w w') (v : Value) : Below D w (w'.setCell ⟨D, i, none⟩ v) := h.setCell (p := ⟨D, i, none⟩) (Nat.le_refl D) v
theorem below_drew {w w' : World} {D : Nat} (h : Below D w w') (n : Nat) : Below D w (w'.drewN n) := ⟨h.os, h.tape, h.output, h.size, h.block⟩
theorem row_drew {w : World} {D n : Nat} {R : Array Value} (h : Hid (w.heap[D]? = some (.cells R 46 (0, 0)))) : Hid ((w.drewN n).heap[D]? = some (.cells R 46 (0, 0))) := Lib.hid h.out

theorem take_1 (l : List UInt8) (h : 1 ≤ l.length) : l.take 1 = [l[0]] := by
  match l, h with
  | b0 :: _, _ => rfl
theorem take_3 (l : List UInt8) (h : 3 ≤ l.length) : l.take 3 = [l[0], l[1], l[2]] := by
  match l, h with
  | b0 :: b1 :: b2 :: _, _ => rfl
theorem take_8 (l : List UInt8) (h : 8 ≤ l.length) : l.take 8 = [l[0], l[1], l[2], l[3], l[4], l[5], l[6], l[7]] := by
  match l, h with
  | b0 :: b1 :: b2 :: b3 :: b4 :: b5 :: b6 :: b7 :: _, _ => rfl
theorem or2_u32 (a b : Nat) (ha : a < 256) (hb : b < 256) : bits .or .u32 (a : Int) ((b : Int) * 256) = (a : Int) + (b : Int) * 256 := u32_or8 _ _ (by omega) (by omega) (by omega) (by omega) (by omega)
theorem or3_u32 (a b c : Nat) (ha : a < 256) (hb : b < 256) (hc : c < 256) : bits .or .u32 (bits .or .u32 (a : Int) ((b : Int) * 256)) ((c : Int) * 65536) = (a : Int) + (b : Int) * 256 + (c : Int) * 65536 := by
  rw [or2_u32 a b ha hb]
  exact u32_or16 _ _ (by omega) (by omega) (by omega) (by omega) (by omega)
theorem or4_u32 (a b c d : Nat) (ha : a < 256) (hb : b < 256) (hc : c < 256) (hd : d < 256) : bits .or .u32 (bits .or .u32 (bits .or .u32 (a : Int) ((b : Int) * 256)) ((c : Int) * 65536)) ((d : Int) * 16777216) = (a : Int) + (b : Int) * 256 + (c : Int) * 65536 + (d : Int) * 16777216 := by
  rw [or3_u32 a b c ha hb hc]
  exact u32_or24 _ _ (by omega) (by omega) (by omega) (by omega) (by omega)
theorem or2_u64 (a b : Nat) (ha : a < 256) (hb : b < 256) : bits .or .u64 (a : Int) ((b : Int) * 256) = (a : Int) + (b : Int) * 256 := u64_or8 _ _ (by omega) (by omega) (by omega) (by omega) (by omega)
theorem or3_u64 (a b c : Nat) (ha : a < 256) (hb : b < 256) (hc : c < 256) : bits .or .u64 (bits .or .u64 (a : Int) ((b : Int) * 256)) ((c : Int) * 65536) = (a : Int) + (b : Int) * 256 + (c : Int) * 65536 := by
  rw [or2_u64 a b ha hb]
  exact u64_or16 _ _ (by omega) (by omega) (by omega) (by omega) (by omega)
theorem or4_u64 (a b c d : Nat) (ha : a < 256) (hb : b < 256) (hc : c < 256) (hd : d < 256) : bits .or .u64 (bits .or .u64 (bits .or .u64 (a : Int) ((b : Int) * 256)) ((c : Int) * 65536)) ((d : Int) * 16777216) = (a : Int) + (b : Int) * 256 + (c : Int) * 65536 + (d : Int) * 16777216 := by
  rw [or3_u64 a b c ha hb hc]
  exact u64_or24 _ _ (by omega) (by omega) (by omega) (by omega) (by omega)
theorem u32_and1 (n : Nat) (h : n < 4294967296) : bits .and .u32 (n : Int) 1 = ((n % 2 : Nat) : Int) := by
  have := u32_and_nat n 1 h (by omega)
  rw [Nat.and_one_is_mod] at this
  exact_mod_cast this
theorem u32_and3 (n : Nat) (h : n < 4294967296) : bits .and .u32 (n : Int) 3 = ((n % 4 : Nat) : Int) := by
  have := u32_and_nat n 3 h (by omega)
  rw [show n &&& 3 = n % 4 from Nat.and_two_pow_sub_one_eq_mod n 2] at this
  exact_mod_cast this
theorem take_2 (l : List UInt8) (h : 2 ≤ l.length) : l.take 2 = [l[0], l[1]] := by
  match l, h with
  | b0 :: b1 :: _, _ => rfl
theorem DS.mk {w wx : World} {D n c p : Nat} {A : Option Addr} {l l' : List UInt8} {R : Array Value} (hp : p ≤ l.length) (hs : Sl wx D A n c l') (hn : n = l.length - p) (hl : l' = l.drop p) (hd : Hid (wx.heap[D]? = some (.cells R 46 (0, 0)))) (hb : Below D w wx) : DS w D l p R (.slice A n c) wx := by
  subst hn hl
  exact ⟨hp, A, c, rfl, hs, hd, hb⟩
/-- what the header of the first block says -/
def blkOf (l : List UInt8) : Bool × Bool × Bool × Int × Int :=
  if l.length < 3 then (false, false, false, 0, 0)
  else if Lib.leNat (l.take 3) / 2 % 4 = 3 then (false, decide (Lib.leNat (l.take 3) % 2 = 1), false, 0, 0)
  else if Lib.leNat (l.take 3) / 2 % 4 = 1 then (true, decide (Lib.leNat (l.take 3) % 2 = 1), true, (Lib.leNat (l.take 3) / 8 : Nat), 1)
  else if Lib.leNat (l.take 3) / 2 % 4 = 2 then (true, decide (Lib.leNat (l.take 3) % 2 = 1), true, 0, (Lib.leNat (l.take 3) / 8 : Nat))
  else (true, decide (Lib.leNat (l.take 3) % 2 = 1), false, (Lib.leNat (l.take 3) / 8 : Nat), (Lib.leNat (l.take 3) / 8 : Nat))
def zhB (s : Bool) (win dict : Int) (has : Bool) (size hs : Int) (ck : Bool) (b : Bool × Bool × Bool × Int × Int) : Array Value := zhA s win dict has size false 0 0 hs b.1 b.2.1 b.2.2.1 b.2.2.2.1 b.2.2.2.2 ck
/-- how the call ends: the header's p bytes are there, or they are not -/
def DecRes (w : World) (D : Nat) (l : List UInt8) (p : Nat) (R : Array Value) (E : Value) (e : Ending) (w' : World) : Prop :=
  (p ≤ l.length ∧ ∃ A c, e = .returned (.tuple #[.slice A (l.length - p) c, .nilIface]) ∧ w'.heap[D]? = some (.cells R 46 (0, 0)) ∧ Below D w w') ∨
  (l.length < p ∧ e = .returned (.tuple #[.slice none 0 0, E]) ∧ Below D w w')
def p1 (S : Bool) : Nat := if S then 5 else 6
def win1 (S : Bool) (b : Nat) : Int := if S then 0 else winV b

set_option maxRecDepth 100000 in
set_option maxHeartbeats 3200000 in
theorem dec_main (D : Nat) (A : Option Addr) (n c : Nat) (l : List UInt8) (w : World) (E : Value) (old : Array Value) (hold : old.size = 15) (hd : w.heap[D]? = some (.cells old 46 (0, 0))) (hs : Sl w D A n c l) (h5 : 5 ≤ n) (hM : Lib.leNat (l.take 4) = 4247762216) (hD : 1 < D) (hE : w.cell? ⟨0, 0, none⟩ = some E)
    (F : Nat) (hF : l.getD 4 0 = UInt8.ofNat F) (hF1 : F < 256) (h8 : bits .and .u8 (F : Int) 8 = 0) (S K : Bool) (h32 : (bits .and .u8 (F : Int) 32 != 0) = S) (h4 : (bits .and .u8 (F : Int) 4 != 0) = K) (d v : Nat) (h3 : bits .and .u8 (F : Int) 3 = d) (h64 : (F : Int) / 64 = v) (hd4 : d < 4) (hv4 : v < 4) (dn sz : Nat) (hdn : dn = [0, 1, 2, 4].getD d 0) (hsz : sz = [if S then 1 else 0, 2, 4, 8].getD v 0) :
    Calls Tryd.prog 15 #[.pointer (some ⟨D, 0, none⟩), .slice A n c] w fun e w' => DecRes w D l (p1 S + dn + sz) (zhB S (win1 S (l.getD 5 0).toNat) (Lib.leNat ((l.drop (p1 S)).take dn)) (decide (0 < sz)) (sV sz (Lib.leNat ((l.drop (p1 S + dn)).take sz))) (p1 S + dn + sz : Nat) K (blkOf (l.drop (p1 S + dn + sz)))) E e w' := by
  suffices main : ∀ PP : Ending → World → Prop, (∀ e w', DecRes w D l (p1 S + dn + sz) (zhB S (win1 S (l.getD 5 0).toNat) (Lib.leNat ((l.drop (p1 S)).take dn)) (decide (0 < sz)) (sV sz (Lib.leNat ((l.drop (p1 S + dn)).take sz))) (p1 S + dn + sz : Nat) K (blkOf (l.drop (p1 S + dn + sz)))) E e w' → PP e w') → Calls Tryd.prog 15 #[.pointer (some ⟨D, 0, none⟩), .slice A n c] w PP from main _ fun _ _ h => h
  intro PP hPP
  have HPP := Lib.hid hPP
  clear hPP
  obtain rfl := hs.len
  have h4i : decide ((l.length : Int) < 4) = false := by simp; omega
  have h4j : (4 : Int) ≤ (l.length : Int) := by omega
  have hm := hs.most
  have hcc := hs.cap
  have h4c : (4 : Int) ≤ (c : Int) := by omega
  obtain ⟨g, o, rfl, hgD, hcell⟩ := hs.at_ (by omega)
  have hSl4 := hs.next 4 (by omega)
  rw [if_neg (by omega)] at hSl4
  have hSl5 := hSl4.next 1 (by omega)
  obtain ⟨A5, hA5⟩ : ∃ A5, (if c - 4 = 1 then some (⟨g, o + 4, none⟩ : Addr) else some ⟨g, o + 4 + 1, none⟩) = A5 := ⟨_, rfl⟩
  rw [hA5] at hSl5
  have HS5 := Lib.hid hSl5
  have HS4 := Lib.hid hSl4
  have HD := Lib.hid hd
  have HE := Lib.hid hE
  have HC := Lib.hid hcell
  have HM := Lib.hid hM
  have HF := Lib.hid hF
  have H8 := Lib.hid h8
  have H32 := Lib.hid h32
  have H4 := Lib.hid h4
  have H3 := Lib.hid h3
  have H64 := Lib.hid h64
  have HDN := Lib.hid hdn
  have HSZ := Lib.hid hsz
  clear hdn hsz hd hE hcell hM hF h8 h32 h4 h3 h64 hSl4 hSl5
  go_enter Tryd.func15, Tryd.ntmps15
  go_wp2_with (refine wpList_store_all (by rfl) 46 (.tmp 23) (.tmp 22) (by rfl) D zhZ (by rfl) (by rfl) 46 old HD size46 hold (zhA_one ..) D (Nat.le_refl _) ?_; intro w2 HD2 hb2 HO2; have k8 := cell_of_row w2 D 8 _ 46 (0, 0) HD2.out; have f8 := frozen_of_row w2 D 8 _ 46 HD2.out)
  go_quiet (fail)
  have HD3 := row_drew (n := nq) (row_set (i := 8) (v := .int .i64 4) HD2)
  have hb3 := below_drew (below_set (i := 8) hb2 (.int .i64 4)) nq
  obtain ⟨w3, hw3⟩ : ∃ w3, (w2.setCell ⟨D, 8, none⟩ (.int .i64 4)).drewN nq = w3 := ⟨_, rfl⟩
  rw [hw3] at HD3 hb3 ⊢
  clear hw3 nq k8 f8
  obtain ⟨S4, hS4⟩ : ∃ S4, strOfNums ((l.take 4).map fun x => (x.toNat : Int)) = S4 := ⟨_, rfl⟩
  have hS4l : S4.toList = [40, 181, 47, 253] := by rw [← hS4, strOf_list]; exact magic_list l (by omega) HM.out
  have kc := run_convert_bytes_arg (P := Tryd.prog) (w := w3) 22 5 Tryd.underlying22 Tryd.underlying5 g o 4 c ((l.take 4).map fun x => (x.toNat : Int)) (by simp; omega) (fun i hi => by
    rw [(hb3.cell (p := ⟨g, o + i, none⟩) hgD).trans (HC.out i (by omega))]
    simp [List.getD_eq_getElem?_getD, List.getElem?_take_of_lt hi, show i < l.length by omega]) 9 Tryd.underlying9
  rw [hS4] at kc
  clear hS4
  have hmb : (S4.toList == [40, 181, 47, 253]) = true := by rw [hS4l]; rfl
  have hme := Lib.hid hS4l
  clear hS4l
  have hF' := HF.out
  have hFc : w3.cell? ⟨g, o + 4, none⟩ = some (.int .u8 (F : Int)) := by
    rw [(hb3.cell (p := ⟨g, o + 4, none⟩) hgD).trans (HC.out 4 (by omega))]
    have e : l[4] = UInt8.ofNat F := by rw [← hF']; simp [List.getD_eq_getElem?_getD, List.getElem?_eq_getElem (show 4 < l.length by omega)]
    rw [e]
    simp [UInt8.toNat_ofNat']
    omega
  clear hF'
  have h1l : decide (((l.length - 4 : Nat) : Int) < 1) = false := by simp; omega
  have h1i : (1 : Int) ≤ ((l.length - 4 : Nat) : Int) := by omega
  have h1c : (1 : Int) ≤ ((c - 4 : Nat) : Int) := by omega
  have k8 := cell_of_row w3 D 8 _ 46 (0, 0) HD3.out
  have f8 := frozen_of_row w3 D 8 _ 46 HD3.out
  have k0 := cell_of_row w3 D 0 _ 46 (0, 0) HD3.out
  have f0 := frozen_of_row w3 D 0 _ 46 HD3.out
  have k14 := cell_of_row w3 D 14 _ 46 (0, 0) HD3.out
  have f14 := frozen_of_row w3 D 14 _ 46 HD3.out
  have h32 := H32.out
  have h4' := H4.out
  have h8' := H8.out
  go_wp2_with fail
  go_quiet (fail)
  go_upto_if 120 with fail
  have HD4 := row_set (i := 14) (v := .bool K) (row_set (i := 0) (v := .bool S) (row_set (i := 8) (v := .int .i64 5) (row_drew (n := nq) HD3)))
  have hb4 := below_set (i := 14) (below_set (i := 0) (below_set (i := 8) (below_drew hb3 nq) (.int .i64 5)) (.bool S)) (.bool K)
  obtain ⟨w4, hw4⟩ : ∃ w4, (((w3.drewN nq).setCell ⟨D, 8, none⟩ (.int .i64 5)).setCell ⟨D, 0, none⟩ (.bool S)).setCell ⟨D, 14, none⟩ (.bool K) = w4 := ⟨_, rfl⟩
  rw [hw4] at HD4 hb4 ⊢
  have HD4' : Hid (w4.heap[D]? = some (.cells (zhA S 0 0 false 0 false 0 0 5 false false false 0 0 K) 46 (0, 0))) := HD4
  clear hw4 nq k8 f8 k0 f0 k14 f14 HD3 hb3 hFc kc HD4 hA5
  obtain ⟨c5, hc5e⟩ : ∃ c5, c - 4 - 1 = c5 := ⟨_, rfl⟩
  have hcc5 := HS5.out.cap
  rw [hc5e] at HS5 hcc5 ⊢
  clear hc5e
  go_cut [1] from 121 to 121 (fun v1 wx => DS w D l (p1 S) (zhA S (win1 S (l.getD 5 0).toNat) 0 false 0 false 0 0 (p1 S : Nat) false false false 0 0 K) v1 wx)
  case first =>
    have hE4 := (hb4.cell (p := ⟨0, 0, none⟩) (by show 0 < D; omega)).trans HE.out
    have hSl5 := HS5.out.below hb4
    cases S
    · by_cases h6 : l.length < 6
      · as_aux_lemma =>
          have h6i : decide (((l.length - 4 - 1 : Nat) : Int) < 1) = true := by simp; omega
          have h6j : ((l.length - 4 - 1 : Nat) : Int) < 1 := by omega
          clear hSl5
          go_wp2_with fail
          go_quiet (fail)
          go_wp2_with fail
          exact HPP.out _ _ (.inr ⟨by simp [p1]; omega, rfl, below_drew hb4 _⟩)
      · as_aux_lemma =>
          have h6i : decide (((l.length - 4 - 1 : Nat) : Int) < 1) = false := by simp; omega
          have h6j : (1 : Int) ≤ ((l.length - 4 - 1 : Nat) : Int) := by omega
          have h6c : (1 : Int) ≤ (c5 : Int) := by omega
          obtain ⟨g5, o5, rfl, hg5, hc5⟩ := hSl5.at_ (by omega)
          have hSl6 := hSl5.next 1 (by omega)
          obtain ⟨A6, hA6⟩ : ∃ A6, (if c5 = 1 then some (⟨g5, o5, none⟩ : Addr) else some ⟨g5, o5 + 1, none⟩) = A6 := ⟨_, rfl⟩
          rw [hA6] at hSl6
          have HSl6 := Lib.hid hSl6
          have hcb := hc5 0 (by simp; omega)
          have eb : (((l.drop 4).drop 1)[0]'(by simp; omega)) = l.getD 5 0 := by simp [List.getD_eq_getElem?_getD, List.getElem?_eq_getElem (show 5 < l.length by omega)]
          rw [eb, show o5 + 0 = o5 from rfl] at hcb
          have hbl := (l.getD 5 0).toNat_lt
          obtain ⟨b, hbe⟩ : ∃ b, (l.getD 5 0).toNat = b := ⟨_, rfl⟩
          rw [hbe] at hcb hbl
          have HB := Lib.hid hbe
          clear hbe
          have hbi : (b : Int) < 256 := by omega
          have k8 := cell_of_row w4 D 8 _ 46 (0, 0) HD4'.out
          have f8 := frozen_of_row w4 D 8 _ 46 HD4'.out
          have k1 := cell_of_row w4 D 1 _ 46 (0, 0) HD4'.out
          have f1 := frozen_of_row w4 D 1 _ 46 HD4'.out
          clear hc5 eb hSl5 hSl6
          go_wp2_with fail
          go_quiet (fail)
          go_wp2_with fail
          go_meet
          rw [HB.out]
          refine DS.mk (by simp [p1]; omega) (((HSl6.out.drewN nq).setCell (p := ⟨D, 8, none⟩) (Nat.le_refl D) _).setCell (p := ⟨D, 1, none⟩) (Nat.le_refl D) _) (by simp [p1]; omega) (by simp [p1]) (row_set (row_set (row_drew HD4'))) (below_set (below_set (below_drew hb4 _) _) _)
    · as_aux_lemma =>
        go_wp2_with fail
        go_meet
        exact DS.mk (by simp [p1]; omega) hSl5 (by simp [p1]; omega) (by simp [p1]) HD4' hb4
  case rest =>
  clear hb4 HD4'
  obtain ⟨hp1, A1, c1, rfl, hs1, HD1, hb1⟩ := hcut
  obtain ⟨w1, hw1⟩ : ∃ w1, w1 = wc := ⟨_, rfl⟩
  subst hw1
  obtain ⟨q1, hq1⟩ : ∃ q1, p1 S = q1 := ⟨_, rfl⟩
  have hq1b : 5 ≤ q1 ∧ q1 ≤ 6 := by rw [← hq1]; cases S <;> simp [p1]
  rw [hq1] at hp1 hs1 HD1 ⊢
  obtain ⟨W1, hW1⟩ : ∃ W1, win1 S (l.getD 5 0).toNat = W1 := ⟨_, rfl⟩
  rw [hW1] at HD1
  have HQ1 := Lib.hid hq1
  have HW1 := Lib.hid hW1
  clear hq1 hW1
  have h3' := H3.out
  go_upto_if 157 with fail
  clear h3'
  obtain ⟨n1, hn1⟩ : ∃ n1, l.length - q1 = n1 := ⟨_, rfl⟩
  rw [hn1] at hs1 ⊢
  have hcc1 := hs1.cap
  have hm1 := hs1.most
  have HN1 := Lib.hid hn1
  clear hn1
  go_cut [1] from 158 to 158 (fun v1 wx => DS w D l (q1 + dn) (zhA S W1 (Lib.leNat ((l.drop q1).take dn)) false 0 false 0 0 (q1 + dn : Nat) false false false 0 0 K) v1 wx)
  case first =>
    have hE1 := (hb1.cell (p := ⟨0, 0, none⟩) (by show 0 < D; omega)).trans HE.out
    have HS1 := Lib.hid hs1
    clear hs1
    rcases (show d = 0 ∨ d = 1 ∨ d = 2 ∨ d = 3 by omega) with rfl | rfl | rfl | rfl
    · obtain rfl : dn = 0 := HDN.out
      go_wp2_with fail
      go_meet
      exact DS.mk (by omega) HS1.out (by have := HN1.out; omega) (by simp) HD1 hb1
    · obtain rfl : dn = 1 := HDN.out
      as_aux_lemma =>
        by_cases hsh : n1 < 1
        · have hi : decide ((n1 : Int) < 1) = true := by simp; omega
          have hj : (n1 : Int) < 1 := by omega
          go_wp2_with fail
          go_quiet (fail)
          go_wp2_with fail
          have := HN1.out
          exact HPP.out _ _ (.inr ⟨by rw [HQ1.out]; omega, rfl, below_drew hb1 _⟩)
        · have hi : decide ((n1 : Int) < 1) = false := by simp; omega
          have hj : (1 : Int) ≤ (n1 : Int) := by omega
          have hjc : (1 : Int) ≤ (c1 : Int) := by omega
          obtain ⟨g1, o1, rfl, hg1, hce⟩ := HS1.out.at_ (by omega)
          have hl1 := HS1.out.len
          have hSl2 := HS1.out.next 1 (by omega)
          obtain ⟨A2, hA2⟩ : ∃ A2, (if c1 = 1 then some (⟨g1, o1, none⟩ : Addr) else some ⟨g1, o1 + 1, none⟩) = A2 := ⟨_, rfl⟩
          rw [hA2] at hSl2
          have HSl2 := Lib.hid hSl2
          have e0 := hce 0 (by omega)
          obtain ⟨b0, hb0x⟩ : ∃ b, (l.drop q1)[0] = b := ⟨_, rfl⟩
          rw [hb0x, Nat.add_zero] at e0
          have x0 := b0.toNat_lt
          have y0 : (b0.toNat : Int) < 256 := by omega
          obtain ⟨X, hX⟩ : ∃ X, Lib.leNat ((l.drop q1).take 1) = X := ⟨_, rfl⟩
          have hk : X = b0.toNat := by rw [← hX, take_1 _ (by omega), hb0x]; simp [Lib.leNat] <;> omega
          have hor : (b0.toNat : Int) = (X : Int) := by omega
          have HX := Lib.hid hX
          have HOR := Lib.hid hor
          have k8 := cell_of_row w1 D 8 _ 46 (0, 0) HD1.out
          have f8 := frozen_of_row w1 D 8 _ 46 HD1.out
          have k2 := cell_of_row w1 D 2 _ 46 (0, 0) HD1.out
          have f2 := frozen_of_row w1 D 2 _ 46 HD1.out
          clear hce hk hX hSl2 hb0x x0 hor
          go_wp2_with fail
          go_quiet (fail)
          go_wp2_with fail
          go_meet
          rw [HX.out, ← HOR.out]
          exact DS.mk (by have := HN1.out; omega) (((HSl2.out.drewN _).setCell (p := ⟨D, 8, none⟩) (Nat.le_refl D) _).setCell (p := ⟨D, 2, none⟩) (Nat.le_refl D) _) (by have := HN1.out; omega) (by rw [List.drop_drop]) (row_set (row_set (row_drew HD1))) (below_set (below_set (below_drew hb1 _) _) _)
    · obtain rfl : dn = 2 := HDN.out
      as_aux_lemma =>
        by_cases hsh : n1 < 2
        · have hi : decide ((n1 : Int) < 2) = true := by simp; omega
          have hj : (n1 : Int) < 2 := by omega
          go_wp2_with fail
          go_quiet (fail)
          go_wp2_with fail
          have := HN1.out
          exact HPP.out _ _ (.inr ⟨by rw [HQ1.out]; omega, rfl, below_drew hb1 _⟩)
        · have hi : decide ((n1 : Int) < 2) = false := by simp; omega
          have hj : (2 : Int) ≤ (n1 : Int) := by omega
          have hjc : (2 : Int) ≤ (c1 : Int) := by omega
          obtain ⟨g1, o1, rfl, hg1, hce⟩ := HS1.out.at_ (by omega)
          have hl1 := HS1.out.len
          have hSl2 := HS1.out.next 2 (by omega)
          obtain ⟨A2, hA2⟩ : ∃ A2, (if c1 = 2 then some (⟨g1, o1, none⟩ : Addr) else some ⟨g1, o1 + 2, none⟩) = A2 := ⟨_, rfl⟩
          rw [hA2] at hSl2
          have HSl2 := Lib.hid hSl2
          have e0 := hce 0 (by omega)
          obtain ⟨b0, hb0x⟩ : ∃ b, (l.drop q1)[0] = b := ⟨_, rfl⟩
          rw [hb0x, Nat.add_zero] at e0
          have x0 := b0.toNat_lt
          have y0 : (b0.toNat : Int) < 256 := by omega
          have e1 := hce 1 (by omega)
          obtain ⟨b1, hb1x⟩ : ∃ b, (l.drop q1)[1] = b := ⟨_, rfl⟩
          rw [hb1x] at e1
          have x1 := b1.toNat_lt
          have y1 : (b1.toNat : Int) < 256 := by omega
          obtain ⟨X, hX⟩ : ∃ X, Lib.leNat ((l.drop q1).take 2) = X := ⟨_, rfl⟩
          have hk : X = b0.toNat + 256 * b1.toNat := by rw [← hX, take_2 _ (by omega), hb0x, hb1x]; simp [Lib.leNat] <;> omega
          have hor : bits .or .u32 ((b0.toNat : Int)) ((b1.toNat : Int) * 256) = (X : Int) := by rw [or2_u32 _ _ x0 x1]; omega
          have HX := Lib.hid hX
          have k8 := cell_of_row w1 D 8 _ 46 (0, 0) HD1.out
          have f8 := frozen_of_row w1 D 8 _ 46 HD1.out
          have k2 := cell_of_row w1 D 2 _ 46 (0, 0) HD1.out
          have f2 := frozen_of_row w1 D 2 _ 46 HD1.out
          clear hce hk hX hSl2 hb0x hb1x x0 x1
          go_wp2_with fail
          go_quiet (fail)
          go_wp2_with fail
          refine wp_region_quiet_tail 13 (by kernel_rfl) (by kernel_rfl) ?_
          simp only [List.take_succ_cons, List.take_zero, List.drop_succ_cons, List.drop_zero]
          repeat (go_big_quiet_step (fail))
          refine wpQuiet_nil ?_
          go_wp2_with fail
          go_meet
          rw [HX.out]
          exact DS.mk (by have := HN1.out; omega) ((((HSl2.out.drewN _).setCell (p := ⟨D, 8, none⟩) (Nat.le_refl D) _).drewN _).setCell (p := ⟨D, 2, none⟩) (Nat.le_refl D) _) (by have := HN1.out; omega) (by rw [List.drop_drop]) (row_set (row_drew (row_set (row_drew HD1)))) (below_set (below_drew (below_set (below_drew hb1 _) _) _) _)
    · obtain rfl : dn = 4 := HDN.out
      as_aux_lemma =>
        by_cases hsh : n1 < 4
        · have hi : decide ((n1 : Int) < 4) = true := by simp; omega
          have hj : (n1 : Int) < 4 := by omega
          go_wp2_with fail
          go_quiet (fail)
          go_wp2_with fail
          have := HN1.out
          exact HPP.out _ _ (.inr ⟨by rw [HQ1.out]; omega, rfl, below_drew hb1 _⟩)
        · have hi : decide ((n1 : Int) < 4) = false := by simp; omega
          have hj : (4 : Int) ≤ (n1 : Int) := by omega
          have hjc : (4 : Int) ≤ (c1 : Int) := by omega
          obtain ⟨g1, o1, rfl, hg1, hce⟩ := HS1.out.at_ (by omega)
          have hl1 := HS1.out.len
          have hSl2 := HS1.out.next 4 (by omega)
          obtain ⟨A2, hA2⟩ : ∃ A2, (if c1 = 4 then some (⟨g1, o1, none⟩ : Addr) else some ⟨g1, o1 + 4, none⟩) = A2 := ⟨_, rfl⟩
          rw [hA2] at hSl2
          have HSl2 := Lib.hid hSl2
          have e0 := hce 0 (by omega)
          obtain ⟨b0, hb0x⟩ : ∃ b, (l.drop q1)[0] = b := ⟨_, rfl⟩
          rw [hb0x, Nat.add_zero] at e0
          have x0 := b0.toNat_lt
          have y0 : (b0.toNat : Int) < 256 := by omega
          have e1 := hce 1 (by omega)
          obtain ⟨b1, hb1x⟩ : ∃ b, (l.drop q1)[1] = b := ⟨_, rfl⟩
          rw [hb1x] at e1
          have x1 := b1.toNat_lt
          have y1 : (b1.toNat : Int) < 256 := by omega
          have e2 := hce 2 (by omega)
          obtain ⟨b2, hb2x⟩ : ∃ b, (l.drop q1)[2] = b := ⟨_, rfl⟩
          rw [hb2x] at e2
          have x2 := b2.toNat_lt
          have y2 : (b2.toNat : Int) < 256 := by omega
          have e3 := hce 3 (by omega)
          obtain ⟨b3, hb3x⟩ : ∃ b, (l.drop q1)[3] = b := ⟨_, rfl⟩
          rw [hb3x] at e3
          have x3 := b3.toNat_lt
          have y3 : (b3.toNat : Int) < 256 := by omega
          obtain ⟨X, hX⟩ : ∃ X, Lib.leNat ((l.drop q1).take 4) = X := ⟨_, rfl⟩
          have hk : X = b0.toNat + 256 * b1.toNat + 65536 * b2.toNat + 16777216 * b3.toNat := by rw [← hX, take_4 _ (by omega), hb0x, hb1x, hb2x, hb3x]; simp [Lib.leNat] <;> omega
          have hor : bits .or .u32 (bits .or .u32 (bits .or .u32 ((b0.toNat : Int)) ((b1.toNat : Int) * 256)) ((b2.toNat : Int) * 65536)) ((b3.toNat : Int) * 16777216) = (X : Int) := by rw [or4_u32 _ _ _ _ x0 x1 x2 x3]; omega
          have HX := Lib.hid hX
          have k8 := cell_of_row w1 D 8 _ 46 (0, 0) HD1.out
          have f8 := frozen_of_row w1 D 8 _ 46 HD1.out
          have k2 := cell_of_row w1 D 2 _ 46 (0, 0) HD1.out
          have f2 := frozen_of_row w1 D 2 _ 46 HD1.out
          clear hce hk hX hSl2 hb0x hb1x hb2x hb3x x0 x1 x2 x3
          go_wp2_with fail
          go_quiet (fail)
          go_wp2_with fail
          refine wp_region_quiet_tail 25 (by kernel_rfl) (by kernel_rfl) ?_
          simp only [List.take_succ_cons, List.take_zero, List.drop_succ_cons, List.drop_zero]
          repeat (go_big_quiet_step (fail))
          refine wpQuiet_nil ?_
          go_wp2_with fail
          go_meet
          rw [HX.out]
          exact DS.mk (by have := HN1.out; omega) ((((HSl2.out.drewN _).setCell (p := ⟨D, 8, none⟩) (Nat.le_refl D) _).drewN _).setCell (p := ⟨D, 2, none⟩) (Nat.le_refl D) _) (by have := HN1.out; omega) (by rw [List.drop_drop]) (row_set (row_drew (row_set (row_drew HD1)))) (below_set (below_drew (below_set (below_drew hb1 _) _) _) _)
  case rest =>
  clear hb1 HD1
  obtain ⟨hp2, A2, c2, rfl, hs2, HD2', hb2'⟩ := hcut
  obtain ⟨w2', hw2'⟩ : ∃ w2', w2' = wc := ⟨_, rfl⟩
  subst hw2'
  clear HD2 hb2
  have HD2 := HD2'
  have hb2 := hb2'
  clear HD2' hb2'
  obtain ⟨q2, hq2⟩ : ∃ q2, q1 + dn = q2 := ⟨_, rfl⟩
  rw [hq2] at hp2 hs2 HD2 ⊢
  obtain ⟨W2, hW2⟩ : ∃ W2 : Nat, Lib.leNat ((l.drop q1).take dn) = W2 := ⟨_, rfl⟩
  rw [hW2] at HD2
  have hq2b : q2 ≤ 10 := by
    rw [← hq2, HDN.out]
    rcases (show d = 0 ∨ d = 1 ∨ d = 2 ∨ d = 3 by omega) with rfl | rfl | rfl | rfl <;> simp <;> omega
  have HQ2 := Lib.hid hq2
  have HW2 := Lib.hid hW2
  clear hq2 hW2
  obtain ⟨n2, hn2⟩ : ∃ n2, l.length - q2 = n2 := ⟨_, rfl⟩
  rw [hn2] at hs2 ⊢
  have hcc2 := hs2.cap
  have hm2 := hs2.most
  have HN2 := Lib.hid hn2
  clear hn2
  have h64' := H64.out
  have k0 := cell_of_row w2' D 0 _ 46 (0, 0) HD2.out
  go_upto_block 1 with fail
  go_cut [13] from 236 to 236 (fun v13 wx => v13 = .int .i64 sz ∧ w2' = wx)
  case first =>
    have HSZ' := HSZ
    clear HSZ
    rcases (show v = 0 ∨ v = 1 ∨ v = 2 ∨ v = 3 by omega) with rfl | rfl | rfl | rfl
    · cases S
      · obtain rfl : sz = 0 := HSZ'.out
        go_wp2_with fail
        go_meet
        exact ⟨rfl, rfl⟩
      · obtain rfl : sz = 1 := HSZ'.out
        go_wp2_with fail
        go_meet
        exact ⟨rfl, rfl⟩
    · obtain rfl : sz = 2 := HSZ'.out
      go_wp2_with fail
      go_meet
      exact ⟨rfl, rfl⟩
    · obtain rfl : sz = 4 := HSZ'.out
      go_wp2_with fail
      go_meet
      exact ⟨rfl, rfl⟩
    · obtain rfl : sz = 8 := HSZ'.out
      go_wp2_with fail
      go_meet
      exact ⟨rfl, rfl⟩
  case rest =>
  obtain ⟨rfl, rfl⟩ := hcut
  clear h64' k0
  go_upto_if 246 with fail
  obtain ⟨W3, hW3⟩ : ∃ W3 : Nat, Lib.leNat ((l.drop q2).take sz) = W3 := ⟨_, rfl⟩
  have HW3 := Lib.hid hW3
  clear hW3
  go_cut [1] from 247 to 247 (fun v1 wx => DS w D l (q2 + sz) (zhA S W1 W2 (decide (0 < sz)) (sV sz W3) false 0 0 (q2 + sz : Nat) false false false 0 0 K) v1 wx)
  case first =>
    have hE2 := (hb2.cell (p := ⟨0, 0, none⟩) (by show 0 < D; omega)).trans HE.out
    have HS2 := Lib.hid hs2
    clear hs2
    have hsv : sz = 0 ∨ sz = 1 ∨ sz = 2 ∨ sz = 4 ∨ sz = 8 := by
      rw [HSZ.out]
      rcases (show v = 0 ∨ v = 1 ∨ v = 2 ∨ v = 3 by omega) with rfl | rfl | rfl | rfl <;> cases S <;> simp
    rcases hsv with rfl | rfl | rfl | rfl | rfl
    · go_wp2_with fail
      go_meet
      rw [← HW3.out]
      exact DS.mk (by omega) HS2.out (by have := HN2.out; omega) (by simp) HD2 hb2
    · as_aux_lemma =>
        by_cases hsh : n2 < 1
        · have hi : decide ((n2 : Int) < 1) = true := by simp; omega
          have hj : (n2 : Int) < 1 := by omega
          have k3 := cell_of_row w2' D 3 _ 46 (0, 0) HD2.out
          have f3 := frozen_of_row w2' D 3 _ 46 HD2.out
          go_wp2_with fail
          go_quiet (fail)
          go_wp2_with fail
          have := HN2.out
          exact HPP.out _ _ (.inr ⟨by rw [HQ1.out, HQ2.out]; omega, rfl, below_drew (below_set hb2 _) _⟩)
        · have hi : decide ((n2 : Int) < 1) = false := by simp; omega
          have hj : (1 : Int) ≤ (n2 : Int) := by omega
          have hjc : (1 : Int) ≤ (c2 : Int) := by omega
          obtain ⟨g1, o1, rfl, hg1, hce⟩ := HS2.out.at_ (by omega)
          have hl1 := HS2.out.len
          have hSl2 := HS2.out.next 1 (by omega)
          obtain ⟨A2, hA2⟩ : ∃ A2, (if c2 = 1 then some (⟨g1, o1, none⟩ : Addr) else some ⟨g1, o1 + 1, none⟩) = A2 := ⟨_, rfl⟩
          rw [hA2] at hSl2
          have HSl2 := Lib.hid hSl2
          have e0 := hce 0 (by omega)
          obtain ⟨b0, hb0x⟩ : ∃ b, (l.drop q2)[0] = b := ⟨_, rfl⟩
          rw [hb0x, Nat.add_zero] at e0
          have x0 := b0.toNat_lt
          have y0 : (b0.toNat : Int) < 256 := by omega
          obtain ⟨X, hX⟩ : ∃ X, Lib.leNat ((l.drop q2).take 1) = X := ⟨_, rfl⟩
          have hk : X = b0.toNat := by rw [← hX, take_1 _ (by omega), hb0x]; simp [Lib.leNat] <;> omega
          have hor : (b0.toNat : Int) = (X : Int) := by omega
          have HX := Lib.hid hX
          have HOR := Lib.hid hor
          have k8 := cell_of_row w2' D 8 _ 46 (0, 0) HD2.out
          have f8 := frozen_of_row w2' D 8 _ 46 HD2.out
          have k4 := cell_of_row w2' D 4 _ 46 (0, 0) HD2.out
          have f4 := frozen_of_row w2' D 4 _ 46 HD2.out
          have k3 := cell_of_row w2' D 3 _ 46 (0, 0) HD2.out
          have f3 := frozen_of_row w2' D 3 _ 46 HD2.out
          clear hce hk hX hSl2 hb0x x0 hor
          go_wp2_with fail
          go_quiet (fail)
          go_wp2_with fail
          go_meet
          rw [← HW3.out, show decide (0 < 1) = true from rfl, sV_ne (by omega), HX.out, ← HOR.out]
          exact DS.mk (by have := HN2.out; omega) ((((HSl2.out.setCell (p := ⟨D, 3, none⟩) (Nat.le_refl D) _).drewN _).setCell (p := ⟨D, 8, none⟩) (Nat.le_refl D) _).setCell (p := ⟨D, 4, none⟩) (Nat.le_refl D) _) (by have := HN2.out; omega) (by rw [List.drop_drop]) (row_set (row_set (row_drew (row_set HD2)))) (below_set (below_set (below_drew (below_set hb2 _) _) _) _)
    · as_aux_lemma =>
        by_cases hsh : n2 < 2
        · have hi : decide ((n2 : Int) < 2) = true := by simp; omega
          have hj : (n2 : Int) < 2 := by omega
          have k3 := cell_of_row w2' D 3 _ 46 (0, 0) HD2.out
          have f3 := frozen_of_row w2' D 3 _ 46 HD2.out
          go_wp2_with fail
          go_quiet (fail)
          go_wp2_with fail
          have := HN2.out
          exact HPP.out _ _ (.inr ⟨by rw [HQ1.out, HQ2.out]; omega, rfl, below_drew (below_set hb2 _) _⟩)
        · have hi : decide ((n2 : Int) < 2) = false := by simp; omega
          have hj : (2 : Int) ≤ (n2 : Int) := by omega
          have hjc : (2 : Int) ≤ (c2 : Int) := by omega
          obtain ⟨g1, o1, rfl, hg1, hce⟩ := HS2.out.at_ (by omega)
          have hl1 := HS2.out.len
          have hSl2 := HS2.out.next 2 (by omega)
          obtain ⟨A2, hA2⟩ : ∃ A2, (if c2 = 2 then some (⟨g1, o1, none⟩ : Addr) else some ⟨g1, o1 + 2, none⟩) = A2 := ⟨_, rfl⟩
          rw [hA2] at hSl2
          have HSl2 := Lib.hid hSl2
          have e0 := hce 0 (by omega)
          obtain ⟨b0, hb0x⟩ : ∃ b, (l.drop q2)[0] = b := ⟨_, rfl⟩
          rw [hb0x, Nat.add_zero] at e0
          have x0 := b0.toNat_lt
          have y0 : (b0.toNat : Int) < 256 := by omega
          have e1 := hce 1 (by omega)
          obtain ⟨b1, hb1x⟩ : ∃ b, (l.drop q2)[1] = b := ⟨_, rfl⟩
          rw [hb1x] at e1
          have x1 := b1.toNat_lt
          have y1 : (b1.toNat : Int) < 256 := by omega
          obtain ⟨X, hX⟩ : ∃ X, Lib.leNat ((l.drop q2).take 2) = X := ⟨_, rfl⟩
          have hk : X = b0.toNat + 256 * b1.toNat := by rw [← hX, take_2 _ (by omega), hb0x, hb1x]; simp [Lib.leNat] <;> omega
          have hor : bits .or .u64 ((b0.toNat : Int)) ((b1.toNat : Int) * 256) = (X : Int) := by rw [or2_u64 _ _ x0 x1]; omega
          have hw2 : IntKind.u64.wrap ((X : Int) + 256) = (X : Int) + 256 := wraps_u64 _ (by omega) (by omega)
          have HX := Lib.hid hX
          have k8 := cell_of_row w2' D 8 _ 46 (0, 0) HD2.out
          have f8 := frozen_of_row w2' D 8 _ 46 HD2.out
          have k4 := cell_of_row w2' D 4 _ 46 (0, 0) HD2.out
          have f4 := frozen_of_row w2' D 4 _ 46 HD2.out
          have k3 := cell_of_row w2' D 3 _ 46 (0, 0) HD2.out
          have f3 := frozen_of_row w2' D 3 _ 46 HD2.out
          clear hce hk hX hSl2 hb0x hb1x x0 x1
          go_wp2_with fail
          go_quiet (fail)
          go_wp2_with fail
          refine wp_region_quiet_tail 14 (by kernel_rfl) (by kernel_rfl) ?_
          simp only [List.take_succ_cons, List.take_zero, List.drop_succ_cons, List.drop_zero]
          repeat (go_big_quiet_step (fail))
          refine wpQuiet_nil ?_
          go_wp2_with fail
          go_meet
          rw [← HW3.out, show decide (0 < 2) = true from rfl, sV_two, HX.out]
          exact DS.mk (by have := HN2.out; omega) (((((HSl2.out.setCell (p := ⟨D, 3, none⟩) (Nat.le_refl D) _).drewN _).setCell (p := ⟨D, 8, none⟩) (Nat.le_refl D) _).drewN _).setCell (p := ⟨D, 4, none⟩) (Nat.le_refl D) _) (by have := HN2.out; omega) (by rw [List.drop_drop]) (row_set (row_drew (row_set (row_drew (row_set HD2))))) (below_set (below_drew (below_set (below_drew (below_set hb2 _) _) _) _) _)
    · as_aux_lemma =>
        by_cases hsh : n2 < 4
        · have hi : decide ((n2 : Int) < 4) = true := by simp; omega
          have hj : (n2 : Int) < 4 := by omega
          have k3 := cell_of_row w2' D 3 _ 46 (0, 0) HD2.out
          have f3 := frozen_of_row w2' D 3 _ 46 HD2.out
          go_wp2_with fail
          go_quiet (fail)
          go_wp2_with fail
          have := HN2.out
          exact HPP.out _ _ (.inr ⟨by rw [HQ1.out, HQ2.out]; omega, rfl, below_drew (below_set hb2 _) _⟩)
        · have hi : decide ((n2 : Int) < 4) = false := by simp; omega
          have hj : (4 : Int) ≤ (n2 : Int) := by omega
          have hjc : (4 : Int) ≤ (c2 : Int) := by omega
          obtain ⟨g1, o1, rfl, hg1, hce⟩ := HS2.out.at_ (by omega)
          have hl1 := HS2.out.len
          have hSl2 := HS2.out.next 4 (by omega)
          obtain ⟨A2, hA2⟩ : ∃ A2, (if c2 = 4 then some (⟨g1, o1, none⟩ : Addr) else some ⟨g1, o1 + 4, none⟩) = A2 := ⟨_, rfl⟩
          rw [hA2] at hSl2
          have HSl2 := Lib.hid hSl2
          have e0 := hce 0 (by omega)
          obtain ⟨b0, hb0x⟩ : ∃ b, (l.drop q2)[0] = b := ⟨_, rfl⟩
          rw [hb0x, Nat.add_zero] at e0
          have x0 := b0.toNat_lt
          have y0 : (b0.toNat : Int) < 256 := by omega
          have e1 := hce 1 (by omega)
          obtain ⟨b1, hb1x⟩ : ∃ b, (l.drop q2)[1] = b := ⟨_, rfl⟩
          rw [hb1x] at e1
          have x1 := b1.toNat_lt
          have y1 : (b1.toNat : Int) < 256 := by omega
          have e2 := hce 2 (by omega)
          obtain ⟨b2, hb2x⟩ : ∃ b, (l.drop q2)[2] = b := ⟨_, rfl⟩
          rw [hb2x] at e2
          have x2 := b2.toNat_lt
          have y2 : (b2.toNat : Int) < 256 := by omega
          have e3 := hce 3 (by omega)
          obtain ⟨b3, hb3x⟩ : ∃ b, (l.drop q2)[3] = b := ⟨_, rfl⟩
          rw [hb3x] at e3
          have x3 := b3.toNat_lt
          have y3 : (b3.toNat : Int) < 256 := by omega
          obtain ⟨X, hX⟩ : ∃ X, Lib.leNat ((l.drop q2).take 4) = X := ⟨_, rfl⟩
          have hk : X = b0.toNat + 256 * b1.toNat + 65536 * b2.toNat + 16777216 * b3.toNat := by rw [← hX, take_4 _ (by omega), hb0x, hb1x, hb2x, hb3x]; simp [Lib.leNat] <;> omega
          have hor : bits .or .u64 (bits .or .u64 (bits .or .u64 ((b0.toNat : Int)) ((b1.toNat : Int) * 256)) ((b2.toNat : Int) * 65536)) ((b3.toNat : Int) * 16777216) = (X : Int) := by rw [or4_u64 _ _ _ _ x0 x1 x2 x3]; omega
          have HX := Lib.hid hX
          have k8 := cell_of_row w2' D 8 _ 46 (0, 0) HD2.out
          have f8 := frozen_of_row w2' D 8 _ 46 HD2.out
          have k4 := cell_of_row w2' D 4 _ 46 (0, 0) HD2.out
          have f4 := frozen_of_row w2' D 4 _ 46 HD2.out
          have k3 := cell_of_row w2' D 3 _ 46 (0, 0) HD2.out
          have f3 := frozen_of_row w2' D 3 _ 46 HD2.out
          clear hce hk hX hSl2 hb0x hb1x hb2x hb3x x0 x1 x2 x3
          go_wp2_with fail
          go_quiet (fail)
          go_wp2_with fail
          refine wp_region_quiet_tail 25 (by kernel_rfl) (by kernel_rfl) ?_
          simp only [List.take_succ_cons, List.take_zero, List.drop_succ_cons, List.drop_zero]
          repeat (go_big_quiet_step (fail))
          refine wpQuiet_nil ?_
          go_wp2_with fail
          go_meet
          rw [← HW3.out, show decide (0 < 4) = true from rfl, sV_ne (by omega), HX.out]
          exact DS.mk (by have := HN2.out; omega) (((((HSl2.out.setCell (p := ⟨D, 3, none⟩) (Nat.le_refl D) _).drewN _).setCell (p := ⟨D, 8, none⟩) (Nat.le_refl D) _).drewN _).setCell (p := ⟨D, 4, none⟩) (Nat.le_refl D) _) (by have := HN2.out; omega) (by rw [List.drop_drop]) (row_set (row_drew (row_set (row_drew (row_set HD2))))) (below_set (below_drew (below_set (below_drew (below_set hb2 _) _) _) _) _)
    · as_aux_lemma =>
        by_cases hsh : n2 < 8
        · have hi : decide ((n2 : Int) < 8) = true := by simp; omega
          have hj : (n2 : Int) < 8 := by omega
          have k3 := cell_of_row w2' D 3 _ 46 (0, 0) HD2.out
          have f3 := frozen_of_row w2' D 3 _ 46 HD2.out
          go_wp2_with fail
          go_quiet (fail)
          go_wp2_with fail
          have := HN2.out
          exact HPP.out _ _ (.inr ⟨by rw [HQ1.out, HQ2.out]; omega, rfl, below_drew (below_set hb2 _) _⟩)
        · have hi : decide ((n2 : Int) < 8) = false := by simp; omega
          have hj : (8 : Int) ≤ (n2 : Int) := by omega
          have hjc : (8 : Int) ≤ (c2 : Int) := by omega
          obtain ⟨g1, o1, rfl, hg1, hce⟩ := HS2.out.at_ (by omega)
          have hl1 := HS2.out.len
          have hSl2 := HS2.out.next 8 (by omega)
          obtain ⟨A2, hA2⟩ : ∃ A2, (if c2 = 8 then some (⟨g1, o1, none⟩ : Addr) else some ⟨g1, o1 + 8, none⟩) = A2 := ⟨_, rfl⟩
          rw [hA2] at hSl2
          have HSl2 := Lib.hid hSl2
          have e0 := hce 0 (by omega)
          obtain ⟨b0, hb0x⟩ : ∃ b, (l.drop q2)[0] = b := ⟨_, rfl⟩
          rw [hb0x, Nat.add_zero] at e0
          have x0 := b0.toNat_lt
          have y0 : (b0.toNat : Int) < 256 := by omega
          have e1 := hce 1 (by omega)
          obtain ⟨b1, hb1x⟩ : ∃ b, (l.drop q2)[1] = b := ⟨_, rfl⟩
          rw [hb1x] at e1
          have x1 := b1.toNat_lt
          have y1 : (b1.toNat : Int) < 256 := by omega
          have e2 := hce 2 (by omega)
          obtain ⟨b2, hb2x⟩ : ∃ b, (l.drop q2)[2] = b := ⟨_, rfl⟩
          rw [hb2x] at e2
          have x2 := b2.toNat_lt
          have y2 : (b2.toNat : Int) < 256 := by omega
          have e3 := hce 3 (by omega)
          obtain ⟨b3, hb3x⟩ : ∃ b, (l.drop q2)[3] = b := ⟨_, rfl⟩
          rw [hb3x] at e3
          have x3 := b3.toNat_lt
          have y3 : (b3.toNat : Int) < 256 := by omega
          have e4 := hce 4 (by omega)
          obtain ⟨b4, hb4x⟩ : ∃ b, (l.drop q2)[4] = b := ⟨_, rfl⟩
          rw [hb4x] at e4
          have x4 := b4.toNat_lt
          have y4 : (b4.toNat : Int) < 256 := by omega
          have e5 := hce 5 (by omega)
          obtain ⟨b5, hb5x⟩ : ∃ b, (l.drop q2)[5] = b := ⟨_, rfl⟩
          rw [hb5x] at e5
          have x5 := b5.toNat_lt
          have y5 : (b5.toNat : Int) < 256 := by omega
          have e6 := hce 6 (by omega)
          obtain ⟨b6, hb6x⟩ : ∃ b, (l.drop q2)[6] = b := ⟨_, rfl⟩
          rw [hb6x] at e6
          have x6 := b6.toNat_lt
          have y6 : (b6.toNat : Int) < 256 := by omega
          have e7 := hce 7 (by omega)
          obtain ⟨b7, hb7x⟩ : ∃ b, (l.drop q2)[7] = b := ⟨_, rfl⟩
          rw [hb7x] at e7
          have x7 := b7.toNat_lt
          have y7 : (b7.toNat : Int) < 256 := by omega
          obtain ⟨X, hX⟩ : ∃ X, Lib.leNat ((l.drop q2).take 8) = X := ⟨_, rfl⟩
          have hk : X = b0.toNat + 256 * b1.toNat + 65536 * b2.toNat + 16777216 * b3.toNat + 4294967296 * b4.toNat + 1099511627776 * b5.toNat + 281474976710656 * b6.toNat + 72057594037927936 * b7.toNat := by rw [← hX, take_8 _ (by omega), hb0x, hb1x, hb2x, hb3x, hb4x, hb5x, hb6x, hb7x]; simp [Lib.leNat] <;> omega
          obtain ⟨X1, hX1⟩ : ∃ X1, b0.toNat + 256 * b1.toNat + 65536 * b2.toNat + 16777216 * b3.toNat = X1 := ⟨_, rfl⟩
          obtain ⟨X2, hX2⟩ : ∃ X2, b4.toNat + 256 * b5.toNat + 65536 * b6.toNat + 16777216 * b7.toNat = X2 := ⟨_, rfl⟩
          have hor1 : bits .or .u32 (bits .or .u32 (bits .or .u32 (b0.toNat : Int) ((b1.toNat : Int) * 256)) ((b2.toNat : Int) * 65536)) ((b3.toNat : Int) * 16777216) = (X1 : Int) := by rw [or4_u32 _ _ _ _ x0 x1 x2 x3]; omega
          have hor2 : bits .or .u32 (bits .or .u32 (bits .or .u32 (b4.toNat : Int) ((b5.toNat : Int) * 256)) ((b6.toNat : Int) * 65536)) ((b7.toNat : Int) * 16777216) = (X2 : Int) := by rw [or4_u32 _ _ _ _ x4 x5 x6 x7]; omega
          have hor : bits .or .u64 (X1 : Int) ((X2 : Int) * 4294967296) = (X : Int) := by rw [u64_or32 _ _ (by omega) (by omega) (by omega) (by omega) (by omega)]; omega
          have hw3 : IntKind.u64.wrap (X1 : Int) = (X1 : Int) := wraps_u64 _ (by omega) (by omega)
          have hw4 : IntKind.u64.wrap (X2 : Int) = (X2 : Int) := wraps_u64 _ (by omega) (by omega)
          have hw2 : IntKind.u64.wrap ((X2 : Int) * 4294967296) = (X2 : Int) * 4294967296 := wraps_u64 _ (by omega) (by omega)
          have HX := Lib.hid hX
          have k8 := cell_of_row w2' D 8 _ 46 (0, 0) HD2.out
          have f8 := frozen_of_row w2' D 8 _ 46 HD2.out
          have k4 := cell_of_row w2' D 4 _ 46 (0, 0) HD2.out
          have f4 := frozen_of_row w2' D 4 _ 46 HD2.out
          have k3 := cell_of_row w2' D 3 _ 46 (0, 0) HD2.out
          have f3 := frozen_of_row w2' D 3 _ 46 HD2.out
          clear hce hk hX hSl2 hb0x hb1x hb2x hb3x hb4x hb5x hb6x hb7x x0 x1 x2 x3 x4 x5 x6 x7 hX1 hX2
          go_wp2_with fail
          go_quiet (fail)
          go_wp2_with fail
          go_quiet (fail)
          go_wp2_with fail
          go_quiet (fail)
          go_wp2_with fail
          go_meet
          rw [← HW3.out, show decide (0 < 8) = true from rfl, sV_ne (by omega), HX.out]
          exact DS.mk (by have := HN2.out; omega) (((((HSl2.out.setCell (p := ⟨D, 3, none⟩) (Nat.le_refl D) _).drewN _).setCell (p := ⟨D, 8, none⟩) (Nat.le_refl D) _).drewN _).setCell (p := ⟨D, 4, none⟩) (Nat.le_refl D) _) (by have := HN2.out; omega) (by rw [List.drop_drop]) (row_set (row_drew (row_set (row_drew (row_set HD2))))) (below_set (below_drew (below_set (below_drew (below_set hb2 _) _) _) _) _)
  case rest =>
  clear hb2 HD2 hs2
  obtain ⟨hp3, A3, c3, rfl, hs3, HD3, hb3⟩ := hcut
  obtain ⟨w3', hw3'⟩ : ∃ w3', w3' = wc := ⟨_, rfl⟩
  subst hw3'
  obtain ⟨q3, hq3⟩ : ∃ q3, q2 + sz = q3 := ⟨_, rfl⟩
  rw [hq3] at hp3 hs3 HD3 ⊢
  obtain ⟨V3, hV3⟩ : ∃ V3, sV sz W3 = V3 := ⟨_, rfl⟩
  obtain ⟨G3, hG3⟩ : ∃ G3, decide (0 < sz) = G3 := ⟨_, rfl⟩
  rw [hV3, hG3] at HD3
  have HQ3 := Lib.hid hq3
  have HV3 := Lib.hid hV3
  have HG3 := Lib.hid hG3
  clear hq3 hV3 hG3
  obtain ⟨n3, hn3⟩ : ∃ n3, l.length - q3 = n3 := ⟨_, rfl⟩
  rw [hn3] at hs3 ⊢
  have hcc3 := hs3.cap
  have hm3 := hs3.most
  have HN3 := Lib.hid hn3
  clear hn3
  have hwin : DecRes w D l q3 (zhB S W1 W2 G3 V3 q3 K (blkOf (l.drop q3))) E = DecRes w D l (p1 S + dn + sz) (zhB S (win1 S (l.getD 5 0).toNat) (Lib.leNat ((l.drop (p1 S)).take dn)) (decide (0 < sz)) (sV sz (Lib.leNat ((l.drop (p1 S + dn)).take sz))) (p1 S + dn + sz : Nat) K (blkOf (l.drop (p1 S + dn + sz)))) E := by
    rw [HQ1.out, HQ2.out, HQ3.out, HW1.out, HW2.out, HW3.out, HV3.out, HG3.out]
  have HWIN := Lib.hid hwin
  have HS3 := Lib.hid hs3
  clear hwin hs3
  by_cases hsh : n3 < 3
  · as_aux_lemma =>
      have hi : decide ((n3 : Int) < 3) = true := by simp; omega
      have hj : (n3 : Int) < 3 := by omega
      have hB : blkOf (l.drop q3) = (false, false, false, 0, 0) := if_pos (by rw [HS3.out.len]; exact hsh)
      have HB := Lib.hid hB
      clear hB
      go_wp2_with fail
      refine HPP.out _ _ ((congrFun (congrFun HWIN.out _) _).mp ?_)
      refine .inl ⟨hp3, A3, c3, by rw [HN3.out] <;> rfl, ?_, hb3⟩
      rw [HB.out]
      exact HD3.out
  · have hi : decide ((n3 : Int) < 3) = false := by simp; omega
    have hj : (3 : Int) ≤ (n3 : Int) := by omega
    have hjc : (3 : Int) ≤ (c3 : Int) := by omega
    obtain ⟨g1, o1, rfl, hg1, hce⟩ := HS3.out.at_ (by omega)
    have hl1 := HS3.out.len
    have e0 := hce 0 (by omega)
    obtain ⟨b0, hb0x⟩ : ∃ b, (l.drop q3)[0] = b := ⟨_, rfl⟩
    rw [hb0x, Nat.add_zero] at e0
    have x0 := b0.toNat_lt
    have y0 : (b0.toNat : Int) < 256 := by omega
    have e1 := hce 1 (by omega)
    obtain ⟨b1, hb1x⟩ : ∃ b, (l.drop q3)[1] = b := ⟨_, rfl⟩
    rw [hb1x] at e1
    have x1 := b1.toNat_lt
    have y1 : (b1.toNat : Int) < 256 := by omega
    have e2 := hce 2 (by omega)
    obtain ⟨b2, hb2x⟩ : ∃ b, (l.drop q3)[2] = b := ⟨_, rfl⟩
    rw [hb2x] at e2
    have x2 := b2.toNat_lt
    have y2 : (b2.toNat : Int) < 256 := by omega
    obtain ⟨H, hH⟩ : ∃ H, Lib.leNat ((l.drop q3).take 3) = H := ⟨_, rfl⟩
    have hk : H = b0.toNat + 256 * b1.toNat + 65536 * b2.toNat := by rw [← hH, take_3 _ (by omega), hb0x, hb1x, hb2x]; simp [Lib.leNat] <;> omega
    have hor : bits .or .u32 (bits .or .u32 (b0.toNat : Int) ((b1.toNat : Int) * 256)) ((b2.toNat : Int) * 65536) = (H : Int) := by rw [or3_u32 _ _ _ x0 x1 x2]; omega
    have hHb : H < 16777216 := by omega
    have hHi : (H : Int) < 16777216 := by omega
    have ha1 := u32_and1 H (by omega)
    have ha3 : bits .and .u32 ((H : Int) / 2) 3 = ((H / 2 % 4 : Nat) : Int) := by
      have := u32_and3 (H / 2) (by omega)
      rw [← this]
      congr 1
    obtain ⟨L, hL⟩ : ∃ L, decide (H % 2 = 1) = L := ⟨_, rfl⟩
    have hlast : (bits .and .u32 (H : Int) 1 != 0) = L := by
      rw [ha1, ← hL]
      rcases Nat.mod_two_eq_zero_or_one H with e | e <;> rw [e] <;> rfl
    have hl3 : ¬ (l.drop q3).length < 3 := by omega
    obtain ⟨t, ht⟩ : ∃ t, H / 2 % 4 = t := ⟨_, rfl⟩
    have ht4 : t < 4 := by omega
    rw [ht] at ha3
    have hbk : blkOf (l.drop q3) = if t = 3 then (false, L, false, 0, 0) else if t = 1 then (true, L, true, ((H / 8 : Nat) : Int), 1) else if t = 2 then (true, L, true, 0, ((H / 8 : Nat) : Int)) else (true, L, false, ((H / 8 : Nat) : Int), ((H / 8 : Nat) : Int)) := by
      unfold blkOf
      rw [if_neg hl3, hH, ht, hL]
    have HBK := Lib.hid hbk
    have hdv : ((H / 8 : Nat) : Int) = (H : Int) / 8 := by omega
    have HDV := Lib.hid hdv
    clear hbk hdv ht hL hl3 ha1 hk hH hb0x hb1x hb2x x0 x1 x2 hHb hce
    have f9 := frozen_of_row w3' D 9 _ 46 HD3.out
    have f10 := frozen_of_row w3' D 10 _ 46 HD3.out
    have f11 := frozen_of_row w3' D 11 _ 46 HD3.out
    have f12 := frozen_of_row w3' D 12 _ 46 HD3.out
    have f13 := frozen_of_row w3' D 13 _ 46 HD3.out
    have k9 := cell_of_row w3' D 9 _ 46 (0, 0) HD3.out
    have k10 := cell_of_row w3' D 10 _ 46 (0, 0) HD3.out
    have k11 := cell_of_row w3' D 11 _ 46 (0, 0) HD3.out
    have k12 := cell_of_row w3' D 12 _ 46 (0, 0) HD3.out
    have k13 := cell_of_row w3' D 13 _ 46 (0, 0) HD3.out
    go_wp2_with fail
    go_quiet (fail)
    rcases (show t = 0 ∨ t = 1 ∨ t = 2 ∨ t = 3 by omega) with rfl | rfl | rfl | rfl
    · as_aux_lemma =>
        go_wp2_with fail
        refine HPP.out _ _ ((congrFun (congrFun HWIN.out _) _).mp ?_)
        refine .inl ⟨hp3, _, c3, by rw [HN3.out] <;> rfl, ?_, below_set (below_set (below_set (below_set (below_drew hb3 _) _) _) _) _⟩
        rw [HBK.out, HDV.out]
        exact (row_set (row_set (row_set (row_set (row_drew HD3))))).out
    · as_aux_lemma =>
        go_wp2_with fail
        refine HPP.out _ _ ((congrFun (congrFun HWIN.out _) _).mp ?_)
        refine .inl ⟨hp3, _, c3, by rw [HN3.out] <;> rfl, ?_, below_set (below_set (below_set (below_set (below_set (below_drew hb3 _) _) _) _) _) _⟩
        rw [HBK.out, HDV.out]
        exact (row_set (row_set (row_set (row_set (row_set (row_drew HD3)))))).out
    · as_aux_lemma =>
        go_wp2_with fail
        refine HPP.out _ _ ((congrFun (congrFun HWIN.out _) _).mp ?_)
        refine .inl ⟨hp3, _, c3, by rw [HN3.out] <;> rfl, ?_, below_set (below_set (below_set (below_set (below_drew hb3 _) _) _) _) _⟩
        rw [HBK.out, HDV.out]
        exact (row_set (row_set (row_set (row_set (row_drew HD3))))).out
    · as_aux_lemma =>
        go_wp2_with fail
        refine HPP.out _ _ ((congrFun (congrFun HWIN.out _) _).mp ?_)
        refine .inl ⟨hp3, _, c3, by rw [HN3.out] <;> rfl, ?_, below_set (below_drew hb3 _) _⟩
        rw [HBK.out, HDV.out]
        exact (row_set (row_drew HD3)).out
end Go.Proofs.YtiobfiepapflaaaDoor
