/-
  The bytes of a header that is written tell what was given: plain lemmas over the exact telling. Conditions: those of each.
-/
import Derived.Test.YtiobfiepapflaaaDoorHdExact
import Derived.Test.YtiobfiepapflaaaDoorHdOwn
namespace Go.Proofs.YtiobfiepapflaaaDoor
open Go.RowKit

theorem flag_facts (k s : Bool) (d f : Nat) (hd : d < 4) (hf : f < 4) : ∃ F, F = 4 * bN k + 32 * bN s + d + 64 * f ∧ F < 256 ∧ bits .and .u8 (F : Int) 8 = 0 ∧ bits .and .u8 (F : Int) 32 = (if s then 32 else 0) ∧ F % 4 = d ∧ F / 64 = f ∧ (bits .and .u8 (F : Int) 4 != 0) = k := by
  have h : ∀ (k s : Bool) (d f : Fin 4), 4 * bN k + 32 * bN s + d.val + 64 * f.val < 256 ∧ bits .and .u8 ((4 * bN k + 32 * bN s + d.val + 64 * f.val : Nat) : Int) 8 = 0 ∧ bits .and .u8 ((4 * bN k + 32 * bN s + d.val + 64 * f.val : Nat) : Int) 32 = (if s then 32 else 0) ∧
      (4 * bN k + 32 * bN s + d.val + 64 * f.val) % 4 = d.val ∧ (4 * bN k + 32 * bN s + d.val + 64 * f.val) / 64 = f.val ∧ (bits .and .u8 ((4 * bN k + 32 * bN s + d.val + 64 * f.val : Nat) : Int) 4 != 0) = k := by decide +kernel
  exact ⟨_, rfl, h k s ⟨d, hd⟩ ⟨f, hf⟩⟩
theorem dcode_lt (D : Nat) : dcode D < 4 := by unfold dcode; (repeat' split) <;> omega
theorem fcs_lt (z : Nat) : fcs z < 4 := by unfold fcs; (repeat' split) <;> omega
theorem dn_code (D : Nat) : [0, 1, 2, 4].getD (dcode D) 0 = dn D := by unfold dcode dn; (repeat' split) <;> rfl
theorem dn_val (D : Nat) (h : D < 4294967296) : Lib.leNat (Lib.leBytes (dn D) D) = D := by
  refine Lib.leNat_leBytes _ _ ?_
  unfold dn
  (repeat' split) <;> omega
theorem be_toNat (H i : Nat) : (beB H i).toNat = H / 256 ^ i % 256 := by unfold beB; rw [UInt8.toNat_ofNat']
theorem sz_code (s : Bool) (z : Nat) : [if s then 1 else 0, 2, 4, 8].getD (fcs z) 0 = (szB s z).length := by
  unfold fcs szB
  by_cases h1 : z < 256
  · rw [if_pos h1, if_pos h1]; cases s <;> rfl
  · by_cases h2 : z < 65792
    · rw [if_neg h1, if_neg h1, if_pos h2, if_pos h2]; rfl
    · by_cases h3 : z < 4294967295
      · rw [if_neg h1, if_neg h1, if_neg h2, if_neg h2, if_pos h3, if_pos h3]; rfl
      · rw [if_neg h1, if_neg h1, if_neg h2, if_neg h2, if_neg h3, if_neg h3]; rfl
theorem sz_val (s : Bool) (z : Nat) (h : z < 18446744073709551616) : sV (szB s z).length (Lib.leNat (szB s z)) = (if s = true ∨ 256 ≤ z then (z : Int) else 0) := by
  unfold szB
  by_cases h1 : z < 256
  · rw [if_pos h1]
    cases s
    · rw [if_neg (show ¬ (false = true ∨ 256 ≤ z) by simp; omega)]; rfl
    · rw [if_pos (show true = true ∨ 256 ≤ z from .inl rfl)]
      show ((Lib.leNat [beB z 0] : Nat) : Int) = z
      simp only [Lib.leNat, be_toNat]
      omega
  · rw [if_neg h1, if_pos (show s = true ∨ 256 ≤ z from .inr (by omega))]
    by_cases h2 : z < 65792
    · rw [if_pos h2]
      show ((Lib.leNat [beB (z - 256) 0, beB (z - 256) 1] : Nat) : Int) + 256 = z
      simp only [Lib.leNat, be_toNat]
      omega
    · rw [if_neg h2]
      by_cases h3 : z < 4294967295
      · rw [if_pos h3]
        show ((Lib.leNat [beB z 0, beB z 1, beB z 2, beB z 3] : Nat) : Int) = z
        simp only [Lib.leNat, be_toNat]
        omega
      · rw [if_neg h3]
        show ((Lib.leNat [beB z 0, beB z 1, beB z 2, beB z 3, beB z 4, beB z 5, beB z 6, beB z 7] : Nat) : Int) = z
        simp only [Lib.leNat, be_toNat]
        omega
theorem win_val (e : Nat) (h1 : 10 ≤ e) (h2 : e ≤ 31) : winV (UInt8.ofNat ((e - 10) * 8)).toNat = (2 ^ e : Nat) := by
  have h : ∀ e : Fin 32, 10 ≤ e.val → winV (UInt8.ofNat ((e.val - 10) * 8)).toNat = ((2 ^ e.val : Nat) : Int) := by decide +kernel
  exact h ⟨e, by omega⟩ h1
theorem blk_nil (l : List UInt8) (p : Nat) (h : l.length ≤ p) : blkOf (l.drop p) = (false, false, false, 0, 0) := by
  rw [List.drop_eq_nil_of_le h]
  rfl
theorem out_win (z e : Nat) (k : Bool) (D : Nat) : hdOut z e false k D = 40 :: 181 :: 47 :: 253 :: UInt8.ofNat (fl0 false k D + 64 * fcs z) :: UInt8.ofNat ((e - 10) * 8) :: (Lib.leBytes (dn D) D ++ szB false z) := by
  simp [hdOut, magicF, winB]
theorem out_one (z e : Nat) (k : Bool) (D : Nat) : hdOut z e true k D = 40 :: 181 :: 47 :: 253 :: UInt8.ofNat (fl0 true k D + 64 * fcs z) :: (Lib.leBytes (dn D) D ++ szB true z) := by
  simp [hdOut, magicF, winB]
theorem le_len (k v : Nat) : (Lib.leBytes k v).length = k := Lib.leBytes_length k v

theorem leNat_magic : Lib.leNat magicF = 4247762216 := by decide
theorem hd_win (z e D : Nat) (k : Bool) (he1 : 10 ≤ e) (he2 : e ≤ 31) (hD : D < 4294967296) (hz : z < 18446744073709551616) :
    TellsTo (hdOut z e false k D) (hdA false ((2 ^ e : Nat) : Int) D (decide (256 ≤ z)) (if 256 ≤ z then (z : Int) else 0) ((hdOut z e false k D).length : Nat) k) 0 ∧
      DecGood (hdOut z e false k D) (hdOut z e false k D).length (zhA false ((2 ^ e : Nat) : Int) D (decide (256 ≤ z)) (if 256 ≤ z then (z : Int) else 0) false 0 0 ((hdOut z e false k D).length : Nat) false false false 0 0 k) := by
  obtain ⟨F, hF, hF256, f8, f32, f4, f64, fk⟩ := flag_facts k false (dcode D) (fcs z) (dcode_lt D) (fcs_lt z)
  obtain ⟨l, hl⟩ : ∃ l, hdOut z e false k D = l := ⟨_, rfl⟩
  have ho := out_win z e k D
  rw [hl, show fl0 false k D + 64 * fcs z = F from hF.symm] at ho
  rw [hl]
  have hlen : l.length = 6 + dn D + (szB false z).length := by rw [ho]; simp [le_len]; omega
  have h5 : 5 ≤ l.length := by omega
  have e4 : l[4] = UInt8.ofNat F := by simp [ho]
  have e5 : l[5] = UInt8.ofNat ((e - 10) * 8) := by simp [ho]
  have e4n : l[4].toNat = F := by rw [e4, UInt8.toNat_ofNat']; omega
  have hM : Lib.leNat (l.take 4) = 4247762216 := by rw [show l.take 4 = magicF by rw [ho]; rfl]; exact leNat_magic
  have hd6 : l.drop 6 = Lib.leBytes (dn D) D ++ szB false z := by rw [ho]; rfl
  have hdt : (l.drop 6).take (dn D) = Lib.leBytes (dn D) D := by rw [hd6, List.take_append_of_le_length (by rw [le_len]; exact Nat.le_refl _), List.take_of_length_le (by rw [le_len]; exact Nat.le_refl _)]
  have hst : (l.drop (6 + dn D)).take (szB false z).length = szB false z := by
    rw [← List.drop_drop, hd6, List.drop_append_of_le_length (by rw [le_len]; exact Nat.le_refl _), List.drop_eq_nil_of_le (by rw [le_len]; exact Nat.le_refl _), List.nil_append, List.take_of_length_le (Nat.le_refl _)]
  have H := header_win l h5 hM (by rw [e4n]; exact f8) (by rw [e4n]; exact f32) (dn D) (szB false z).length (by rw [e4n, f4]; exact (dn_code D).symm) (by rw [e4n, f64]; exact (sz_code false z).symm) (by omega)
  have fk' : (bits .and .u8 (l[4].toNat : Int) 4 != 0) = k := by rw [e4n]; exact fk
  have w5 : winV l[5].toNat = ((2 ^ e : Nat) : Int) := by rw [e5]; exact win_val e he1 he2
  rw [hdt, hst, dn_val D hD, sz_val false z hz, fk', w5, ← hlen, blk_nil l _ (Nat.le_refl _)] at H
  have hpos : decide (0 < (szB false z).length) = decide (256 ≤ z) := by
    rw [decide_eq_decide]
    unfold szB
    split
    · simp; omega
    · split
      · simp; omega
      · split <;> simp <;> omega
  rw [hpos] at H
  simp only [Bool.false_eq_true, false_or] at H
  exact H
theorem hd_one (z e D : Nat) (k : Bool) (hD : D < 4294967296) (hz : z < 18446744073709551616) :
    TellsTo (hdOut z e true k D) (hdA true 0 D true (z : Int) ((hdOut z e true k D).length : Nat) k) 0 ∧
      DecGood (hdOut z e true k D) (hdOut z e true k D).length (zhA true 0 D true (z : Int) false 0 0 ((hdOut z e true k D).length : Nat) false false false 0 0 k) := by
  obtain ⟨F, hF, hF256, f8, f32, f4, f64, fk⟩ := flag_facts k true (dcode D) (fcs z) (dcode_lt D) (fcs_lt z)
  obtain ⟨l, hl⟩ : ∃ l, hdOut z e true k D = l := ⟨_, rfl⟩
  have ho := out_one z e k D
  rw [hl, show fl0 true k D + 64 * fcs z = F from hF.symm] at ho
  rw [hl]
  have hlen : l.length = 5 + dn D + (szB true z).length := by rw [ho]; simp [le_len]; omega
  have h5 : 5 ≤ l.length := by omega
  have e4 : l[4] = UInt8.ofNat F := by simp [ho]
  have e4n : l[4].toNat = F := by rw [e4, UInt8.toNat_ofNat']; omega
  have hM : Lib.leNat (l.take 4) = 4247762216 := by rw [show l.take 4 = magicF by rw [ho]; rfl]; exact leNat_magic
  have hd6 : l.drop 5 = Lib.leBytes (dn D) D ++ szB true z := by rw [ho]; rfl
  have hdt : (l.drop 5).take (dn D) = Lib.leBytes (dn D) D := by rw [hd6, List.take_append_of_le_length (by rw [le_len]; exact Nat.le_refl _), List.take_of_length_le (by rw [le_len]; exact Nat.le_refl _)]
  have hst : (l.drop (5 + dn D)).take (szB true z).length = szB true z := by
    rw [← List.drop_drop, hd6, List.drop_append_of_le_length (by rw [le_len]; exact Nat.le_refl _), List.drop_eq_nil_of_le (by rw [le_len]; exact Nat.le_refl _), List.nil_append, List.take_of_length_le (Nat.le_refl _)]
  have H := header_one l h5 hM (by rw [e4n]; exact f8) (by rw [e4n]; exact f32) (dn D) (szB true z).length (by rw [e4n, f4]; exact (dn_code D).symm) (by rw [e4n, f64]; exact (sz_code true z).symm) (by omega)
  have fk' : (bits .and .u8 (l[4].toNat : Int) 4 != 0) = k := by rw [e4n]; exact fk
  rw [hdt, hst, dn_val D hD, sz_val true z hz, fk', ← hlen, blk_nil l _ (Nat.le_refl _)] at H
  have hpos : decide (0 < (szB true z).length) = true := by
    rw [decide_eq_true_iff]
    unfold szB
    split
    · simp
    · split
      · simp
      · split <;> simp
  rw [hpos, if_pos (show true = true ∨ 256 ≤ z from .inl rfl)] at H
  exact H

/-- the bytes of a skippable frame's header -/
def skOut (id size : Nat) : List UInt8 := [UInt8.ofNat (80 + id), 42, 77, 24, beB size 0, beB size 1, beB size 2, beB size 3]
theorem hd_skip (id size : Nat) (hid : id ≤ 15) (hs : size < 4294967296) :
    TellsTo (skOut id size) (hdS id size) 0 ∧ DecGood (skOut id size) 8 (zhA false 0 0 false 0 true id size 8 false false false 0 0 false) := by
  have h0 : ∀ i : Fin 16, bits .and .u8 ((UInt8.ofNat (80 + i.val)).toNat : Int) 15 = (i.val : Int) ∧ (bits .andNot .u32 ((Lib.leNat [UInt8.ofNat (80 + i.val), 42, 77, 24] : Nat) : Int) 15 == 407710288) = true := by decide +kernel
  obtain ⟨h1, h2⟩ := h0 ⟨id, by omega⟩
  have H := header_skip (skOut id size) (by simp [skOut]) _ rfl h2
  have e0 : (skOut id size)[0]'(by simp [skOut]) = UInt8.ofNat (80 + id) := rfl
  have hv : Lib.leNat (((skOut id size).drop 4).take 4) = size := by
    show Lib.leNat [beB size 0, beB size 1, beB size 2, beB size 3] = size
    simp only [Lib.leNat, be_toNat]
    omega
  rw [hv] at H
  have h3 : bits .and .u8 (((skOut id size)[0]'(by simp [skOut])).toNat : Int) 15 = (id : Int) := h1
  rw [h3] at H
  exact H
end Go.Proofs.YtiobfiepapflaaaDoor
