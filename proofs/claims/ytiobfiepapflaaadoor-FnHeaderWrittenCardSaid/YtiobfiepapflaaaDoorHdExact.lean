/-
  The header of a frame, told exactly: what spec.TellHeader says and what the package does, by the flags' byte and the bytes behind it. Conditions: those of each.
-/
import Derived.Test.YtiobfiepapflaaaDoorHdCases
namespace Go.Proofs.YtiobfiepapflaaaDoor
open Go.RowKit

theorem header_win (l : List UInt8) (h5 : 5 ≤ l.length) (hM : Lib.leNat (l.take 4) = 4247762216) (b8 : bits .and .u8 ((l[4].toNat : Nat) : Int) 8 = 0) (b32 : bits .and .u8 ((l[4].toNat : Nat) : Int) 32 = 0) (dn0 sz0 : Nat) (hdn0 : dn0 = [0, 1, 2, 4].getD (l[4].toNat % 4) 0) (hsz0 : sz0 = [0, 2, 4, 8].getD (l[4].toNat / 64) 0) (hlong0 : 6 + dn0 + sz0 ≤ l.length) :
    TellsTo l (hdA false (winV l[5].toNat) (Lib.leNat ((l.drop 6).take dn0)) (decide (0 < sz0)) (sV sz0 (Lib.leNat ((l.drop (6 + dn0)).take sz0))) ((6 + dn0 + sz0 : Nat) : Int) (bits .and .u8 (l[4].toNat : Int) 4 != 0)) 0 ∧
      DecGood l (6 + dn0 + sz0) (zhB false (winV l[5].toNat) (Lib.leNat ((l.drop 6).take dn0)) (decide (0 < sz0)) (sV sz0 (Lib.leNat ((l.drop (6 + dn0)).take sz0))) ((6 + dn0 + sz0 : Nat) : Int) (bits .and .u8 (l[4].toNat : Int) 4 != 0) (blkOf (l.drop (6 + dn0 + sz0)))) := by
  have hF := l[4].toNat_lt
  obtain ⟨s8, s32, s4, s3⟩ := flag_same _ hF
  obtain ⟨_, _, b3⟩ := flag_bits _ hF
  obtain ⟨dn, hdn, hdn4, hdi⟩ := dict_table (l[4].toNat % 4) (Nat.mod_lt _ (by omega))
  obtain rfl : dn0 = dn := hdn0.trans hdn.symm
  have hFg : l.getD 4 0 = UInt8.ofNat l[4].toNat := by simp [List.getD_eq_getElem?_getD, List.getElem?_eq_getElem (show 4 < l.length by omega)]
  have hv4 : l[4].toNat / 64 < 4 := by omega
  have hvv : ((l[4].toNat : Nat) : Int) / 64 = ((l[4].toNat / 64 : Nat) : Int) := by omega
  obtain ⟨sz, hsz, hsz8, hvi⟩ := size_table (l[4].toNat / 64) hv4 0 (by omega)
  obtain rfl : sz0 = sz := hsz0.trans hsz.symm
  have hlong : 5 + 1 + dn0 + sz0 ≤ l.length := by omega
  refine ⟨fun A n c w hs => ?_, fun D A n c w E old ho hd hs hD h0 => ?_⟩
  · have K := tell_goodF A n c l w hs h5 hM _ (s8.trans b8) (s32.trans b32) rfl _ _ dn0 sz0 (s3.trans b3) hvv (Nat.mod_lt _ (by omega)) hv4 hdn4 hsz8 hdi hvi hlong
    rw [s4, List.drop_drop] at K
    rw [show (((6 + dn0 + sz0 : Nat)) : Int) = 6 + (dn0 : Int) + sz0 by omega]
    exact K
  · have K := dec_main D A n c l w E old ho hd hs (by rw [← hs.len]; exact h5) hM hD h0 l[4].toNat hFg hF b8 false _ (by rw [b32]; rfl) rfl _ _ b3 hvv (Nat.mod_lt _ (by omega)) hv4 dn0 sz0 hdn hsz
    refine K.mono ?_
    rintro e w' (⟨hp, A', c', he, hd', hb'⟩ | ⟨hp, _⟩)
    · refine ⟨⟨A', c', he⟩, ?_, hb'⟩
      rw [hd']
      have e5 : l.getD 5 0 = l[5] := by simp [List.getD_eq_getElem?_getD, List.getElem?_eq_getElem (show 5 < l.length by omega)]
      rw [e5]
      rfl
    · simp [p1] at hp
      omega

theorem header_one (l : List UInt8) (h5 : 5 ≤ l.length) (hM : Lib.leNat (l.take 4) = 4247762216) (b8 : bits .and .u8 ((l[4].toNat : Nat) : Int) 8 = 0) (b32 : bits .and .u8 ((l[4].toNat : Nat) : Int) 32 = 32) (dn0 sz0 : Nat) (hdn0 : dn0 = [0, 1, 2, 4].getD (l[4].toNat % 4) 0) (hsz0 : sz0 = [1, 2, 4, 8].getD (l[4].toNat / 64) 0) (hlong0 : 5 + dn0 + sz0 ≤ l.length) :
    TellsTo l (hdA true 0 (Lib.leNat ((l.drop 5).take dn0)) (decide (0 < sz0)) (sV sz0 (Lib.leNat ((l.drop (5 + dn0)).take sz0))) ((5 + dn0 + sz0 : Nat) : Int) (bits .and .u8 (l[4].toNat : Int) 4 != 0)) 0 ∧
      DecGood l (5 + dn0 + sz0) (zhB true 0 (Lib.leNat ((l.drop 5).take dn0)) (decide (0 < sz0)) (sV sz0 (Lib.leNat ((l.drop (5 + dn0)).take sz0))) ((5 + dn0 + sz0 : Nat) : Int) (bits .and .u8 (l[4].toNat : Int) 4 != 0) (blkOf (l.drop (5 + dn0 + sz0)))) := by
  have hF := l[4].toNat_lt
  obtain ⟨s8, s32, s4, s3⟩ := flag_same _ hF
  obtain ⟨_, _, b3⟩ := flag_bits _ hF
  obtain ⟨dn, hdn, hdn4, hdi⟩ := dict_table (l[4].toNat % 4) (Nat.mod_lt _ (by omega))
  obtain rfl : dn0 = dn := hdn0.trans hdn.symm
  have hFg : l.getD 4 0 = UInt8.ofNat l[4].toNat := by simp [List.getD_eq_getElem?_getD, List.getElem?_eq_getElem (show 4 < l.length by omega)]
  have hv4 : l[4].toNat / 64 < 4 := by omega
  have hvv : ((l[4].toNat : Nat) : Int) / 64 = ((l[4].toNat / 64 : Nat) : Int) := by omega
  obtain ⟨sz, hsz, hsz8, hvi⟩ := size_table (l[4].toNat / 64) hv4 1 (by omega)
  obtain rfl : sz0 = sz := hsz0.trans hsz.symm
  have hlong : 5 + dn0 + sz0 ≤ l.length := hlong0
  refine ⟨fun A n c w hs => ?_, fun D A n c w E old ho hd hs hD h0 => ?_⟩
  · have K := tell_goodT A n c l w hs h5 hM _ (s8.trans b8) (s32.trans b32) rfl _ _ dn0 sz0 (s3.trans b3) hvv (Nat.mod_lt _ (by omega)) hv4 hdn4 hsz8 hdi hvi hlong
    rw [s4, List.drop_drop] at K
    rw [show (((5 + dn0 + sz0 : Nat)) : Int) = 5 + (dn0 : Int) + sz0 by omega]
    exact K
  · have K := dec_main D A n c l w E old ho hd hs (by rw [← hs.len]; exact h5) hM hD h0 l[4].toNat hFg hF b8 true _ (by rw [b32]; rfl) rfl _ _ b3 hvv (Nat.mod_lt _ (by omega)) hv4 dn0 sz0 hdn hsz
    refine K.mono ?_
    rintro e w' (⟨hp, A', c', he, hd', hb'⟩ | ⟨hp, _⟩)
    · exact ⟨⟨A', c', he⟩, hd', hb'⟩
    · simp [p1] at hp
      omega

theorem header_skip (l : List UInt8) (h8 : 8 ≤ l.length) (M : Nat) (hM : Lib.leNat (l.take 4) = M) (hA : (bits .andNot .u32 (M : Int) 15 == 407710288) = true) :
    TellsTo l (hdS (bits .and .u8 ((l[0].toNat : Nat) : Int) 15) (Lib.leNat ((l.drop 4).take 4))) 0 ∧ DecGood l 8 (zhA false 0 0 false 0 true (bits .and .u8 ((l[0].toNat : Nat) : Int) 15) (Lib.leNat ((l.drop 4).take 4)) 8 false false false 0 0 false) := by
  have h4 : 4 ≤ l.length := by omega
  obtain ⟨hm1, hm2, hm3⟩ := skip_iff l h4 M hM hA
  have hb := l[0].toNat_lt
  obtain ⟨hx0, hx1⟩ := and15 _ hb
  refine ⟨fun A n c w hs => tell_skip A n c l w hs h4 M hM hA (by omega) _ rfl hx0 hx1, fun D A n c w E old ho hd hs hD h0 => ?_⟩
  refine (dec_skip D A n c l w old ho hd hs (by rw [← hs.len]; exact h4) (by rw [hM]; exact hm3) (by rw [hm1]; rfl) _ rfl hm2 (by rw [← hs.len]; omega) _ rfl hx0 hx1).mono ?_
  rintro e w' ⟨A', c', he, hd', hb'⟩
  exact ⟨⟨A', c', he⟩, hd', hb'⟩
end Go.Proofs.YtiobfiepapflaaaDoor
