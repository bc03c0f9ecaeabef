/-
  SnappyLength, decodedLen, DecodedLen and impl.SnappyLen by their plain functions. Conditions: at most 2147483647 bytes; the sentinel that is handed back is a value.
-/
import Derived.Test.YthiklljhhnedkaaDoorRows
import Derived.Test.YthiklljhhnedkaaDoorShelf
import Derived.Test.YthiklljhhnedkaaDoorSnDef
import Derived.Test.YthiklljhhnedkaaDoorAlike
namespace Go.Proofs.YthiklljhhnedkaaDoor
open Go.RowKit

theorem and127 (b : UInt8) : bits .and .u8 (b.toNat : Int) 127 = ((b.toNat % 128 : Nat) : Int) := by
  have h : ∀ n : Fin 256, bits .and .u8 ((n : Nat) : Int) 127 = (((n : Nat) % 128 : Nat) : Int) := by decide +kernel
  exact h ⟨b.toNat, b.toNat_lt⟩

/-- the head of the loop -/
def RelL (l : List UInt8) (w : World) (n k : Value) (wr : World) : Prop :=
  ∃ (i acc : Nat), i ≤ 5 ∧ i ≤ l.length ∧ acc < 2 ^ (7 * i) ∧ n = .int .i64 acc ∧ k = .int .i64 i ∧ Hid (snFrom l.length i acc (l.drop i) = snLength l) ∧ w = wr

theorem sn_stop {l : List UInt8} {i acc : Nat} (h : Hid (snFrom l.length i acc (l.drop i) = snLength l)) (hs : i = 5 ∨ i = l.length) (hi : i ≤ l.length) :
    snLength l = (0, 0, if 5 < l.length then 2 else 1) := by
  rw [← h.out]
  rcases hd : l.drop i with _ | ⟨b, r⟩
  · rfl
  · have hlen : (l.drop i).length = r.length + 1 := by rw [hd]; rfl
    simp at hlen
    have h5 : i = 5 := by omega
    simp [snFrom, h5]
theorem sn_last {l : List UInt8} {i acc : Nat} (h : Hid (snFrom l.length i acc (l.drop i) = snLength l)) (hi : i < l.length) (h5 : i < 5) (hb : (l[i]).toNat < 128) :
    snLength l = if 4294967296 ≤ acc + (l[i]).toNat % 128 * 2 ^ (7 * i) then (0, 0, 1) else (acc + (l[i]).toNat % 128 * 2 ^ (7 * i), i + 1, 0) := by
  rw [← h.out, List.drop_eq_getElem_cons hi]
  simp only [snFrom]
  rw [if_neg (by omega), if_pos hb]
theorem sn_next {l : List UInt8} {i acc : Nat} (h : Hid (snFrom l.length i acc (l.drop i) = snLength l)) (hi : i < l.length) (h5 : i < 5) (hb : ¬ (l[i]).toNat < 128) :
    Hid (snFrom l.length (i + 1) (acc + (l[i]).toNat % 128 * 2 ^ (7 * i)) (l.drop (i + 1)) = snLength l) := by
  refine Lib.hid ?_
  rw [← h.out, List.drop_eq_getElem_cons hi]
  simp only [snFrom]
  rw [if_neg (show ¬ i = 5 by omega), if_neg hb]
theorem acc_next {acc i x : Nat} (h : acc < 2 ^ (7 * i)) (hx : x < 128) : acc + x * 2 ^ (7 * i) < 2 ^ (7 * (i + 1)) := by
  have e : 2 ^ (7 * (i + 1)) = 128 * 2 ^ (7 * i) := by rw [Nat.mul_add, Nat.pow_add, Nat.mul_comm]
  rw [e]
  have : x * 2 ^ (7 * i) ≤ 127 * 2 ^ (7 * i) := Nat.mul_le_mul_right _ (by omega)
  omega

theorem sn_fin {l : List UInt8} {N i : Nat} {v : Int} (h : snLength l = if 4294967296 ≤ N then (0, 0, 1) else (N, i, 0)) (hg : ¬ 4294967296 ≤ N) {k : Int} (hv : v = N) (hk : k = i) :
    Ending.returned (.tuple #[.int .i64 v, .int .i64 k, .int .i64 0]) = .returned (.tuple #[.int .i64 (snLength l).1, .int .i64 (snLength l).2.1, .int .i64 (snLength l).2.2]) := by
  rw [if_neg hg] at h
  rw [h, hv, hk]
  rfl
theorem sn_fin2 {l : List UInt8} {N i : Nat} (h : snLength l = if 4294967296 ≤ N then (0, 0, 1) else (N, i, 0)) (hg : 4294967296 ≤ N) :
    Ending.returned (.tuple #[.int .i64 0, .int .i64 0, .int .i64 1]) = .returned (.tuple #[.int .i64 (snLength l).1, .int .i64 (snLength l).2.1, .int .i64 (snLength l).2.2]) := by
  rw [if_pos hg] at h
  rw [h]
  rfl

theorem sn_stop1 {l : List UInt8} (h : snLength l = (0, 0, if 5 < l.length then 2 else 1)) (hg : ¬ 5 < l.length) :
    Ending.returned (.tuple #[.int .i64 0, .int .i64 0, .int .i64 1]) = .returned (.tuple #[.int .i64 (snLength l).1, .int .i64 (snLength l).2.1, .int .i64 (snLength l).2.2]) := by
  rw [if_neg hg] at h
  rw [h]
  rfl
theorem sn_stop2 {l : List UInt8} (h : snLength l = (0, 0, if 5 < l.length then 2 else 1)) (hg : 5 < l.length) :
    Ending.returned (.tuple #[.int .i64 0, .int .i64 0, .int .i64 2]) = .returned (.tuple #[.int .i64 (snLength l).1, .int .i64 (snLength l).2.1, .int .i64 (snLength l).2.2]) := by
  rw [if_pos hg] at h
  rw [h]
  rfl

set_option maxRecDepth 100000 in
set_option maxHeartbeats 1600000 in
theorem snappyLength_any (A : Option Addr) (n c : Nat) (l : List UInt8) (w : World) (hs : Sl w w.heap.size A n c l) (hn : n ≤ 2147483647) :
    Calls Tryd.prog 5 #[.slice A n c] w fun e w' => e = .returned (.tuple #[.int .i64 (snLength l).1, .int .i64 (snLength l).2.1, .int .i64 (snLength l).2.2]) ∧ w = w' := by
  obtain rfl := hs.len
  have hm := hs.most
  have hcc := hs.cap
  have hat := Lib.hid hs.at_
  go_enter Tryd.func5, Tryd.ntmps5
  go_wp2
  go_loopw [5, 6] (fun n k wr => RelL l w n k wr) (fun _ k _ => 5 - (intOf k).toNat)
  case atStart => exact ⟨0, 0, by omega, by omega, by decide, rfl, rfl, Lib.hid rfl, rfl⟩
  case round =>
    obtain ⟨i, acc, hi5, hil, hacc, rfl, rfl, HS, rfl⟩ := hrel
    by_cases h5 : i < 5
    · by_cases hl : i < l.length
      · obtain ⟨g, o, rfl, _, hcell⟩ := hat.out (by omega)
        have hc := hcell i hl
        obtain ⟨b, hbd⟩ : ∃ b, b = l[i] := ⟨_, rfl⟩
        rw [← hbd] at hc
        have HB := Lib.hid hbd
        have ha := and127 b
        have hx : b.toNat % 128 < 128 := Nat.mod_lt _ (by omega)
        have HN := Lib.hid (acc_next hacc hx)
        have hb256 : (b.toNat : Int) < 256 := by have := b.toNat_lt; omega
        obtain ⟨x, hx'⟩ : ∃ x, x = b.toNat % 128 := ⟨_, rfl⟩
        rw [← hx'] at ha hx HN
        have HX := Lib.hid hx'
        have HA := Lib.hid hacc
        clear hcell hx' hacc hbd
        rcases (show i = 0 ∨ i = 1 ∨ i = 2 ∨ i = 3 ∨ i = 4 by omega) with rfl | rfl | rfl | rfl | rfl
        · have hacc : acc < 2 := by have := HA.out; simp at this; omega
          simp only [Nat.add_zero] at hc
          have HB' : Hid (l[0].toNat = b.toNat) := Lib.hid (by rw [HB.out])
          by_cases hb : b.toNat < 128
          · have hbi : (b.toNat : Int) < 128 := by omega
            have hlast := sn_last HS hl h5 (by rw [HB'.out]; exact hb)
            rw [HB'.out, ← HX.out] at hlast
            have HL := Lib.hid hlast
            clear hlast hat hs hb
            have hd : decide ((4294967296 : Int) ≤ (acc : Int) + (x : Int)) = false := decide_eq_false (by omega)
            go_wp2
            go_ret3
            exact ⟨sn_fin HL.out (by have h1 := HA.out; have h2 := HX.out; simp at h1; omega) (by simp) (by simp), rfl⟩
          · have hbi : (128 : Int) ≤ (b.toNat : Int) := by omega
            have hnext := sn_next HS hl h5 (by rw [HB'.out]; exact hb)
            rw [HB'.out, ← HX.out] at hnext
            clear hat hs hb
            go_wp2
            go_roundw
            case rel => exact ⟨1, acc + x * 1, by omega, by omega, HN.out, by go_num, by go_num, hnext, rfl⟩
            case measure => simp [intOf]
        · have hacc : acc < 128 := by have := HA.out; simp at this; omega
          have HB' : Hid (l[1].toNat = b.toNat) := Lib.hid (by rw [HB.out])
          by_cases hb : b.toNat < 128
          · have hbi : (b.toNat : Int) < 128 := by omega
            have hlast := sn_last HS hl h5 (by rw [HB'.out]; exact hb)
            rw [HB'.out, ← HX.out] at hlast
            have HL := Lib.hid hlast
            clear hlast hat hs hb
            have hd : decide ((4294967296 : Int) ≤ (acc : Int) + (x : Int) * 128) = false := decide_eq_false (by omega)
            go_wp2
            go_ret3
            exact ⟨sn_fin HL.out (by have h1 := HA.out; have h2 := HX.out; simp at h1; omega) (by simp) (by simp), rfl⟩
          · have hbi : (128 : Int) ≤ (b.toNat : Int) := by omega
            have hnext := sn_next HS hl h5 (by rw [HB'.out]; exact hb)
            rw [HB'.out, ← HX.out] at hnext
            clear hat hs hb
            go_wp2
            go_roundw
            case rel => exact ⟨2, acc + x * 128, by omega, by omega, HN.out, by go_num, by go_num, hnext, rfl⟩
            case measure => simp [intOf]
        · have hacc : acc < 16384 := by have := HA.out; simp at this; omega
          have HB' : Hid (l[2].toNat = b.toNat) := Lib.hid (by rw [HB.out])
          by_cases hb : b.toNat < 128
          · have hbi : (b.toNat : Int) < 128 := by omega
            have hlast := sn_last HS hl h5 (by rw [HB'.out]; exact hb)
            rw [HB'.out, ← HX.out] at hlast
            have HL := Lib.hid hlast
            clear hlast hat hs hb
            have hd : decide ((4294967296 : Int) ≤ (acc : Int) + (x : Int) * 16384) = false := decide_eq_false (by omega)
            go_wp2
            go_ret3
            exact ⟨sn_fin HL.out (by have h1 := HA.out; have h2 := HX.out; simp at h1; omega) (by simp) (by simp), rfl⟩
          · have hbi : (128 : Int) ≤ (b.toNat : Int) := by omega
            have hnext := sn_next HS hl h5 (by rw [HB'.out]; exact hb)
            rw [HB'.out, ← HX.out] at hnext
            clear hat hs hb
            go_wp2
            go_roundw
            case rel => exact ⟨3, acc + x * 16384, by omega, by omega, HN.out, by go_num, by go_num, hnext, rfl⟩
            case measure => simp [intOf]
        · have hacc : acc < 2097152 := by have := HA.out; simp at this; omega
          have HB' : Hid (l[3].toNat = b.toNat) := Lib.hid (by rw [HB.out])
          by_cases hb : b.toNat < 128
          · have hbi : (b.toNat : Int) < 128 := by omega
            have hlast := sn_last HS hl h5 (by rw [HB'.out]; exact hb)
            rw [HB'.out, ← HX.out] at hlast
            have HL := Lib.hid hlast
            clear hlast hat hs hb
            have hd : decide ((4294967296 : Int) ≤ (acc : Int) + (x : Int) * 2097152) = false := decide_eq_false (by omega)
            go_wp2
            go_ret3
            exact ⟨sn_fin HL.out (by have h1 := HA.out; have h2 := HX.out; simp at h1; omega) (by simp) (by simp), rfl⟩
          · have hbi : (128 : Int) ≤ (b.toNat : Int) := by omega
            have hnext := sn_next HS hl h5 (by rw [HB'.out]; exact hb)
            rw [HB'.out, ← HX.out] at hnext
            clear hat hs hb
            go_wp2
            go_roundw
            case rel => exact ⟨4, acc + x * 2097152, by omega, by omega, HN.out, by go_num, by go_num, hnext, rfl⟩
            case measure => simp [intOf]
        · have hacc : acc < 268435456 := by have := HA.out; simp at this; omega
          have HB' : Hid (l[4].toNat = b.toNat) := Lib.hid (by rw [HB.out])
          by_cases hb : b.toNat < 128
          · have hbi : (b.toNat : Int) < 128 := by omega
            have hlast := sn_last HS hl h5 (by rw [HB'.out]; exact hb)
            rw [HB'.out, ← HX.out] at hlast
            have HL := Lib.hid hlast
            clear hlast hat hs hb
            by_cases hg : 4294967296 ≤ acc + x * 268435456
            · have hd : decide ((4294967296 : Int) ≤ (acc : Int) + (x : Int) * 268435456) = true := decide_eq_true (by omega)
              have HG := Lib.hid hg
              clear hg
              go_wp2
              go_ret3
              exact ⟨sn_fin2 HL.out HG.out, rfl⟩
            · have hd : decide ((4294967296 : Int) ≤ (acc : Int) + (x : Int) * 268435456) = false := decide_eq_false (by omega)
              have HG := Lib.hid hg
              clear hg
              go_wp2
              go_ret3
              exact ⟨sn_fin HL.out HG.out (by simp) (by simp), rfl⟩
          · have hbi : (128 : Int) ≤ (b.toNat : Int) := by omega
            have hnext := sn_next HS hl h5 (by rw [HB'.out]; exact hb)
            rw [HB'.out, ← HX.out] at hnext
            clear hat hs hb
            go_wp2
            go_roundw
            case rel => exact ⟨5, acc + x * 268435456, by omega, by omega, HN.out, by go_num, by go_num, hnext, rfl⟩
            case measure => simp [intOf]
      · have HST := Lib.hid (sn_stop HS (.inr (by omega)) hil)
        obtain rfl : i = l.length := by omega
        have hlb : decide ((l.length : Int) < (l.length : Int)) = false := decide_eq_false (by omega)
        have h5i : (l.length : Int) < 5 := by omega
        have h5f : decide ((5 : Int) < (l.length : Int)) = false := decide_eq_false (by omega)
        clear hat hs hacc
        go_wp2
        go_ret3
        exact ⟨sn_stop1 HST.out (by omega), rfl⟩
    · obtain rfl : i = 5 := by omega
      have HST := Lib.hid (sn_stop HS (.inl rfl) hil)
      have HIL := Lib.hid hil
      clear hat hs hacc hil
      by_cases h6 : 5 < l.length
      · have h6i : (5 : Int) < (l.length : Int) := by omega
        go_wp2
        go_ret3
        exact ⟨sn_stop2 HST.out h6, rfl⟩
      · have h6i : decide ((5 : Int) < (l.length : Int)) = false := decide_eq_false (by omega)
        go_wp2
        go_ret3
        exact ⟨sn_stop1 HST.out h6, rfl⟩

/-- the sentinel that a global variable holds is a value -/
def Sentinel (w : World) (g : Nat) (E : Value) : Prop := w.cell? ⟨g, 0, none⟩ = some E ∧ ∃ T a, E = .iface T (.pointer (some a))
theorem Sentinel.below {w w' : World} {g : Nat} {E : Value} {B : Nat} (h : Sentinel w g E) (hb : Below B w w') (hg : g < B) : Sentinel w' g E := ⟨(hb.cell (p := ⟨g, 0, none⟩) hg).trans h.1, h.2⟩

theorem uvarint_any (A : Option Addr) (n c : Nat) (l : List UInt8) (w : World) (hs : Sl w w.heap.size A n c l) :
    Calls Tryd.prog 18 #[.slice A n c] w fun e w' => e = .returned (.tuple #[.int .u64 (Lib.uvarintDec l).1, .int .i64 (Lib.uvarintDec l).2]) ∧ w = w' := by
  obtain rfl := hs.len
  rcases Nat.eq_zero_or_pos l.length with h | h
  · obtain rfl : l = [] := List.eq_nil_of_length_eq_zero h
    exact (Tryd.binary_Uvarint_empty A c w).mono fun _ _ h => ⟨h.1, h.2.symm⟩
  · obtain ⟨g, o, rfl, _, hc⟩ := hs.at_ h
    exact (Tryd.binary_Uvarint g o l.length c l w rfl hc).mono fun _ _ h => ⟨h.1, h.2.symm⟩

set_option maxHeartbeats 800000 in
theorem decodedLen_good (A : Option Addr) (n c : Nat) (l : List UInt8) (w : World) (hs : Sl w w.heap.size A n c l) (h : (snLength l).2.2 = 0) :
    Calls Tryd.prog 15 #[.slice A n c] w fun e w' => e = .returned (.tuple #[.int .i64 (snLength l).1, .int .i64 (snLength l).2.1, .nilIface]) ∧ w = w' := by
  obtain ⟨hd, h1, h2, h3, _⟩ := snLength_good l h
  have K := uvarint_any A n c l w hs
  rw [hd] at K
  obtain ⟨a, ha⟩ : ∃ a, a = (snLength l).1 := ⟨_, rfl⟩
  obtain ⟨b, hb⟩ : ∃ b, b = (snLength l).2.1 := ⟨_, rfl⟩
  rw [← ha, ← hb] at K ⊢
  rw [← ha] at h1
  rw [← hb] at h2 h3
  have h1i : decide ((4294967295 : Int) < (a : Int)) = false := decide_eq_false (by omega)
  have K' := Lib.hid K
  clear ha hb hd K h hs
  go_enter Tryd.func15, Tryd.ntmps15
  go_wp2_with (go_at_call 18; refine K'.out.mono ?_; rintro e w' ⟨rfl, rfl⟩)
  go_ret3
  exact ⟨rfl, rfl⟩

set_option maxHeartbeats 800000 in
theorem decodedLen_bad (A : Option Addr) (n c : Nat) (l : List UInt8) (w : World) (E : Value) (hs : Sl w w.heap.size A n c l) (h : (snLength l).2.2 = 1) (hE : w.cell? ⟨1, 0, none⟩ = some E) :
    Calls Tryd.prog 15 #[.slice A n c] w fun e w' => e = .returned (.tuple #[.int .i64 0, .int .i64 0, E]) ∧ DrewN w w' := by
  have hbad := snLength_bad l h
  have hlt := Lib.uvarintDec_lt l
  have K := uvarint_any A n c l w hs
  obtain ⟨a, ha⟩ : ∃ a, a = (Lib.uvarintDec l).1 := ⟨_, rfl⟩
  obtain ⟨b, hb⟩ : ∃ b, b = (Lib.uvarintDec l).2 := ⟨_, rfl⟩
  rw [← ha, ← hb] at K hbad
  have K' := Lib.hid K
  clear ha hb K h hs hlt
  by_cases b0 : b ≤ 0
  · go_enter Tryd.func15, Tryd.ntmps15
    go_wp2_with (go_at_call 18; refine K'.out.mono ?_; rintro e w' ⟨rfl, rfl⟩)
    go_quiet (fail)
    go_wp2
    go_ret3
    exact ⟨rfl, (DrewN.refl _).more _⟩
  by_cases b5 : 5 < b
  · go_enter Tryd.func15, Tryd.ntmps15
    go_wp2_with (go_at_call 18; refine K'.out.mono ?_; rintro e w' ⟨rfl, rfl⟩)
    go_quiet (fail)
    go_wp2
    go_ret3
    exact ⟨rfl, (DrewN.refl _).more _⟩
  · have hai : decide ((4294967295 : Int) < (a : Int)) = true := decide_eq_true (by omega)
    clear hbad
    go_enter Tryd.func15, Tryd.ntmps15
    go_wp2_with (go_at_call 18; refine K'.out.mono ?_; rintro e w' ⟨rfl, rfl⟩)
    go_quiet (fail)
    go_wp2
    go_ret3
    exact ⟨rfl, (DrewN.refl _).more _⟩
end Go.Proofs.YthiklljhhnedkaaDoor
