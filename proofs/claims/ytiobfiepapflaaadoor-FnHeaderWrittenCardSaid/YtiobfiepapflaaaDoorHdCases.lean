/-
  The header of a frame, case by case: what spec.TellHeader says and what the package does. Conditions: none but those stated.
-/
import Derived.Test.YtiobfiepapflaaaDoorDecM
import Derived.Test.YtiobfiepapflaaaDoorDecS
namespace Go.Proofs.YtiobfiepapflaaaDoor
open Go.RowKit

def TellsTo (l : List UInt8) (R : Array Value) (cls : Int) : Prop :=
  ∀ (A : Option Addr) (n c : Nat) (w : World), Sl w w.heap.size A n c l → Calls Tryd.prog 6 #[.slice A n c] w fun e w' => e = .returned (.tuple #[.agg R, .int .i64 cls]) ∧ Below w.heap.size w w'
def DecBad (l : List UInt8) : Prop :=
  ∀ (D : Nat) (A : Option Addr) (n c : Nat) (w : World) (T0 T1 : TypeId) (a0 a1 : Addr) (old : Array Value), old.size = 15 → w.heap[D]? = some (.cells old 46 (0, 0)) → Sl w D A n c l → 1 < D →
    w.cell? ⟨0, 0, none⟩ = some (.iface T0 (.pointer (some a0))) → w.cell? ⟨1, 0, none⟩ = some (.iface T1 (.pointer (some a1))) →
    Calls Tryd.prog 15 #[.pointer (some ⟨D, 0, none⟩), .slice A n c] w fun e w' => (∃ T a, e = .returned (.tuple #[.slice none 0 0, .iface T (.pointer (some a))])) ∧ Below D w w'
def DecGood (l : List UInt8) (p : Nat) (R : Array Value) : Prop :=
  ∀ (D : Nat) (A : Option Addr) (n c : Nat) (w : World) (E : Value) (old : Array Value), old.size = 15 → w.heap[D]? = some (.cells old 46 (0, 0)) → Sl w D A n c l → 1 < D → w.cell? ⟨0, 0, none⟩ = some E →
    Calls Tryd.prog 15 #[.pointer (some ⟨D, 0, none⟩), .slice A n c] w fun e w' => (∃ A c, e = .returned (.tuple #[.slice A (l.length - p) c, .nilIface])) ∧ w'.heap[D]? = some (.cells R 46 (0, 0)) ∧ Below D w w'

theorem flag_same (n : Nat) (h : n < 256) : bits .and .i64 (n : Int) 8 = bits .and .u8 (n : Int) 8 ∧ bits .and .i64 (n : Int) 32 = bits .and .u8 (n : Int) 32 ∧ bits .and .i64 (n : Int) 4 = bits .and .u8 (n : Int) 4 ∧ bits .and .i64 (n : Int) 3 = bits .and .u8 (n : Int) 3 := by
  have hf : ∀ n : Fin 256, bits .and .i64 ((n : Nat) : Int) 8 = bits .and .u8 ((n : Nat) : Int) 8 ∧ bits .and .i64 ((n : Nat) : Int) 32 = bits .and .u8 ((n : Nat) : Int) 32 ∧ bits .and .i64 ((n : Nat) : Int) 4 = bits .and .u8 ((n : Nat) : Int) 4 ∧ bits .and .i64 ((n : Nat) : Int) 3 = bits .and .u8 ((n : Nat) : Int) 3 := by decide +kernel
  exact hf ⟨n, h⟩
theorem flag_bits (n : Nat) (h : n < 256) : (bits .and .u8 (n : Int) 8 = 0 ∨ (bits .and .u8 (n : Int) 8 != 0) = true) ∧ (bits .and .u8 (n : Int) 32 = 0 ∨ bits .and .u8 (n : Int) 32 = 32) ∧ bits .and .u8 (n : Int) 3 = ((n % 4 : Nat) : Int) := by
  have hf : ∀ n : Fin 256, (bits .and .u8 ((n : Nat) : Int) 8 = 0 ∨ (bits .and .u8 ((n : Nat) : Int) 8 != 0) = true) ∧ (bits .and .u8 ((n : Nat) : Int) 32 = 0 ∨ bits .and .u8 ((n : Nat) : Int) 32 = 32) ∧ bits .and .u8 ((n : Nat) : Int) 3 = (((n : Nat) % 4 : Nat) : Int) := by decide +kernel
  exact hf ⟨n, h⟩
theorem and15 (n : Nat) (h : n < 256) : 0 ≤ bits .and .u8 (n : Int) 15 ∧ bits .and .u8 (n : Int) 15 ≤ 255 := by
  have hf : ∀ n : Fin 256, 0 ≤ bits .and .u8 ((n : Nat) : Int) 15 ∧ bits .and .u8 ((n : Nat) : Int) 15 ≤ 255 := by decide +kernel
  exact hf ⟨n, h⟩
theorem dict_table (d : Nat) (h : d < 4) : ∃ dn, dn = [0, 1, 2, 4].getD d 0 ∧ dn ≤ 4 ∧ ∀ W, (Instr.index 42 (.agg #[.int .i64 0, .int .i64 1, .int .i64 2, .int .i64 4]) (.int .i64 d)).run Tryd.prog W = .ok (.int .i64 (dn : Nat)) W := by
  rcases (show d = 0 ∨ d = 1 ∨ d = 2 ∨ d = 3 by omega) with rfl | rfl | rfl | rfl
  · exact ⟨0, rfl, by omega, fun _ => by kernel_rfl⟩
  · exact ⟨1, rfl, by omega, fun _ => by kernel_rfl⟩
  · exact ⟨2, rfl, by omega, fun _ => by kernel_rfl⟩
  · exact ⟨4, rfl, by omega, fun _ => by kernel_rfl⟩
theorem size_table (v : Nat) (h : v < 4) (z : Nat) (hz : z ≤ 1) : ∃ sz, sz = [z, 2, 4, 8].getD v 0 ∧ sz ≤ 8 ∧ #[Value.int .i64 z, Value.int .i64 2, Value.int .i64 4, Value.int .i64 8][v]? = some (.int .i64 (sz : Nat)) := by
  rcases (show v = 0 ∨ v = 1 ∨ v = 2 ∨ v = 3 by omega) with rfl | rfl | rfl | rfl
  · exact ⟨z, rfl, by omega, rfl⟩
  · exact ⟨2, rfl, by omega, rfl⟩
  · exact ⟨4, rfl, by omega, rfl⟩
  · exact ⟨8, rfl, by omega, rfl⟩

theorem header_cases (l : List UInt8) : TellsTo l hdZ 2 ∨ (TellsTo l hdZ 1 ∧ DecBad l) ∨
    (∃ x X : Int, 8 ≤ l.length ∧ TellsTo l (hdS x X) 0 ∧ DecGood l 8 (zhA false 0 0 false 0 true x X 8 false false false 0 0 false)) ∨
    (∃ (S : Bool) (win dict : Int) (has : Bool) (size : Int) (p : Nat) (K : Bool), 5 ≤ p ∧ p ≤ l.length ∧ TellsTo l (hdA S win dict has size p K) 0 ∧ DecGood l p (zhB S win dict has size p K (blkOf (l.drop p)))) := by
  by_cases h4 : l.length < 4
  · refine .inr (.inl ⟨fun A n c w hs => tell_lt4 A n c w (by rw [← hs.len]; exact h4), fun D A n c w T0 T1 a0 a1 old ho hd hs hD h0 h1 => ?_⟩)
    exact (dec_lt4 D A n c w _ old ho hd (by rw [← hs.len]; exact h4) hD h0).mono fun e w' h => ⟨⟨_, _, h.1⟩, h.2⟩
  have h4 : 4 ≤ l.length := by omega
  obtain ⟨M, hM⟩ : ∃ M, Lib.leNat (l.take 4) = M := ⟨_, rfl⟩
  by_cases hA : (bits .andNot .u32 (M : Int) 15 == 407710288) = true
  · obtain ⟨hm1, hm2, hm3⟩ := skip_iff l h4 M hM hA
    have hb := l[0].toNat_lt
    by_cases h8 : l.length < 8
    · refine .inr (.inl ⟨fun A n c w hs => tell_skip_short A n c l w hs h4 M hM hA h8, fun D A n c w T0 T1 a0 a1 old ho hd hs hD h0 h1 => ?_⟩)
      exact (dec_skip_short D A n c l w _ old ho hd hs (by rw [← hs.len]; exact h4) (by rw [hM]; exact hm3) (by rw [hm1]; rfl) _ rfl hm2 (by rw [← hs.len]; exact h8) hD h0).mono fun e w' h => ⟨⟨_, _, h.1⟩, h.2⟩
    · obtain ⟨hx0, hx1⟩ := and15 _ hb
      refine .inr (.inr (.inl ⟨_, _, by omega, fun A n c w hs => tell_skip A n c l w hs h4 M hM hA (by omega) _ rfl hx0 hx1, fun D A n c w E old ho hd hs hD h0 => ?_⟩))
      refine (dec_skip D A n c l w old ho hd hs (by rw [← hs.len]; exact h4) (by rw [hM]; exact hm3) (by rw [hm1]; rfl) _ rfl hm2 (by rw [← hs.len]; omega) _ rfl hx0 hx1).mono ?_
      rintro e w' ⟨A', c', he, hd', hb'⟩
      exact ⟨⟨A', c', he⟩, hd', hb'⟩
  · have hA : (bits .andNot .u32 (M : Int) 15 == 407710288) = false := by simpa using hA
    by_cases hne : M = 4247762216
    · subst hne
      by_cases h5 : l.length < 5
      · refine .inr (.inl ⟨fun A n c w hs => tell_n4 A n c l w hs h4 hM h5, fun D A n c w T0 T1 a0 a1 old ho hd hs hD h0 h1 => ?_⟩)
        exact (dec_n4 D A n c l w _ old ho hd hs (by rw [← hs.len]; omega) hM hD h0).mono fun e w' h => ⟨⟨_, _, h.1⟩, h.2⟩
      · have h5 : 5 ≤ l.length := by omega
        have hF := l[4].toNat_lt
        obtain ⟨s8, s32, s4, s3⟩ := flag_same _ hF
        obtain ⟨b8, b32, b3⟩ := flag_bits _ hF
        rcases b8 with b8 | b8
        · obtain ⟨dn, hdn, hdn4, hdi⟩ := dict_table (l[4].toNat % 4) (Nat.mod_lt _ (by omega))
          have hFg : l.getD 4 0 = UInt8.ofNat l[4].toNat := by simp [List.getD_eq_getElem?_getD, List.getElem?_eq_getElem (show 4 < l.length by omega)]
          have hv4 : l[4].toNat / 64 < 4 := by omega
          have hvv : ((l[4].toNat : Nat) : Int) / 64 = ((l[4].toNat / 64 : Nat) : Int) := by omega
          rcases b32 with b32 | b32
          · obtain ⟨sz, hsz, hsz8, hvi⟩ := size_table (l[4].toNat / 64) hv4 0 (by omega)
            by_cases hlong : 5 + 1 + dn + sz ≤ l.length
            · refine .inr (.inr (.inr ⟨false, winV l[5].toNat, Lib.leNat ((l.drop 6).take dn), decide (0 < sz), sV sz (Lib.leNat ((l.drop (6 + dn)).take sz)), 6 + dn + sz, bits .and .u8 (l[4].toNat : Int) 4 != 0, by omega, by omega, fun A n c w hs => ?_, fun D A n c w E old ho hd hs hD h0 => ?_⟩))
              · have K := tell_goodF A n c l w hs h5 hM _ (s8.trans b8) (s32.trans b32) rfl _ _ dn sz (s3.trans b3) hvv (Nat.mod_lt _ (by omega)) hv4 hdn4 hsz8 hdi hvi hlong
                rw [s4, List.drop_drop] at K
                rw [show (((6 + dn + sz : Nat)) : Int) = 6 + (dn : Int) + sz by omega]
                exact K
              · have K := dec_main D A n c l w E old ho hd hs (by rw [← hs.len]; exact h5) hM hD h0 l[4].toNat hFg hF b8 false _ (by rw [b32]; rfl) rfl _ _ b3 hvv (Nat.mod_lt _ (by omega)) hv4 dn sz hdn hsz
                refine K.mono ?_
                rintro e w' (⟨hp, A', c', he, hd', hb'⟩ | ⟨hp, _⟩)
                · refine ⟨⟨A', c', he⟩, ?_, hb'⟩
                  rw [hd']
                  have e5 : l.getD 5 0 = l[5] := by simp [List.getD_eq_getElem?_getD, List.getElem?_eq_getElem (show 5 < l.length by omega)]
                  rw [e5]
                  rfl
                · simp [p1] at hp
                  omega
            · refine .inr (.inl ⟨fun A n c w hs => ?_, fun D A n c w T0 T1 a0 a1 old ho hd hs hD h0 h1 => ?_⟩)
              · exact tell_shortF A n c l w hs h5 hM _ (s8.trans b8) (s32.trans b32) rfl _ _ dn sz (s3.trans b3) hvv (Nat.mod_lt _ (by omega)) hv4 hdn4 hsz8 hdi hvi hlong
              · have K := dec_main D A n c l w _ old ho hd hs (by rw [← hs.len]; exact h5) hM hD h0 l[4].toNat hFg hF b8 false _ (by rw [b32]; rfl) rfl _ _ b3 hvv (Nat.mod_lt _ (by omega)) hv4 dn sz hdn hsz
                refine K.mono ?_
                rintro e w' (⟨hp, _⟩ | ⟨hp, he, hb'⟩)
                · simp [p1] at hp
                  omega
                · exact ⟨⟨_, _, he⟩, hb'⟩
          · obtain ⟨sz, hsz, hsz8, hvi⟩ := size_table (l[4].toNat / 64) hv4 1 (by omega)
            by_cases hlong : 5 + dn + sz ≤ l.length
            · refine .inr (.inr (.inr ⟨true, 0, Lib.leNat ((l.drop 5).take dn), decide (0 < sz), sV sz (Lib.leNat ((l.drop (5 + dn)).take sz)), 5 + dn + sz, bits .and .u8 (l[4].toNat : Int) 4 != 0, by omega, by omega, fun A n c w hs => ?_, fun D A n c w E old ho hd hs hD h0 => ?_⟩))
              · have K := tell_goodT A n c l w hs h5 hM _ (s8.trans b8) (s32.trans b32) rfl _ _ dn sz (s3.trans b3) hvv (Nat.mod_lt _ (by omega)) hv4 hdn4 hsz8 hdi hvi hlong
                rw [s4, List.drop_drop] at K
                rw [show (((5 + dn + sz : Nat)) : Int) = 5 + (dn : Int) + sz by omega]
                exact K
              · have K := dec_main D A n c l w E old ho hd hs (by rw [← hs.len]; exact h5) hM hD h0 l[4].toNat hFg hF b8 true _ (by rw [b32]; rfl) rfl _ _ b3 hvv (Nat.mod_lt _ (by omega)) hv4 dn sz hdn hsz
                refine K.mono ?_
                rintro e w' (⟨hp, A', c', he, hd', hb'⟩ | ⟨hp, _⟩)
                · exact ⟨⟨A', c', he⟩, hd', hb'⟩
                · simp [p1] at hp
                  omega
            · refine .inr (.inl ⟨fun A n c w hs => ?_, fun D A n c w T0 T1 a0 a1 old ho hd hs hD h0 h1 => ?_⟩)
              · exact tell_shortT A n c l w hs h5 hM _ (s8.trans b8) (s32.trans b32) rfl _ _ dn sz (s3.trans b3) hvv (Nat.mod_lt _ (by omega)) hv4 hdn4 hsz8 hdi hvi hlong
              · have K := dec_main D A n c l w _ old ho hd hs (by rw [← hs.len]; exact h5) hM hD h0 l[4].toNat hFg hF b8 true _ (by rw [b32]; rfl) rfl _ _ b3 hvv (Nat.mod_lt _ (by omega)) hv4 dn sz hdn hsz
                refine K.mono ?_
                rintro e w' (⟨hp, _⟩ | ⟨hp, he, hb'⟩)
                · simp [p1] at hp
                  omega
                · exact ⟨⟨_, _, he⟩, hb'⟩
        · exact .inl fun A n c w hs => tell_open A n c l w hs h5 hM (by rw [s8]; exact b8)
    · refine .inr (.inl ⟨fun A n c w hs => tell_other A n c l w hs h4 M hM hA hne, fun D A n c w T0 T1 a0 a1 old ho hd hs hD h0 h1 => ?_⟩)
      rcases skip_not l h4 M hM hA with hN | ⟨hN, hP⟩
      · exact (dec_other1 D A n c l w _ old ho hd hs (by rw [← hs.len]; exact h4) (by rw [hM]; exact hne) hN hD h1).mono fun e w' h => ⟨⟨_, _, h.1⟩, h.2⟩
      · exact (dec_other2 D A n c l w _ old ho hd hs (by rw [← hs.len]; exact h4) (by rw [hM]; exact hne) hN _ rfl hP hD h1).mono fun e w' h => ⟨⟨_, _, h.1⟩, h.2⟩
end Go.Proofs.YtiobfiepapflaaaDoor
