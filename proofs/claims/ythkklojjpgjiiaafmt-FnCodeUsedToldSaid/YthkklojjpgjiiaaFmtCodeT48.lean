/-
  impl.CanCode: the code is built, looked at twice. Conditions: those of each.
-/
import Derived.Test.YthkklojjpgjiiaaFmtCodeT47
namespace Go.Proofs.YthkklojjpgjiiaaFmt
open Go.RowKit Go.Extern.Stop Go.Stop Go.Extern

/-- the numbers that counts lays -/
def hstL (l : List Nat) (n k : Nat) : Nat := if k < n then cntL l k else 0
theorem PTab.below {w w' : World} {H G m cG NG B : Nat} {fh tv : Nat → Value} {TT : TypeId} {nb : Nat → Nat} (h : PTab w H G m cG fh tv TT NG nb) (hb : Below B w w') (hB : w.heap.size ≤ B) : PTab w' H G m cG fh tv TT NG nb :=
  ⟨h.row.below hb (by have := h.row.lt; omega), h.prev, h.tab.below hb (by have := h.tab.lt; omega), h.fit, h.bit⟩
theorem PTab.drew {w w' : World} {H G m cG NG : Nat} {fh tv : Nat → Value} {TT : TypeId} {nb : Nat → Nat} (h : PTab w H G m cG fh tv TT NG nb) (hd : DrewN w w') : PTab w' H G m cG fh tv TT NG nb := by
  obtain ⟨q, rfl⟩ := hd
  exact ⟨h.row.drewN q, h.prev, h.tab.drewN q, h.fit, h.bit⟩
theorem hst_lt {w : World} {B : Nat} {A : Option Addr} {n c : Nat} {l : List Nat} (hs : Sw w B A n c l) (k : Nat) : hstL l n k < 65536 := by
  have h1 := hs.2.2.2.1 k
  unfold hstL cntL
  split
  · split <;> omega
  · omega
theorem cnt_row {w : World} {g n : Nat} {l : List Nat} (h : RowF w g 40 256 (cntV l n)) : RowF w g 40 256 (fun k => .int .u32 (hstL l n k : Nat)) := h.congr fun _ _ => rfl
/-- every symbol of the second list is in the first -/
def CovH (l1 l2 : List Nat) (n1 n2 : Nat) : Prop := ∀ i, i < 256 → 0 < hstL l2 n2 i → 0 < hstL l1 n1 i
/-- what CanCode hands back -/
def CanPost (l1 l2 : List Nat) (n1 n2 : Nat) (e : Ending) : Prop :=
  (usd (hstL l1 n1) 256 < 2 ∧ e = .returned (.tuple #[.bool false, .int .i64 0, .bool false])) ∨
  (2 ≤ usd (hstL l1 n1) 256 ∧ ((CovH l1 l2 n1 n2 ∧ ∃ z : Nat, e = .returned (.tuple #[.bool true, .int .i64 (z : Nat), .bool true])) ∨ (¬ CovH l1 l2 n1 n2 ∧ e = .returned (.tuple #[.bool false, .int .i64 (-1), .bool true]))))
set_option maxRecDepth 100000 in
set_option maxHeartbeats 12800000 in
theorem canCode_any {w : World} {A1 A2 : Option Addr} {n1 c1 n2 c2 : Nat} {l1 l2 : List Nat} {t0 : TypeId} {p0 : Option Addr} (hs1 : Sw w w.heap.size A1 n1 c1 l1) (hs2 : Sw w w.heap.size A2 n2 c2 l2) (hn1 : n1 ≤ 2147483647) (hn2 : n2 ≤ 2147483647) (h0 : w.cell? ⟨0, 0, none⟩ = some (.iface t0 (.pointer p0))) :
    Calls Tryf.prog 6 #[.slice A1 n1 c1, .slice A2 n2 c2] w fun e w' => Below w.heap.size w w' ∧ CanPost l1 l2 n1 n2 e := by
  have h0lt := block_lt_of_cell h0
  have HS1 := Lib.hid hs1
  have HS2 := Lib.hid hs2
  have H0 := Lib.hid h0
  have H0L := Lib.hid h0lt
  clear hs1 hs2 h0 h0lt
  go_enter Tryf.func6, Tryf.ntmps6
  go_upto_region 2 with fail
  have hR : RowF (w.alloc (.cells Tryf.zeroCells58 58)) w.heap.size 58 540 hz0 := ⟨_, heap_alloc_new _ _, hz_size, getD_run _ 540 hz_size⟩
  have hB := below_new w (.cells Tryf.zeroCells58 58)
  have hlt := hR.lt
  generalize hw1 : World.alloc w _ = w1 at hR hB hlt ⊢
  obtain ⟨H, hH⟩ : ∃ H, w.heap.size = H := ⟨_, rfl⟩
  have hs1 := HS1.out.below (hB.mono (Nat.le_refl _))
  have hs2 := HS2.out.below (hB.mono (Nat.le_refl _))
  have h0 := (hB.cell (p := ⟨0, 0, none⟩) H0L.out).trans H0.out
  have h0l := H0L.out
  rw [hH] at hR hB hs1 hs2 h0l hlt ⊢
  have K1 := Lib.hid (counts_any hs1 (by omega) hn1)
  have HR := Lib.hid hR
  have HB := Lib.hid hB
  have HS1b := Lib.hid hs1
  have HS2b := Lib.hid hs2
  have H0b := Lib.hid h0
  have H0H := Lib.hid (Nat.ne_of_lt h0l)
  have HHlt := Lib.hid hlt
  have HHE := Lib.hid hH
  clear hR hB hs1 hs2 h0 h0l hw1 hH HS1 HS2 H0 hlt
  go_wp2_with fail
  refine K1.out.mono ?_
  rintro e w2 ⟨rfl, hg1, hb2⟩
  have hlt1 := HHlt.out
  have K2 := Lib.hid (buildT_any (h := hstL l1 n1) (HR.out.below hb2 hlt1) (cnt_row hg1) (by omega) (hst_lt HS1b.out) ((hb2.cell (p := ⟨0, 0, none⟩) (block_lt_of_cell H0b.out)).trans H0b.out) H0H.out)
  have hsz2 := hb2.size
  have HB2 := Lib.hid (HB.out.trans (hb2.mono (by omega)))
  have HS2c := Lib.hid (HS2b.out.below (hb2.mono (by omega)))
  clear hg1 hb2
  go_wp2_with fail
  refine K2.out.mono ?_
  rintro e w3 ⟨ho3, hp3⟩
  have hb3 : Below H w2 w3 := ho3.below H (fun k hk h => by rcases h with h | h <;> omega) (by omega)
  have HB3 := Lib.hid (HB2.out.trans hb3)
  have HS2d := Lib.hid (HS2c.out.below hb3)
  have hsz3 := hb3.size
  clear ho3 hb3
  rcases hp3 with ⟨hu, t, v, rfl⟩ | ⟨hu, rfl, S, nb, Pt, f', tv, hS1, hS2, hiff, hpt⟩
  · have HU := Lib.hid hu
    clear hu
    go_wp2_with fail
    go_ret3
    rw [HHE.out]
    exact ⟨HB3.out, .inl ⟨HU.out, rfl⟩⟩
  · have HU := Lib.hid hu
    have HIFF := Lib.hid hiff
    have HPT := Lib.hid hpt
    have K3 := Lib.hid (counts_any HS2d.out (by omega) hn2)
    clear hu hiff hpt
    go_wp2_with fail
    refine K3.out.mono ?_
    rintro e w4 ⟨rfl, hg4, hb4⟩
    have hpt4 := HPT.out.below hb4 (Nat.le_refl _)
    have K4 := Lib.hid (canUse_any (hv := hstL l2 n2) hpt4 hS1 hS2 (cnt_row hg4) (hst_lt HS2d.out))
    have HPT4 := Lib.hid hpt4
    have hsz4 := hb4.size
    have HB4 := Lib.hid (HB3.out.trans (hb4.mono (by omega)))
    have HS4 := Lib.hid (HS2d.out.below (hb4.mono (by omega)))
    clear hg4 hb4 hpt4
    go_wp2_with fail
    refine K4.out.mono ?_
    rintro e w5 ⟨hcan, hd5⟩
    have hH5 : H ≤ w5.heap.size := by have := hd5.size; omega
    have HPT5 := Lib.hid (HPT4.out.drew hd5)
    have HB5 := Lib.hid (HB4.out.trans (hd5.below H))
    have HS5 := Lib.hid (HS4.out.below (hd5.below H))
    clear hd5
    have K5 := Lib.hid (counts_any HS5.out (by omega) hn2)
    have hcov : CovT (hstL l2 n2) nb S 256 ↔ CovH l1 l2 n1 n2 := ⟨fun h i hi h2 => (HIFF.out i hi).1 (h i hi h2), fun h i hi h2 => (HIFF.out i hi).2 (h i hi h2)⟩
    have HCOV := Lib.hid hcov
    clear hcov
    rcases hcan with ⟨hc, rfl⟩ | ⟨hc, rfl⟩
    · have HC := Lib.hid hc
      clear hc
      go_wp2_with fail
      refine K5.out.mono ?_
      rintro e w6 ⟨rfl, hg6, hb6⟩
      have K6 := Lib.hid (estSize_any (hv := hstL l2 n2) (HPT5.out.below hb6 (Nat.le_refl _)) hS1 hS2 (cnt_row hg6) (hst_lt HS5.out))
      have HB6 := Lib.hid (HB5.out.trans (hb6.mono (by omega)))
      clear hg6 hb6
      go_wp2_with fail
      refine K6.out.mono ?_
      rintro e w7 ⟨hest, hd7⟩
      rcases hest with ⟨_, z, rfl⟩ | ⟨hno, _⟩
      · have HB7 := Lib.hid (HB6.out.trans (hd7.below H))
        clear hd7
        go_wp2_with fail
        go_ret3
        rw [HHE.out]
        exact ⟨HB7.out, .inr ⟨HU.out, .inl ⟨HCOV.out.1 HC.out, z, rfl⟩⟩⟩
      · exact absurd HC.out hno
    · have HC := Lib.hid hc
      clear hc
      go_wp2_with fail
      refine K5.out.mono ?_
      rintro e w6 ⟨rfl, hg6, hb6⟩
      have K6 := Lib.hid (estSize_any (hv := hstL l2 n2) (HPT5.out.below hb6 (Nat.le_refl _)) hS1 hS2 (cnt_row hg6) (hst_lt HS5.out))
      have HB6 := Lib.hid (HB5.out.trans (hb6.mono (by omega)))
      clear hg6 hb6
      go_wp2_with fail
      refine K6.out.mono ?_
      rintro e w7 ⟨hest, hd7⟩
      rcases hest with ⟨hyes, _⟩ | ⟨_, rfl⟩
      · exact absurd hyes HC.out
      · have HB7 := Lib.hid (HB6.out.trans (hd7.below H))
        clear hd7
        go_wp2_with fail
        go_ret3
        rw [HHE.out]
        exact ⟨HB7.out, .inr ⟨HU.out, .inr ⟨fun h => HC.out (HCOV.out.2 h), rfl⟩⟩⟩
end Go.Proofs.YthkklojjpgjiiaaFmt
