/-
  laws.FnCodeUsed: it returns true and keeps what there was. Conditions: the sentinel huff0.ErrUseRLE stands as laid.
-/
import Derived.Test.YthkklojjpgjiiaaFmtCodeT48
namespace Go.Proofs.YthkklojjpgjiiaaFmt
open Go.RowKit Go.Extern.Stop Go.Stop Go.Extern

theorem sm_stop {f : Nat → Nat} {a b : Nat} (hab : a ≤ b) (h : ∀ i, a ≤ i → i < b → f i = 0) : sm f b = sm f a := by
  induction b with
  | zero => rw [show a = 0 by omega]
  | succ b ih =>
    by_cases e : a = b + 1
    · rw [e]
    · rw [sm, ih (by omega) (fun i h1 h2 => h i h1 (by omega)), h b (by omega) (by omega), Nat.add_zero]
theorem used_same (l : List Nat) (n : Nat) : usd (hstL l n) 256 = usedL l n := by
  have e1 : ∀ i, i < n → (if 0 < hstL l n i then 1 else 0) = (if 0 < cntL l i then 1 else 0) := fun i hi => by unfold hstL; rw [if_pos hi]
  have e2 : ∀ i, n ≤ i → (if 0 < hstL l n i then 1 else 0) = 0 := fun i hi => by
    have h1 : hstL l n i = 0 := if_neg (by omega)
    rw [h1]; rfl
  have e3 : ∀ i, 256 ≤ i → (if 0 < cntL l i then 1 else 0) = 0 := fun i hi => by
    have h1 : cntL l i = 0 := if_neg (by omega)
    rw [h1]; rfl
  unfold usd usedL
  by_cases h : n ≤ 256
  · rw [sm_stop h fun i h1 _ => e2 i h1]
    exact sm_congr e1
  · rw [sm_stop (show 256 ≤ n by omega) fun i h1 _ => e3 i h1]
    exact sm_congr fun i hi => e1 i (by omega)
theorem cov_same {w : World} {B : Nat} {A : Option Addr} {n1 c : Nat} {l1 : List Nat} (hs : Sw w B A n1 c l1) (l2 : List Nat) (n2 : Nat) : CovH l1 l2 n1 n2 ↔ CovL l1 l2 n2 := by
  have hlen := hs.len
  have hin : ∀ i, 0 < cntL l1 i → i < n1 := fun i h => by
    by_cases e : i < n1
    · exact e
    · unfold cntL at h
      rw [List.getD_eq_getElem?_getD, List.getElem?_eq_none (by omega)] at h
      split at h <;> exact absurd h (by decide)
  constructor
  · intro h i hi h2
    have hi2 : i < 256 := by
      by_cases e : i < 256
      · exact e
      · unfold cntL at h2; rw [if_neg e] at h2; omega
    have h3 := h i hi2 (by unfold hstL; rw [if_pos hi]; exact h2)
    unfold hstL at h3
    split at h3
    · exact h3
    · omega
  · intro h i hi h2
    have hi2 : i < n2 := by
      by_cases e : i < n2
      · exact e
      · unfold hstL at h2; rw [if_neg e] at h2; omega
    have h3 := h i hi2 (by unfold hstL at h2; rw [if_pos hi2] at h2; exact h2)
    unfold hstL
    rw [if_pos (hin i h3)]
    exact h3
set_option maxRecDepth 100000 in
set_option maxHeartbeats 3200000 in
theorem codeLaw_walk {W : World} {A1 A2 : Option Addr} {n1 c1 n2 c2 : Nat} {l1 l2 : List Nat} {t0 : TypeId} {p0 : Option Addr} (hs1 : Sw W W.heap.size A1 n1 c1 l1) (hs2 : Sw W W.heap.size A2 n2 c2 l2) (h0 : W.cell? ⟨0, 0, none⟩ = some (.iface t0 (.pointer p0))) :
    Calls Tryf.prog 3 #[.slice A1 n1 c1, .slice A2 n2 c2] W fun e w' => e = .returned (.bool true) ∧ Below W.heap.size W w' := by
  have HS1 := Lib.hid hs1
  have HS2 := Lib.hid hs2
  have H0 := Lib.hid h0
  clear hs1 hs2 h0
  by_cases h1 : (2147483647 : Int) < (n1 : Int)
  · have hd1 : decide ((2147483647 : Int) < (n1 : Int)) = true := decide_eq_true h1
    go_enter Tryf.func3, Tryf.ntmps3
    go_wp2_with fail
    go_ret
    exact ⟨rfl, Below.refl _ _⟩
  have hd1 : decide ((2147483647 : Int) < (n1 : Int)) = false := decide_eq_false h1
  by_cases h2 : (2147483647 : Int) < (n2 : Int)
  · have hd2 : decide ((2147483647 : Int) < (n2 : Int)) = true := decide_eq_true h2
    go_enter Tryf.func3, Tryf.ntmps3
    go_wp2_with fail
    go_ret
    exact ⟨rfl, Below.refl _ _⟩
  have hd2 : decide ((2147483647 : Int) < (n2 : Int)) = false := decide_eq_false h2
  have K5 := Lib.hid (countUsed_any HS1.out (by omega))
  have K6 := Lib.hid (canCode_any HS1.out HS2.out (by omega) (by omega) H0.out)
  have hus := used_same l1 n1
  have HUS := Lib.hid hus
  have hub := usedL_le l1 n1
  obtain ⟨u, hu⟩ : ∃ u, usedL l1 n1 = u := ⟨_, rfl⟩
  rw [hu] at K5 hub
  have HU := Lib.hid hu
  clear hus hu
  go_enter Tryf.func3, Tryf.ntmps3
  go_wp2_with fail
  refine K5.out.mono ?_
  rintro e w1 ⟨⟨v, rfl⟩, h9⟩
  have h9 := h9.symm
  subst h9
  go_wp2_with fail
  refine K6.out.mono ?_
  rintro e w2 ⟨hb, hp⟩
  have HB := Lib.hid hb
  rcases hp with ⟨hu2, rfl⟩ | ⟨hu2, hp⟩
  · have hul : (u : Int) < 2 := by rw [HUS.out, HU.out] at hu2; omega
    have hdl : decide ((u : Int) < 2) = true := decide_eq_true hul
    clear hb hu2
    go_wp2_with fail
    go_ret
    exact ⟨rfl, HB.out⟩
  · have hul : ¬ (u : Int) < 2 := by rw [HUS.out, HU.out] at hu2; omega
    have hdl : decide ((u : Int) < 2) = false := decide_eq_false hul
    have K7 := Lib.hid (covers_any (HS1.out.below hb) (HS2.out.below hb) (by omega) (by omega))
    have HCS := Lib.hid (cov_same HS1.out l2 n2)
    clear hb hu2
    rcases hp with ⟨hc, z, rfl⟩ | ⟨hc, rfl⟩
    · have HC := Lib.hid hc
      clear hc
      have hz : (0 : Int) ≤ (z : Int) := by omega
      have hz2 : (-1 : Int) ≤ (z : Int) := by omega
      have hdz : decide ((0 : Int) ≤ (z : Int)) = true := decide_eq_true hz
      have hdz2 : decide ((-1 : Int) ≤ (z : Int)) = true := decide_eq_true hz2
      go_wp2_with fail
      refine K7.out.mono ?_
      rintro e w3 ⟨hcv, h9⟩
      have h9 := h9.symm
      subst h9
      rcases hcv with ⟨_, rfl⟩ | ⟨hno, _⟩
      · go_wp2_with fail
        go_ret
        exact ⟨rfl, HB.out⟩
      · exact absurd (HCS.out.1 HC.out) hno
    · have HC := Lib.hid hc
      clear hc
      go_wp2_with fail
      refine K7.out.mono ?_
      rintro e w3 ⟨hcv, h9⟩
      have h9 := h9.symm
      subst h9
      rcases hcv with ⟨hyes, _⟩ | ⟨_, rfl⟩
      · exact absurd (HCS.out.2 hyes) HC.out
      · go_wp2_with fail
        go_ret
        exact ⟨rfl, HB.out⟩
end Go.Proofs.YthkklojjpgjiiaaFmt
