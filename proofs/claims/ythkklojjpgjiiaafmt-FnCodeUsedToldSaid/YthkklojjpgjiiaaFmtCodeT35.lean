/-
  huff0's buildCTable: from the tree on. Conditions: those of the theorem.
-/
import Derived.Test.YthkklojjpgjiiaaFmtCodeT30
import Derived.Test.YthkklojjpgjiiaaFmtCodeT33
import Derived.Test.YthkklojjpgjiiaaFmtCodeT34
namespace Go.Proofs.YthkklojjpgjiiaaFmt
open Go.RowKit

theorem Full.congr {n L : Nat} {l l' : Nat → Nat} (h : Full n L l) (he : ∀ i, i < n → l i = l' i) : Full n L l' := by
  refine ⟨fun i j hij hj => ?_, fun i hi => ?_, ?_⟩
  · rw [← he i (by omega), ← he j hj]; exact h.1 i j hij hj
  · rw [← he i hi]; exact h.2.1 i hi
  · rw [← h.2.2]
    exact sm_congr fun i hi => by rw [he i hi]
theorem sm_24 {n : Nat} {cnt : Nat → Nat} (hn : n ≤ 256) (hc : ∀ p, cnt p < 65536) : sm cnt n < 2 ^ 24 := by
  have h3 := sm_le (f := cnt) (g := fun _ => 65535) (n := n) fun i _ => by have := hc i; omega
  rw [sm_const] at h3
  have h5 : n * 65535 ≤ 256 * 65535 := Nat.mul_le_mul_right _ hn
  omega
set_option maxRecDepth 100000 in
set_option maxHeartbeats 6400000 in
theorem bc_3 {w w1 wr : World} {H G Ct N n S rt M : Nat} {f : Nat → Value} {cnt sy : Nat → Nat} {g0 : Nat → Int} (hHw : H < w.heap.size) (hGw : G < w.heap.size) (hHG : H ≠ G) (hCt : w.heap.size ≤ Ct) (hn : n ≤ S) (h2n : 2 ≤ n) (hN : n = N + 1) (hS : S ≤ 256) (hrt : rt = S + (n - 2)) (hM : 5 ≤ M) (hM2 : M ≤ 11) (hnM : n ≤ 2 ^ M) (h268 : f 268 = .int .u8 (M : Nat)) (h273 : f 273 = .slice (some ⟨G, 0, none⟩) 513 513) (h271 : f 271 = .slice (some ⟨Ct, 0, none⟩) S 256) (h265 : f 265 = .int .u16 (S : Nat))
    (hc : ∀ p, cnt p < 65536) (hsy : ∀ p, p < n → sy (p + 1) < S) (hO1 : Only (fun k => k = H ∨ k = G ∨ w.heap.size ≤ k) w w1) (hC : RowF w1 Ct 78 512 (cV g0 fun _ => 0)) (Q : Exit → Act → World → Prop) (F : Act) (hT : TreeI w1 H G S N n rt f cnt sy (fun _ => 0) (n - 1) F wr)
    (hend : ∀ F w', BcR F ∧ (∃ (M' : Nat) (nb : Nat → Nat) (nvv : Nat → Value) (A B : Nat), NbI n n (fun p => sy (p + 1)) nb ∧ EnW w H G A B Ct (updV f 268 (.int .u8 (M' : Nat))) nvv nb w') → Q .ret F w') :
    Code.wp Tryf.prog bcC3 Q F wr := by
  obtain ⟨a, b, v, wt, pl, pi, mx, ct, pa, y, hF, hy, hbk, hw0, hT, hCt2, hA, hW⟩ := hT
  rw [bt_frame hF]
  obtain ⟨ha, hb, hTD⟩ := hT.done h2n (by omega)
  subst ha
  subst hb
  have hrt512 : rt < 512 := by omega
  have K47 := Lib.hid (hW.setNbBits hHG (1 + rt) 0 (by omega) (by omega))
  have hI0 : BtI a S (a - 2) pi (updN (fun _ => 0) (1 + rt) 0) := by
    have hz : ∀ k, updN (fun _ => 0) (1 + rt) 0 k = 0 := fun k => by unfold updN; split <;> rfl
    exact ⟨hz _, fun i h1 h2 => by omega, fun i h1 h2 => by rw [hz]; omega⟩
  have HI0 := Lib.hid hI0
  have HTD := Lib.hid hTD
  have HA := Lib.hid hA
  have HC2 := Lib.hid hCt2
  have HE := Lib.hid hend
  have HHG := Lib.hid hHG
  have HRT := Lib.hid hrt
  have HCC := Lib.hid hc
  have HSY := Lib.hid hsy
  have HO1 := Lib.hid hO1
  have HC := Lib.hid hC
  have H268 := Lib.hid h268
  have H273 := Lib.hid h273
  have H271 := Lib.hid h271
  have H265 := Lib.hid h265
  have HN := Lib.hid hN
  have HNM := Lib.hid hnM
  have HW0 := Lib.hid hw0
  have hrti : (rt : Int) < 512 := by omega
  have hy2 : (rt : Int) - 1 = (S : Int) + (a - 2 : Nat) - 1 := by omega
  have HY2 := Lib.hid hy2
  clear hI0 hTD hA hCt2 hend hHG hrt hc hsy hO1 hC h268 h273 h271 h265 hN hnM hw0 hT hW hF hy hbk hy2
  conv => arg 2; whnf
  go_wp2_with fail
  refine K47.out.mono ?_
  rintro e w2 ⟨rfl, hW2⟩
  have HW2 := Lib.hid hW2
  clear hW2 K47
  go_wp2_with fail
  rename_i K1 a1
  have HK1 := Lib.hid a1
  clear a1
  refine bt_l8 HHG.out hn hS h2n HTD.out.pi1 HA.out.pai HY2.out HI0.out HW2.out _ _ _ _ _ _ _ _ _ _ _ _ _ _ _ _ _ _ _ _ _ _ _ _ _ _ _ _ _ _ _ _ _ _ _ _ _ _ _ _ _ _ _ _ _ _ _ _ _ _ _ _ _ _ _ _ _ _ _ _ _ _ _ _ _ _ _ _ _ _ _ _ _ _ _ _ _ _ _ _ _ _ _ _ _ _ _ _ _ _ _ _ _ _ _ _ _ _ _ _ _ _ _ _ _ _ _ _ _ _ _ _ _ _ _ _ _ _ _ _ _ _ _ _ _ _ _ _ _ _ _ _ _ _ _ _ _ _ _ _ _ _ _ _ _ _ _ _ _ _ _ _ _ _ _ _ _ _ _ _ _ _ _ _ _ _ _ _ _ _ _ _ _ _ _ _ _ _ _ _ _ _ _ _ _ _ _ _ _ _ _ _ _ _ _ _ _ _ _ _ _ _ _ _ _ _ _ _ _ _ _ _ _ _ _ _ _ _ _ _ _ _ _ _ _ _ _ _ _ _ _ _ _ _ _ _ _ _ _ _ _ _ _ _ _ _ _ _ _ _ _ _ _ _ _ _ _ _ _ _ _ _ _ _ _ _ _ _ _ _ _ _ _ _ _ _ _ _ _ _ _ _ _ _ _ _ _ _ _ _ _ _ _ _ _ _ _ _ _ _ _ _ _ _ _ _ _ _ _ _ _ _ _ _ _ _ _ _ _ _ _ _ _ _ _ _ _ _ _ _ _ _ _ _ _ _ _ _ _ _ _ _ _ _ _ _ _ _ _ _ _ _ ?_
  rintro F2 w3 ⟨bt3, hF2, hI3, hW3⟩
  refine HK1.out _ _ ?_
  rw [bt_frame hF2]
  have HW3 := Lib.hid hW3
  have HI3 := Lib.hid hI3
  clear hW3 hI3 hF2 HK1
  go_wp2_with fail
  rename_i K2 a2
  have HK2 := Lib.hid a2
  clear a2
  refine bt_l10 HHG.out hn hS h2n HN.out HTD.out.pl1 HA.out.pal HI3.out HW3.out _ _ _ _ _ _ _ _ _ _ _ _ _ _ _ _ _ _ _ _ _ _ _ _ _ _ _ _ _ _ _ _ _ _ _ _ _ _ _ _ _ _ _ _ _ _ _ _ _ _ _ _ _ _ _ _ _ _ _ _ _ _ _ _ _ _ _ _ _ _ _ _ _ _ _ _ _ _ _ _ _ _ _ _ _ _ _ _ _ _ _ _ _ _ _ _ _ _ _ _ _ _ _ _ _ _ _ _ _ _ _ _ _ _ _ _ _ _ _ _ _ _ _ _ _ _ _ _ _ _ _ _ _ _ _ _ _ _ _ _ _ _ _ _ _ _ _ _ _ _ _ _ _ _ _ _ _ _ _ _ _ _ _ _ _ _ _ _ _ _ _ _ _ _ _ _ _ _ _ _ _ _ _ _ _ _ _ _ _ _ _ _ _ _ _ _ _ _ _ _ _ _ _ _ _ _ _ _ _ _ _ _ _ _ _ _ _ _ _ _ _ _ _ _ _ _ _ _ _ _ _ _ _ _ _ _ _ _ _ _ _ _ _ _ _ _ _ _ _ _ _ _ _ _ _ _ _ _ _ _ _ _ _ _ _ _ _ _ _ _ _ _ _ _ _ _ _ _ _ _ _ _ _ _ _ _ _ _ _ _ _ _ _ _ _ _ _ _ _ _ _ _ _ _ _ _ _ _ _ _ _ _ _ _ _ _ _ _ _ _ _ _ _ _ _ _ _ _ _ _ _ _ _ _ _ _ _ _ _ _ _ _ _ _ _ _ _ _ _ _ _ _ ?_
  rintro F3 w4 ⟨bt4, hF3, hI4, hq4, hW4⟩
  refine HK2.out _ _ ?_
  rw [bt_frame hF3]
  have hdep : DepOk a pi (fun j => bt4 (S + j + 1)) := ⟨hI4.rt, fun j hj => hI4.st j (Nat.zero_le _) hj⟩
  obtain ⟨hfull, hlast⟩ := dep_full HTD.out hdep h2n
  have hd48 := dep_le HTD.out hdep h2n HW0.out (sm_24 (by omega) HCC.out)
  have hO4 : Only (fun k => k = H ∨ k = G ∨ w.heap.size ≤ k) w w4 := HO1.out.trans (hW4.only.mono fun k hk => by
    have := HO1.out.size
    rcases hk with hk | hk | hk
    · exact .inl hk
    · exact .inr (.inl hk)
    · exact .inr (.inr (by omega)))
  have hC4 := hW4.only.row HC.out (fun h => by
    have := HC.out.lt
    rcases h with h | h | h <;> omega)
  refine bc_4 hHw hGw HHG.out hCt (by omega) HN.out hS hM hM2 HNM.out H268.out H273.out H271.out H265.out ⟨hW4.h, hW4.g, hO4, hW4.nb⟩ hC4 (fun p hp => by rw [HC2.out.lf p hp]; exact HCC.out p) HSY.out (hfull.congr fun i hi => (hq4 i hi).symm) (by rw [hq4 (a - 1) (by omega)]; exact hlast) (by omega) _ _ _ _ _ _ _ _ _ _ _ _ _ _ _ _ _ _ _ _ _ _ _ _ _ _ _ _ _ _ _ _ _ _ _ _ _ _ _ _ _ _ _ _ _ _ _ _ _ _ _ _ _ _ _ _ _ _ _ _ _ _ _ _ _ _ _ _ _ _ _ _ _ _ _ _ _ _ _ _ _ _ _ _ _ _ _ _ _ _ _ _ _ _ _ _ _ _ _ _ _ _ _ _ _ _ _ _ _ _ _ _ _ _ _ _ _ _ _ _ _ _ _ _ _ _ _ _ _ _ _ _ _ _ _ _ _ _ _ _ _ _ _ _ _ _ _ _ _ _ _ _ _ _ _ _ _ _ _ _ _ _ _ _ _ _ _ _ _ _ _ _ _ _ _ _ _ _ _ _ _ _ _ _ _ _ _ _ _ _ _ _ _ _ _ _ _ _ _ _ _ _ _ _ _ _ _ _ _ _ _ _ _ _ _ _ _ _ _ _ _ _ _ _ _ _ _ _ _ _ _ _ _ _ _ _ _ _ _ _ _ _ _ _ _ _ _ _ _ _ _ _ _ _ _ _ _ _ _ _ _ _ _ _ _ _ _ _ _ _ _ _ _ _ _ _ _ _ _ _ _ _ _ _ _ _ _ _ _ _ _ _ _ _ _ _ _ _ _ _ _ _ _ _ _ _ _ _ _ _ _ _ _ _ _ _ _ _ _ _ _ _ _ _ _ _ _ _ _ _ _ _ _ _ _ _ _ _ _ _ _ _ _ _ _ _ _ _ _ _ _ _ _ _ _ _ ?_
  exact fun F w' h => HE.out F w' h
end Go.Proofs.YthkklojjpgjiiaaFmt
