/-
  huff0's buildCTable: from the sorted nodes on. Conditions: those of the theorem.
-/
import Derived.Test.YthkklojjpgjiiaaFmtCodeT35
import Derived.Test.YthkklojjpgjiiaaFmtCodeT36
namespace Go.Proofs.YthkklojjpgjiiaaFmt
open Go.RowKit

/-- the sorted nodes by their fields -/
def ct0 (C sy : Nat → Nat) (S k : Nat) : Nat := if 1 ≤ k ∧ k ≤ S then C (sy (k - 1)) else 0
def sy1 (sy : Nat → Nat) (S k : Nat) : Nat := if 1 ≤ k ∧ k ≤ S then sy (k - 1) else 0
section
variable {C nv sy : Nat → Nat} {S n : Nat}
theorem sorted_nodes (h : HsI C S S nv sy) (hC : ∀ i, C i < 65536) (k : Nat) : nv k = NQ (ct0 C sy S) (fun _ => 0) (sy1 sy S) (fun _ => 0) k := by
  unfold NQ ct0 sy1
  by_cases e : 1 ≤ k ∧ k ≤ S
  · rw [if_pos e, if_pos e]
    obtain ⟨p, rfl⟩ : ∃ p, k = p + 1 := ⟨k - 1, by omega⟩
    obtain ⟨r, h1, h2⟩ := bucket_of (S := S) hC p (by omega)
    exact h.nod r p h1 (by rw [cr_all]; exact h2)
  · rw [if_neg e, if_neg e, h.zer k (by omega)]
    rfl
theorem tree_init {cnt : Nat → Nat} (h2 : 2 ≤ n) (hm : ∀ i j, i ≤ j → j < n → cnt j ≤ cnt i) : TI cnt n 2 0 1 0 (cnt (n - 2)) 0 (fun _ => cnt (n - 1) + cnt (n - 2)) (fun _ => 0) (fun _ => 0) (fun _ => cnt (n - 2)) (fun _ => False) := by
  have h3 := hm (n - 2) (n - 1) (by omega) (by omega)
  refine ⟨rfl, h2, Nat.zero_le _, fun h => hm _ _ (by omega) (by omega), fun _ => by show _ ≤ cnt (n - 1) + cnt (n - 2); omega, fun _ => by show cnt (n - 1) + cnt (n - 2) ≤ _; omega, fun j _ => Nat.le_refl _, fun i _ => Nat.zero_le _, fun i j _ _ => Nat.le_refl _, fun i hi => by omega, fun i j _ hj => by omega, fun F => ?_, fun j _ => Nat.le_refl _, fun i hi => by omega, fun i hi => by omega, ?_⟩
  · simp only [sm]
    omega
  · simp only [sm]
    rw [show n - 1 - 0 = n - 1 by omega, show n - 1 - 1 = n - 2 by omega]
    omega
end
set_option maxRecDepth 100000 in
set_option maxHeartbeats 6400000 in
theorem bc_2 {w w1 : World} {H G Ct n S M : Nat} {f : Nat → Value} {C nv sy : Nat → Nat} {g0 : Nat → Int} (hHw : H < w.heap.size) (hGw : G < w.heap.size) (hHG : H ≠ G) (hCt : w.heap.size ≤ Ct) (hS : S ≤ 256) (hn : n = bs C S 1) (h2n : 2 ≤ n) (hM : 5 ≤ M) (hM2 : M ≤ 11) (hnM : n ≤ 2 ^ M) (h268 : f 268 = .int .u8 (M : Nat)) (h273 : f 273 = .slice (some ⟨G, 0, none⟩) 513 513) (h271 : f 271 = .slice (some ⟨Ct, 0, none⟩) S 256) (h265 : f 265 = .int .u16 (S : Nat))
    (hC : ∀ i, C i < 65536) (hI : HsI C S S nv sy) (hO1 : Only (fun k => k = H ∨ k = G ∨ w.heap.size ≤ k) w w1) (hCr : RowF w1 Ct 78 512 (cV g0 fun _ => 0)) (hH : RowF w1 H 58 540 f) (hG : RowF w1 G 110 513 (ndV nv)) (Q : Exit → Act → World → Prop)
    (u1 u2 u3 u4 u5 u6 u7 u8 u9 u10 u11 u12 u13 u14 u15 u16 u17 u18 u19 u20 u21 u22 u23 u24 u25 u26 u27 u28 u29 u30 u31 u32 u33 u34 u35 u36 u37 u38 u39 u40 u41 u42 u43 u44 u45 u46 u47 u48 u49 u50 u51 u52 u53 u54 u55 u56 u57 u58 u59 u60 u61 u62 u63 u64 u65 u66 u67 u68 u69 u70 u71 u72 u73 u74 u75 u76 u77 u78 u79 u80 u81 u82 u83 u84 u85 u86 u87 u88 u89 u90 u91 u92 u93 u94 u95 u96 u97 u98 u99 u100 u101 u102 u103 u104 u105 u106 u107 u108 u109 u110 u111 u112 u113 u114 u115 u116 u117 u118 u119 u120 u121 u122 u123 u124 u125 u126 u127 u128 u129 u130 u131 u132 u133 u134 u135 u136 u137 u138 u139 u140 u141 u142 u143 u144 u145 u146 u147 u148 u149 u150 u151 u152 u153 u154 u155 u156 u157 u158 u159 u160 u161 u162 u163 u164 u165 u166 u167 u168 u169 u170 u171 u172 u173 u174 u175 u176 u177 u178 u179 u180 u181 u182 u183 u184 u185 u186 u187 u188 u189 u190 u191 u192 u193 u194 u195 u196 u197 u198 u199 u200 u201 u202 u203 u204 u205 u206 u207 u208 u209 u210 u211 u212 u213 u214 u215 u216 u217 u218 u219 u220 u221 u222 u223 u224 u225 u226 u227 u228 u229 u230 u231 u232 u233 u234 u235 u236 u237 u238 u239 u240 u241 u242 u243 u244 u245 u246 u247 u248 u249 u250 u251 u252 u253 u254 u255 u256 u257 u258 u259 u260 u261 u262 u263 u264 u265 u266 u267 u268 u269 u270 u271 u272 u273 u274 u275 u276 u277 u278 u279 u280 u281 u282 u283 u284 u285 u286 u287 u288 u289 u290 u291 u292 u293 u294 u295 u296 u297 u298 u299 u300 u301 u302 u303 u304 u305 u306 u307 u308 u309 u310 u311 u312 u313 u314 u315 u316 u317 u318 u319 u320 u321 u322 u323 u324 u325 u326 u327 u328 u329 u330 u331 u332 u333 u334 u335 u336 u337 u338 u339 u340 u341 u342 u343 u344 u345 u346 u347 u348 u349 u350 u351 u352 u353 u354 u355 u356 u357 : Value)
    (hend : ∀ F w', BcR F ∧ (∃ (M' : Nat) (nb : Nat → Nat) (nvv : Nat → Value) (A B : Nat), NbI n n (fun p => sy1 sy S (p + 1)) nb ∧ EnW w H G A B Ct (updV f 268 (.int .u8 (M' : Nat))) nvv nb w') → Q .ret F w') :
    Code.wp Tryf.prog bcC2 Q ⟨#[.pointer (some ⟨H, 0, none⟩), u1, u2, u3, u4, u5, u6, u7, u8, u9, u10, u11, u12, u13, u14, u15, u16, u17, u18, u19, u20, u21, u22, u23, u24, u25, u26, u27, u28, u29, u30, u31, u32, u33, u34, u35, u36, u37, u38, u39, u40, u41, u42, u43, u44, u45, u46, u47, u48, u49, u50, u51, u52, u53, u54, u55, u56, u57, u58, u59, u60, u61, u62, u63, u64, u65, u66, u67, u68, u69, u70, u71, u72, u73, u74, u75, u76, u77, u78, u79, u80, u81, u82, u83, u84, u85, u86, u87, u88, u89, u90, u91, u92, u93, u94, u95, u96, u97, u98, u99, u100, u101, u102, u103, u104, u105, u106, u107, u108, u109, u110, u111, u112, u113, u114, u115, u116, u117, u118, u119, u120, u121, u122, u123, u124, u125, u126, u127, u128, u129, u130, u131, u132, u133, u134, u135, u136, u137, u138, u139, u140, u141, u142, u143, u144, u145, u146, u147, u148, u149, u150, u151, u152, u153, u154, u155, u156, u157, u158, u159, u160, u161, u162, u163, u164, u165, u166, u167, u168, u169, u170, u171, u172, u173, u174, u175, u176, u177, u178, u179, u180, u181, u182, u183, u184, u185, u186, u187, u188, u189, u190, u191, u192, u193, u194, u195, u196, u197, u198, u199, u200, u201, u202, u203, u204, u205, u206, u207, u208, u209, u210, u211, u212, u213, u214, u215, u216, u217, u218, u219, u220, u221, u222, u223, u224, u225, u226, u227, u228, u229, u230, u231, u232, u233, u234, u235, u236, u237, u238, u239, u240, u241, u242, u243, u244, u245, u246, u247, u248, u249, u250, u251, u252, u253, u254, u255, u256, u257, u258, u259, u260, u261, u262, u263, u264, u265, u266, u267, u268, u269, u270, u271, u272, u273, u274, u275, u276, u277, u278, u279, u280, u281, u282, u283, u284, u285, u286, u287, u288, u289, u290, u291, u292, u293, u294, u295, u296, u297, u298, u299, u300, u301, u302, u303, u304, u305, u306, u307, u308, u309, u310, u311, u312, u313, u314, u315, u316, u317, u318, u319, u320, u321, u322, u323, u324, u325, u326, u327, u328, u329, u330, u331, u332, u333, u334, u335, u336, u337, u338, u339, u340, u341, u342, u343, u344, u345, u346, u347, u348, u349, u350, u351, u352, u353, u354, u355, u356, u357], []⟩ w1 := by
  conv => arg 2; whnf
  have hSo := hI.si.done hC
  have hnS : n ≤ S := by rw [hn]; exact bs_le _
  have hsl : ∀ p, p < S → sy p < S := hSo.lt
  have hW : BtW w1 H G f (ct0 C sy S) (fun _ => 0) (sy1 sy S) (fun _ => 0) w1 :=
    ⟨hH, hG.congr fun k _ => by unfold ndV; rw [sorted_nodes hI hC k], Only.refl _ _, fun k => by
      refine ⟨?_, by omega, ?_, by omega⟩
      · unfold ct0
        split
        · have := hC (sy (k - 1)); omega
        · omega
      · unfold sy1
        split
        · have := hsl (k - 1) (by omega); omega
        · omega⟩
  obtain ⟨N, hN⟩ : ∃ N, n = N + 1 := ⟨n - 1, by omega⟩
  have hcnt : ∀ p, p < S → ct0 C sy S (1 + p) = C (sy p) := fun p hp => by unfold ct0; rw [if_pos (by omega), show 1 + p - 1 = p by omega]
  have k265 : w1.cell? ⟨H, 265, none⟩ = some (.int .u16 (S : Nat)) := hH.cellv 265 (by omega) _ h265
  have k273 : w1.cell? ⟨H, 273, none⟩ = some (.slice (some ⟨G, 0, none⟩) 513 513) := hH.cellv 273 (by omega) _ h273
  have KC := Lib.hid fun p (hp : p < S) => (hcnt p hp) ▸ hW.count (1 + p) (by omega)
  have HUS := Lib.hid fun p hp => (hSo.used p hp)
  have HSO := Lib.hid hSo
  have HW := Lib.hid hW
  have HCNT := Lib.hid hcnt
  have HCC := Lib.hid hC
  have HO1 := Lib.hid hO1
  have HCR := Lib.hid hCr
  have H268 := Lib.hid h268
  have H273 := Lib.hid h273
  have H271 := Lib.hid h271
  have H265 := Lib.hid h265
  have HN := Lib.hid hn
  have HNM := Lib.hid hnM
  have HHG := Lib.hid hHG
  have HE := Lib.hid hend
  have HHW := Lib.hid hHw
  have HGW := Lib.hid hGw
  have HCT := Lib.hid hCt
  have hSi : (S : Int) ≤ 256 := by omega
  have hS1 : (1 : Int) ≤ (S : Int) := by omega
  obtain ⟨S', hS'⟩ : ∃ S', S = S' + 1 := ⟨S - 1, by omega⟩
  have hsub1 : (S : Int) - 1 = (S' : Nat) := by omega
  have HS' := Lib.hid hS'
  have HN1 := Lib.hid hN
  have hS'5 : S' < 256 := by omega
  have hnS' : N ≤ S' := by omega
  clear hSo hsl hW hcnt hC hI hO1 hCr hH hG h268 h273 h271 h265 hn hnM hHG hend hHw hGw hCt hS' hN
  go_wp2_with fail
  go_loopw [5] (fun pv wr => ∃ p : Nat, pv = .int .u16 (p : Nat) ∧ N ≤ p ∧ p ≤ S' ∧ w1 = wr) (fun pv _ => (intOf pv).toNat)
  case atStart => exact ⟨S', rfl, hnS', Nat.le_refl _, rfl⟩
  case round =>
    obtain ⟨p, rfl, hp1, hp2, rfl⟩ := hrel
    have hpS : p < S := by have := HS'.out; omega
    have hp5 : (p : Int) < 512 := by omega
    have hus := HUS.out p hpS
    rw [← HN.out] at hus
    have hK := KC.out p hpS
    obtain ⟨x, hx⟩ : ∃ x, C (sy p) = x := ⟨_, rfl⟩
    rw [hx] at hK hus
    have HK := Lib.hid hK
    clear hK hx
    by_cases hxz : x = 0
    · subst hxz
      obtain ⟨p', hp'⟩ : ∃ p', p = p' + 1 := ⟨p - 1, by have := HN1.out; omega⟩
      have hsub : (p : Int) - 1 = (p' : Nat) := by omega
      have HP' := Lib.hid hp'
      have hNp : N ≤ p' := by have := HN1.out; omega
      clear hp' hus
      go_wp2_with fail
      refine HK.out.mono ?_
      rintro e w3 ⟨rfl, h9⟩
      have h9 := h9.symm
      subst h9
      go_wp2_with fail
      have hp' := HP'.out
      refine ⟨⟨p', rfl, hNp, by omega, trivial⟩, by simp [intOf]; omega⟩
    · have hxn : ((x : Int) == 0) = false := by rw [beq_eq_false_iff_ne]; omega
      have hxn2 : decide ((x : Int) = 0) = false := decide_eq_false (by omega)
      obtain rfl : N = p := by have := HN1.out; omega
      clear hus hxz
      go_wp2_with fail
      refine HK.out.mono ?_
      rintro e w3 ⟨rfl, h9⟩
      have h9 := h9.symm
      subst h9
      go_upto_region 19 with fail
      clear HK hxn hxn2
      have hN1 := HN1.out
      have hnS2 : n ≤ S := by have := HS'.out; omega
      obtain ⟨rt, hrt⟩ : ∃ rt, S + (n - 2) = rt := ⟨_, rfl⟩
      obtain ⟨N1, hNN⟩ : ∃ N1, N = N1 + 1 := ⟨N - 1, by omega⟩
      have hsr : (S : Int) + (N : Int) - 1 = (rt : Nat) := by omega
      have hsn : (N : Int) - 1 = (N1 : Nat) := by omega
      have hwn : IntKind.i16.wrap ((N : Int) - 1) = (N1 : Nat) := by rw [hsn]; exact wrap16 _ (by omega) (by omega)
      have e1 := HCNT.out N (by omega)
      have e2 := HCNT.out N1 (by omega)
      have c1 := HCC.out (sy N)
      have c2 := HCC.out (sy N1)
      have K1 := (HW.out.drewN 1).count (1 + N) (by omega)
      have K2 := (HW.out.drewN 1).count (1 + N1) (by omega)
      rw [e1] at K1
      rw [e2] at K2
      obtain ⟨x1, hx1⟩ : ∃ x, C (sy N) = x := ⟨_, rfl⟩
      obtain ⟨x2, hx2⟩ : ∃ x, C (sy N1) = x := ⟨_, rfl⟩
      rw [hx1] at K1 c1
      rw [hx2] at K2 c2
      obtain ⟨x3, hx3⟩ : ∃ x, x1 + x2 = x := ⟨_, rfl⟩
      have hxi : (x1 : Int) + (x2 : Int) = (x3 : Nat) := by omega
      have K3 := (HW.out.drewN 1).setCount HHG.out (1 + S) x3 (by omega) (by omega)
      have hk1 := (HUS.out N (by omega)).2 (by rw [← HN.out]; omega)
      have HK1 := Lib.hid K1
      have HK2 := Lib.hid K2
      have HK3 := Lib.hid K3
      have HX1 := Lib.hid hx1
      have HX2 := Lib.hid hx2
      have HX3 := Lib.hid hx3
      have HRT := Lib.hid hrt
      have HNN := Lib.hid hNN
      have HX0 := Lib.hid (show 1 ≤ x3 by omega)
      have hN5 : (N : Int) < 512 := by omega
      have hN15 : (N1 : Int) < 512 := by omega
      have hS5 : (S : Int) < 512 := by omega
      have hrt5 : rt < 512 := by omega
      clear K1 K2 K3 e1 e2 hx1 hx2 hx3 hrt hNN hk1 hN1
      go_upto_region 21 with fail
      refine wp_region_noPanic ?_
      refine wp_region_quiet_tail 13 (by kernel_rfl) (by kernel_rfl) ?_
      simp only [List.take_succ_cons, List.take_zero, List.drop_succ_cons, List.drop_zero]
      repeat (go_big_quiet_step (first | exact HK1.out _ | exact HK2.out _))
      refine wpQuiet_nil ?_
      go_wp2_with fail
      refine HK3.out.mono ?_
      rintro e w4 ⟨rfl, hW4⟩
      have K4 := hW4.setParent HHG.out (1 + N) S (by omega) (by omega)
      have HK4 := Lib.hid K4
      clear hW4 K4
      go_wp2_with fail
      refine NoPanic.normal ?_
      go_wp2_with fail
      refine HK4.out.mono ?_
      rintro e w5 ⟨rfl, hW5⟩
      have K5 := hW5.setParent HHG.out (1 + N1) S (by omega) (by omega)
      have HK5 := Lib.hid K5
      clear hW5 K5
      go_wp2_with fail
      refine HK5.out.mono ?_
      rintro e w6 ⟨rfl, hW6⟩
      have HW6 := Lib.hid hW6
      clear hW6 HK1 HK2 HK3 HK4 HK5
      go_wp2_with fail
      go_loopw [12] (fun pv wr => ∃ (j m : Nat) (ct' : Nat → Nat), pv = .int .i16 (m : Nat) ∧ m = S + j ∧ 1 ≤ j ∧ j + 1 ≤ n ∧ BtW w1 H G f ct' (updN (updN (fun _ => 0) (1 + N) S) (1 + N1) S) (sy1 sy S) (fun _ => 0) wr ∧ (∀ p, p < n → ct' (p + 1) = C (sy p)) ∧ ct' (S + 0 + 1) = x3 ∧ ∀ i, 1 ≤ i → i < j → ct' (S + i + 1) = 1073741824) (fun pv _ => 600 - (intOf pv).toNat)
      case atStart =>
        refine ⟨1, S + 1, _, rfl, rfl, Nat.le_refl _, h2n, HW6.out, fun p hp => ?_, ?_, fun i h1 h2 => by omega⟩
        · rw [updN_ne _ _ _ _ (by omega), Nat.add_comm p 1]; exact HCNT.out p (by omega)
        · rw [show S + 0 + 1 = 1 + S by omega, updN_same]
      case round =>
        clear HW6
        obtain ⟨j, m, ct', rfl, hmj, hj1, hj2, hW7, hq1, hq2, hq3⟩ := hrel
        have hrt := HRT.out
        have hm5 : (m : Int) < 512 := by omega
        by_cases hjn : j + 2 ≤ n
        · have hmr : (m : Int) ≤ (rt : Int) := by omega
          have hdm : decide ((m : Int) ≤ (rt : Int)) = true := decide_eq_true hmr
          have KS := Lib.hid (hW7.setCount HHG.out (1 + m) 1073741824 (by omega) (by omega))
          have HQ1 := Lib.hid (show ∀ p, p < n → updN ct' (1 + m) 1073741824 (p + 1) = C (sy p) from fun p hp => by rw [updN_ne _ _ _ _ (by omega)]; exact hq1 p hp)
          have HQ2 := Lib.hid (show updN ct' (1 + m) 1073741824 (S + 0 + 1) = x3 by rw [updN_ne _ _ _ _ (by omega)]; exact hq2)
          have HQ3 := Lib.hid (show ∀ i, 1 ≤ i → i < j + 1 → updN ct' (1 + m) 1073741824 (S + i + 1) = 1073741824 from fun i h1 h2 => by
            by_cases e : i = j
            · rw [e, show S + j + 1 = 1 + m by omega, updN_same]
            · rw [updN_ne _ _ _ _ (by omega)]; exact hq3 i h1 (by omega))
          have HMJ := Lib.hid hmj
          clear hW7 hq1 hq2 hq3 hmj hrt
          go_wp2_with fail
          refine KS.out.mono ?_
          rintro e w8 ⟨rfl, hW8⟩
          have HW8 := Lib.hid hW8
          clear hW8 KS
          go_wp2_with fail
          refine ⟨⟨j + 1, m + 1, _, rfl, by have := HMJ.out; omega, by omega, by omega, HW8.out, HQ1.out, HQ2.out, HQ3.out⟩, by simp [intOf]; omega⟩
        · have hmr : ¬ (m : Int) ≤ (rt : Int) := by omega
          have hdm : decide ((m : Int) ≤ (rt : Int)) = false := decide_eq_false hmr
          have KS := Lib.hid (hW7.setCount HHG.out 0 2147483648 (by omega) (by omega))
          have hC1 : CtF (fun p => C (sy p)) n S 1 (fun _ => C (sy (n - 1)) + C (sy (n - 2))) (updN ct' 0 2147483648) := by
            have h1 := HX1.out
            have h2 := HX2.out
            have h3 := HX3.out
            have h4 := HNN.out
            have h5 := HN1.out
            refine ⟨fun p hp => ?_, fun i hi => ?_, fun i h6 h7 => ?_, updN_same _ _ _⟩
            · rw [updN_ne _ _ _ _ (by omega)]; exact hq1 p hp
            · rw [show i = 0 by omega, updN_ne _ _ _ _ (by omega), hq2, ← h3, ← h1, ← h2, show n - 1 = N by omega, show n - 2 = N1 by omega]
            · rw [updN_ne _ _ _ _ (by omega)]; exact hq3 i h6 (by omega)
          have hP1 : PaF n S 2 0 (fun _ => 0) (fun _ => 0) (updN (updN (fun _ => 0) (1 + N) S) (1 + N1) S) := by
            have h4 := HNN.out
            have h5 := HN1.out
            refine ⟨fun i hi => ?_, fun i hi => by omega⟩
            by_cases e : i = 0
            · rw [e, show n - 1 - 0 + 1 = 1 + N by omega, updN_ne _ _ _ _ (by omega), updN_same]; rfl
            · rw [show i = 1 by omega, show n - 1 - 1 + 1 = 1 + N1 by omega, updN_same]; rfl
          have HC1 := Lib.hid hC1
          have HP1 := Lib.hid hP1
          clear hW7 hq1 hq2 hq3 hmj hrt hC1 hP1
          go_wp2_with fail
          refine KS.out.mono ?_
          rintro e w8 ⟨rfl, hW8⟩
          have HW8 := Lib.hid hW8
          clear hW8 KS
          go_wp2_with fail
          rename_i K1 a1
          have HA := Lib.hid a1
          clear a1
          have hmo : ∀ i j, i ≤ j → j < n → C (sy j) ≤ C (sy i) := fun i j h1 h2 => HSO.out.ord i j h1 (by omega)
          have hN1 := HN1.out
          have hNN := HNN.out
          have hx0 : 1 ≤ C (sy (n - 1)) + C (sy (n - 2)) := by
            have h1 := HX1.out
            have h2 := HX2.out
            have h3 := HX3.out
            have h4 := HX0.out
            rw [show n - 1 = N by omega, show n - 2 = N1 by omega]
            omega
          refine bt_l6 HHG.out hnS2 hS (cnt := fun p => C (sy p)) hmo (fun p => HCC.out (sy p)) (k := 1) (by omega) h2n HRT.out.symm _ _ ⟨2, 0, C (sy (n - 2)), _, _, _, _, _, _, (N : Int) - 2, ⟨rfl, rfl, rfl, rfl, rfl, rfl, rfl, rfl, rfl, rfl, rfl⟩, by omega, by omega, hx0, tree_init h2n hmo, HC1.out, HP1.out, HW8.out⟩ ?_
          rintro F' w' hT'
          refine HA.out _ _ (bc_3 HHW.out HGW.out HHG.out HCT.out hnS2 h2n hN1 hS HRT.out.symm hM hM2 HNM.out H268.out H273.out H271.out H265.out (fun p => HCC.out (sy p)) (fun p hp => ?_) HO1.out HCR.out _ F' hT' ?_)
          · have h1 := HSO.out.lt p (by omega)
            unfold sy1
            rw [if_pos (by omega)]
            exact h1
          · exact fun F w' h => HE.out F w' h
end Go.Proofs.YthkklojjpgjiiaaFmt
