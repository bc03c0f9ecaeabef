/-
  huff0's buildCTable: the tree is made: the loop. Conditions: those of each.
-/
import Derived.Test.YthkklojjpgjiiaaFmtCodeT32
namespace Go.Proofs.YthkklojjpgjiiaaFmt
open Go.RowKit

set_option maxRecDepth 100000 in
set_option maxHeartbeats 6400000 in
theorem bt_p1 {w wr : World} {H G S N n rt : Nat} {f : Nat → Value} {cnt ct pa sy bt : Nat → Nat} (hHG : H ≠ G) (hn : n ≤ S) (hS : S ≤ 256) (hm : ∀ i j, i ≤ j → j < n → cnt j ≤ cnt i) (hc : ∀ p, cnt p < 65536) {a b k v m c : Nat} {y : Int} {wt pl pi mx : Nat → Nat} (hkn : k + 1 ≤ n) (h2n : 2 ≤ n) (hrt : rt = S + (n - 2)) (hbk1 : b < k) (hw0 : 1 ≤ wt 0) (hmk : m = S + k) (hcb : c = S + b) (hy : y = (n : Int) - 1 - (a : Int))
    (hT : TI cnt n a b k 0 v 0 wt pl pi mx (fun _ => False)) (hC : CtF cnt n S k wt ct) (hA : PaF n S a b pl pi pa)
    (hW : BtW w H G f ct pa sy bt wr) (Q : Exit → Act → World → Prop)
    (u1 u2 u3 u12 u13 u14 u15 u16 u17 u18 u19 u20 u21 u22 u23 u24 u25 u26 u27 u28 u29 u30 u31 u32 u33 u34 u35 u36 u37 u38 u39 u40 u41 u42 u43 u44 u45 u46 u47 u48 u49 u50 u51 u52 u53 u54 u55 u56 u57 u58 u59 u60 u61 u62 u63 u64 u65 u66 u67 u68 u69 u70 u71 u72 u73 u74 u75 u76 u77 u78 u79 u80 u81 u82 u83 u84 u85 u86 u87 u88 u89 u90 u91 u92 u93 u94 u95 u96 u97 u98 u99 u100 u101 u102 u103 u104 u105 u106 u107 u108 u109 u110 u111 u112 u113 u114 u115 u116 u117 u118 u119 u120 u121 u122 u123 u124 u125 u126 u127 u128 u129 u130 u131 u132 u133 u134 u135 u136 u137 u138 u139 u140 u141 u142 u143 u144 u145 u146 u147 u148 u149 u150 u151 u152 u153 u154 u155 u156 u157 u158 u159 u160 u161 u162 u163 u164 u165 u166 u167 u168 u169 u170 u171 u172 u173 u174 u175 u176 u177 u178 u179 u180 u181 u182 u183 u184 u185 u186 u187 u188 u189 u190 u191 u192 u193 u194 u195 u196 u197 u198 u199 u200 u201 u202 u203 u204 u205 u206 u207 u208 u209 u210 u211 u212 u213 u214 u215 u216 u217 u218 u219 u220 u221 u222 u223 u224 u225 u226 u227 u228 u229 u230 u231 u232 u233 u234 u235 u236 u237 u238 u239 u240 u241 u242 u243 u244 u245 u246 u247 u248 u249 u250 u251 u252 u253 u254 u255 u256 u257 u258 u259 u260 u261 u262 u263 u264 u265 u266 u267 u268 u269 u270 u271 u272 u273 u274 u275 u276 u277 u278 u279 u280 u281 u282 u283 u284 u285 u286 u287 u288 u289 u290 u291 u292 u293 u294 u295 u296 u297 u298 u299 u300 u301 u302 u303 u304 u305 u306 u307 u308 u309 u310 u311 u312 u313 u314 u315 u316 u317 u318 u319 u320 u321 u322 u323 u324 u325 u326 u327 u328 u329 u330 u331 u332 u333 u334 u335 u336 u337 u338 u339 u340 u341 u342 u343 u344 u345 u346 u347 u348 u349 u350 u351 u352 u353 u354 u355 u356 u357 : Value)
    (hend : ∀ F w', TreeI w H G S N n rt f cnt sy bt k F w' ∧ k + 1 = n → Q (.exit 6) F w')
    (hK : ∀ F w', TreeI w H G S N n rt f cnt sy bt (k + 1) F w' ∧ k + 2 ≤ n → Q .normal F w') :
    Code.wp Tryf.prog btB6 Q ⟨#[.pointer (some ⟨H, 0, none⟩), u1, u2, u3, .int .i16 (S : Nat), .int .u16 (N : Nat), .int .i16 (m : Nat), .slice (some ⟨G, 1, none⟩) 512 512, .slice (some ⟨G, 0, none⟩) 513 513, .int .i16 y, .int .i16 (rt : Nat), .int .i16 (c : Nat), u12, u13, u14, u15, u16, u17, u18, u19, u20, u21, u22, u23, u24, u25, u26, u27, u28, u29, u30, u31, u32, u33, u34, u35, u36, u37, u38, u39, u40, u41, u42, u43, u44, u45, u46, u47, u48, u49, u50, u51, u52, u53, u54, u55, u56, u57, u58, u59, u60, u61, u62, u63, u64, u65, u66, u67, u68, u69, u70, u71, u72, u73, u74, u75, u76, u77, u78, u79, u80, u81, u82, u83, u84, u85, u86, u87, u88, u89, u90, u91, u92, u93, u94, u95, u96, u97, u98, u99, u100, u101, u102, u103, u104, u105, u106, u107, u108, u109, u110, u111, u112, u113, u114, u115, u116, u117, u118, u119, u120, u121, u122, u123, u124, u125, u126, u127, u128, u129, u130, u131, u132, u133, u134, u135, u136, u137, u138, u139, u140, u141, u142, u143, u144, u145, u146, u147, u148, u149, u150, u151, u152, u153, u154, u155, u156, u157, u158, u159, u160, u161, u162, u163, u164, u165, u166, u167, u168, u169, u170, u171, u172, u173, u174, u175, u176, u177, u178, u179, u180, u181, u182, u183, u184, u185, u186, u187, u188, u189, u190, u191, u192, u193, u194, u195, u196, u197, u198, u199, u200, u201, u202, u203, u204, u205, u206, u207, u208, u209, u210, u211, u212, u213, u214, u215, u216, u217, u218, u219, u220, u221, u222, u223, u224, u225, u226, u227, u228, u229, u230, u231, u232, u233, u234, u235, u236, u237, u238, u239, u240, u241, u242, u243, u244, u245, u246, u247, u248, u249, u250, u251, u252, u253, u254, u255, u256, u257, u258, u259, u260, u261, u262, u263, u264, u265, u266, u267, u268, u269, u270, u271, u272, u273, u274, u275, u276, u277, u278, u279, u280, u281, u282, u283, u284, u285, u286, u287, u288, u289, u290, u291, u292, u293, u294, u295, u296, u297, u298, u299, u300, u301, u302, u303, u304, u305, u306, u307, u308, u309, u310, u311, u312, u313, u314, u315, u316, u317, u318, u319, u320, u321, u322, u323, u324, u325, u326, u327, u328, u329, u330, u331, u332, u333, u334, u335, u336, u337, u338, u339, u340, u341, u342, u343, u344, u345, u346, u347, u348, u349, u350, u351, u352, u353, u354, u355, u356, u357], []⟩ wr := by
  conv => arg 2; whnf
  by_cases hk : k + 2 ≤ n
  · have hab := hT.hab
    have han := hT.han
    have hbk := hT.hbk
    have hm512 : m < 512 := by omega
    have hc512 : c < 512 := by omega
    have hmr : (m : Int) ≤ (rt : Int) := by omega
    have hdm : decide ((m : Int) ≤ (rt : Int)) = true := decide_eq_true hmr
    obtain ⟨hcl, hcr⟩ := hT.cond (by omega) hk hC hm hc (by omega)
    have KL := fun q => (hW.drewN q).count (n - a) (by omega)
    have KR := fun q => (hW.drewN q).count (c + 1) (by omega)
    have HHG := Lib.hid hHG
    have HW := Lib.hid hW
    have HK := Lib.hid hK
    have HMK := Lib.hid hmk
    have HCB := Lib.hid hcb
    have HT := Lib.hid hT
    have HC := Lib.hid hC
    have HA := Lib.hid hA
    have HCC := Lib.hid hc
    have HM := Lib.hid hm
    rw [← hcb] at hcl hcr
    by_cases hlt : ct (n - a) < ct (c + 1)
    · obtain ⟨ha, he, hv, hT2⟩ := hcl hlt
      obtain ⟨p, hp⟩ : ∃ p, n - 1 - a = p := ⟨_, rfl⟩
      obtain rfl : y = (p : Nat) := by omega
      rw [show n - a = p + 1 by omega] at KL hlt he
      rw [hp] at he hv hT2
      have hp512 : p < 512 := by omega
      have hpm : p ≠ m := by omega
      have HPA := Lib.hid (show n - 1 - a = p from hp)
      have hT3 : TI cnt n (a + 1) b k 1 (ct (p + 1)) (ct (p + 1)) wt (updN pl a k) pi mx (fun _ => False) := by
        simp only [Nat.zero_add] at hT2
        rw [he]
        exact hT2
      have hv2 : v ≤ ct (p + 1) := by rw [he]; exact hv
      have hx1 : ct (p + 1) < 16777216 := by
        rw [he]
        have := hc p
        omega
      have hA2 : PaF n S (a + 1) b (updN pl a k) pi (updN pa (p + 1) (S + k)) := by
        have h4 := hA.left ha hn k
        rwa [hp] at h4
      obtain ⟨xl, hxl⟩ : ∃ x, ct (p + 1) = x := ⟨_, rfl⟩
      obtain ⟨xr, hxr⟩ : ∃ x, ct (c + 1) = x := ⟨_, rfl⟩
      rw [hxl] at KL hlt
      rw [hxr] at KR hlt
      have HKL := Lib.hid KL
      have HKR := Lib.hid KR
      have hli : (xl : Int) < (xr : Int) := by omega
      have hdl : decide ((xl : Int) < (xr : Int)) = true := decide_eq_true hli
      have HT3 := Lib.hid hT3
      have HV2 := Lib.hid hv2
      have HX1 := Lib.hid hx1
      have HA2 := Lib.hid hA2
      have HPM := Lib.hid hpm
      have HAN := Lib.hid (show ((p : Int) - 1) = (n : Int) - 1 - ((a + 1 : Nat) : Int) by omega)
      have hp1i : (p : Int) + 1 < 513 := by omega
      have hc1i : (c : Int) + 1 < 513 := by omega
      have hw1 := wrap16 ((p : Int) + 1) (by omega) (by omega)
      have hw2 := wrap16 ((c : Int) + 1) (by omega) (by omega)
      clear hHG hW hK hmk hcb hT hC hA hc hcl hcr KL KR hp hxl hxr he hv hT2 hlt hm hy hT3 hv2 hx1 hA2 hpm hrt
      go_upto_region 33 with fail
      go_quiet (first | exact Calls.quiet_of_same (HKL.out _) | exact Calls.quiet_of_same (HKR.out _))
      go_upto_if 167 with fail
      rename_i K1 a1
      have HA1 := Lib.hid a1
      clear a1
      go_wp2_with fail
      clear hp1i hc1i hw1 hw2 hli hdl
      refine HA1.out _ _ (bt_p2 HHG.out hn hS HM.out HCC.out hk (by omega) hw0 HMK.out HCB.out HAN.out hp512 HPM.out HT3.out HV2.out HX1.out HT.out.mxv HT.out.wl (fun z hz => hz.elim) HC.out HA2.out (HW.out.drewN nq) _ _ _ _ _ _ _ _ _ _ _ _ _ _ _ _ _ _ _ _ _ _ _ _ _ _ _ _ _ _ _ _ _ _ _ _ _ _ _ _ _ _ _ _ _ _ _ _ _ _ _ _ _ _ _ _ _ _ _ _ _ _ _ _ _ _ _ _ _ _ _ _ _ _ _ _ _ _ _ _ _ _ _ _ _ _ _ _ _ _ _ _ _ _ _ _ _ _ _ _ _ _ _ _ _ _ _ _ _ _ _ _ _ _ _ _ _ _ _ _ _ _ _ _ _ _ _ _ _ _ _ _ _ _ _ _ _ _ _ _ _ _ _ _ _ _ _ _ _ _ _ _ _ _ _ _ _ _ _ _ _ _ _ _ _ _ _ _ _ _ _ _ _ _ _ _ _ _ _ _ _ _ _ _ _ _ _ _ _ _ _ _ _ _ _ _ _ _ _ _ _ _ _ _ _ _ _ _ _ _ _ _ _ _ _ _ _ _ _ _ _ _ _ _ _ _ _ _ _ _ _ _ _ _ _ _ _ _ _ _ _ _ _ _ _ _ _ _ _ _ _ _ _ _ _ _ _ _ _ _ _ _ _ _ _ _ _ _ _ _ _ _ _ _ _ _ _ _ _ _ _ _ _ _ _ _ _ _ _ _ _ _ _ _ _ _ _ _ _ _ _ _ _ _ _ _ _ _ _ _ _ _ _ _ _ _ _ _ _ _ _ _ _ _ _ _ _ _ _ _ _ _ _ _ _ _ _ _ _ _ _ _ _ _ _ _ _ _ _ ?_)
      exact fun F' w' h => HK.out F' w' ⟨h, hk⟩
    · obtain ⟨hb, he, hv, hT2⟩ := hcr hlt
      obtain ⟨cl, hcl2⟩ : ∃ cl, n - a = cl := ⟨_, rfl⟩
      rw [hcl2] at KL hlt
      have hyc : y + 1 = (cl : Nat) := by omega
      have hcl512 : (cl : Int) < 513 := by omega
      have hcm : c ≠ m := by omega
      have hy1 : -1 ≤ y := by omega
      have hy2 : y < 256 := by omega
      have hT3 : TI cnt n a (b + 1) k 1 (ct (c + 1)) (ct (c + 1)) wt pl (updN pi b k) mx (fun z => False ∨ z = wt b) := by
        simp only [Nat.zero_add] at hT2
        rw [he]
        exact hT2
      have hv2 : v ≤ ct (c + 1) := by rw [he]; exact hv
      have hx1 : ct (c + 1) < 16777216 := by
        rw [he]
        exact hT.wt_le hb hc (by omega)
      have hA2 : PaF n S a (b + 1) pl (updN pi b k) (updN pa (c + 1) (S + k)) := by
        rw [hcb]
        exact hA.right han hn k
      have hPz : ∀ z, (False ∨ z = wt b) → z = ct (c + 1) := fun z hz => by
        rw [he]
        rcases hz with hz | hz
        · exact hz.elim
        · exact hz
      obtain ⟨xl, hxl⟩ : ∃ x, ct cl = x := ⟨_, rfl⟩
      obtain ⟨xr, hxr⟩ : ∃ x, ct (c + 1) = x := ⟨_, rfl⟩
      rw [hxl] at KL hlt
      rw [hxr] at KR hlt
      have HKL := Lib.hid KL
      have HKR := Lib.hid KR
      have hli : ¬ (xl : Int) < (xr : Int) := by omega
      have hdl : decide ((xl : Int) < (xr : Int)) = false := decide_eq_false hli
      have HT3 := Lib.hid hT3
      have HV2 := Lib.hid hv2
      have HX1 := Lib.hid hx1
      have HA2 := Lib.hid hA2
      have HCM := Lib.hid hcm
      have HPZ := Lib.hid hPz
      have HY := Lib.hid hy
      have HCB2 := Lib.hid (show c + 1 = S + (b + 1) by omega)
      have hc1i : (c : Int) + 1 < 513 := by omega
      have hw1 : IntKind.i16.wrap (y + 1) = (cl : Nat) := by rw [hyc]; exact wrap16 _ (by omega) (by omega)
      have hw2 := wrap16 ((c : Int) + 1) (by omega) (by omega)
      clear hHG hW hK hmk hcb hT hC hA hc hcl hcr KL KR hcl2 hxl hxr he hv hT2 hlt hm hy hyc hT3 hv2 hx1 hA2 hcm hPz hrt
      go_upto_region 33 with fail
      go_quiet (first | exact Calls.quiet_of_same (HKL.out _) | exact Calls.quiet_of_same (HKR.out _))
      go_upto_if 167 with fail
      rename_i K1 a1
      have HA1 := Lib.hid a1
      clear a1
      go_wp2_with fail
      clear hc1i hw1 hw2 hli hdl
      refine HA1.out _ _ (bt_p2 HHG.out hn hS HM.out HCC.out hk (by omega) hw0 HMK.out HCB2.out HY.out hc512 HCM.out HT3.out HV2.out HX1.out HT.out.mxv HT.out.wl HPZ.out HC.out HA2.out (HW.out.drewN nq) _ _ _ _ _ _ _ _ _ _ _ _ _ _ _ _ _ _ _ _ _ _ _ _ _ _ _ _ _ _ _ _ _ _ _ _ _ _ _ _ _ _ _ _ _ _ _ _ _ _ _ _ _ _ _ _ _ _ _ _ _ _ _ _ _ _ _ _ _ _ _ _ _ _ _ _ _ _ _ _ _ _ _ _ _ _ _ _ _ _ _ _ _ _ _ _ _ _ _ _ _ _ _ _ _ _ _ _ _ _ _ _ _ _ _ _ _ _ _ _ _ _ _ _ _ _ _ _ _ _ _ _ _ _ _ _ _ _ _ _ _ _ _ _ _ _ _ _ _ _ _ _ _ _ _ _ _ _ _ _ _ _ _ _ _ _ _ _ _ _ _ _ _ _ _ _ _ _ _ _ _ _ _ _ _ _ _ _ _ _ _ _ _ _ _ _ _ _ _ _ _ _ _ _ _ _ _ _ _ _ _ _ _ _ _ _ _ _ _ _ _ _ _ _ _ _ _ _ _ _ _ _ _ _ _ _ _ _ _ _ _ _ _ _ _ _ _ _ _ _ _ _ _ _ _ _ _ _ _ _ _ _ _ _ _ _ _ _ _ _ _ _ _ _ _ _ _ _ _ _ _ _ _ _ _ _ _ _ _ _ _ _ _ _ _ _ _ _ _ _ _ _ _ _ _ _ _ _ _ _ _ _ _ _ _ _ _ _ _ _ _ _ _ _ _ _ _ _ _ _ _ _ _ _ _ _ _ _ _ _ _ _ _ _ _ _ _ _ _ ?_)
      exact fun F' w' h => HK.out F' w' ⟨h, hk⟩
  · have hmr : ¬ (m : Int) ≤ (rt : Int) := by omega
    have hdm : decide ((m : Int) ≤ (rt : Int)) = false := decide_eq_false hmr
    have HE := Lib.hid hend
    have HQ := Lib.hid (show y = (n : Int) - 1 - (a : Int) ∧ b < k ∧ 1 ≤ wt 0 ∧ TI cnt n a b k 0 v 0 wt pl pi mx (fun _ => False) ∧ CtF cnt n S k wt ct ∧ PaF n S a b pl pi pa ∧ BtW w H G f ct pa sy bt wr from ⟨hy, hbk1, hw0, hT, hC, hA, hW⟩)
    have HMK := Lib.hid hmk
    have HCB := Lib.hid hcb
    have HKN := Lib.hid (show k + 1 = n by omega)
    clear hend hmk hcb hT hC hA hW hy hc hm hrt
    go_wp2_with fail
    refine HE.out _ _ ⟨⟨a, b, v, wt, pl, pi, mx, ct, pa, y, ?_, HQ.out⟩, HKN.out⟩
    rw [← HMK.out, ← HCB.out]
    exact ⟨rfl, rfl, rfl, rfl, rfl, rfl, rfl, rfl, rfl, rfl, rfl⟩
theorem bt_l6 {w wr : World} {H G S N n rt : Nat} {f : Nat → Value} {cnt sy bt : Nat → Nat} (hHG : H ≠ G) (hn : n ≤ S) (hS : S ≤ 256) (hm : ∀ i j, i ≤ j → j < n → cnt j ≤ cnt i) (hc : ∀ p, cnt p < 65536) {k : Nat} (hkn : k + 1 ≤ n) (h2n : 2 ≤ n) (hrt : rt = S + (n - 2)) (Q : Exit → Act → World → Prop) (F : Act) (hF : TreeI w H G S N n rt f cnt sy bt k F wr)
    (hend : ∀ F w', TreeI w H G S N n rt f cnt sy bt (n - 1) F w' → Q (.exit 6) F w') :
    Code.wp Tryf.prog btL6 Q F wr := by
  have e : btL6 = .loop btB6 := by kernel_rfl
  rw [e]
  refine wp_loop (fun F w' => ∃ k, k + 1 ≤ n ∧ TreeI w H G S N n rt f cnt sy bt k F w') (fun F _ => 600 - (intOf (F.tmps.getD 6 undef)).toNat) ⟨k, hkn, hF⟩ ?_
  rintro F wr ⟨k, hkn, a, b, v, wt, pl, pi, mx, ct, pa, y, hF, hy, hbk1, hw0, hT, hC, hA, hW⟩
  have h6 : F.tmps.getD 6 undef = .int .i16 (S + k : Nat) := hF.2.2.2.2.2.1
  rw [bt_frame hF]
  refine bt_p1 hHG hn hS hm hc hkn h2n hrt hbk1 hw0 rfl rfl hy hT hC hA hW _ _ _ _ _ _ _ _ _ _ _ _ _ _ _ _ _ _ _ _ _ _ _ _ _ _ _ _ _ _ _ _ _ _ _ _ _ _ _ _ _ _ _ _ _ _ _ _ _ _ _ _ _ _ _ _ _ _ _ _ _ _ _ _ _ _ _ _ _ _ _ _ _ _ _ _ _ _ _ _ _ _ _ _ _ _ _ _ _ _ _ _ _ _ _ _ _ _ _ _ _ _ _ _ _ _ _ _ _ _ _ _ _ _ _ _ _ _ _ _ _ _ _ _ _ _ _ _ _ _ _ _ _ _ _ _ _ _ _ _ _ _ _ _ _ _ _ _ _ _ _ _ _ _ _ _ _ _ _ _ _ _ _ _ _ _ _ _ _ _ _ _ _ _ _ _ _ _ _ _ _ _ _ _ _ _ _ _ _ _ _ _ _ _ _ _ _ _ _ _ _ _ _ _ _ _ _ _ _ _ _ _ _ _ _ _ _ _ _ _ _ _ _ _ _ _ _ _ _ _ _ _ _ _ _ _ _ _ _ _ _ _ _ _ _ _ _ _ _ _ _ _ _ _ _ _ _ _ _ _ _ _ _ _ _ _ _ _ _ _ _ _ _ _ _ _ _ _ _ _ _ _ _ _ _ _ _ _ _ _ _ _ _ _ _ _ _ _ _ _ _ _ _ _ _ _ _ _ _ _ _ _ _ _ _ _ _ _ _ _ _ _ _ _ _ _ _ _ _ _ _ _ _ _ _ _ _ _ _ _ _ _ _ _ _ _ _ _ _ _ (fun F' w' h => ?_) ?_
  · obtain ⟨h, hk⟩ := h
    have hk2 : k = n - 1 := by omega
    subst hk2
    exact hend F' w' h
  · rintro F' w' ⟨h, hk⟩
    refine ⟨⟨k + 1, by omega, h⟩, ?_⟩
    obtain ⟨_, _, _, _, _, _, _, _, _, _, hF', _⟩ := h
    have h7 : F'.tmps.getD 6 undef = .int .i16 (S + (k + 1) : Nat) := hF'.2.2.2.2.2.1
    show 600 - (intOf (F'.tmps.getD 6 undef)).toNat < 600 - (intOf (.int .i16 (S + k : Nat))).toNat
    rw [h7]
    simp only [intOf]
    omega
end Go.Proofs.YthkklojjpgjiiaaFmt
