/-
  huff0's buildCTable: the depths. Conditions: those of each.
-/
import Derived.Test.YthkklojjpgjiiaaFmtCodeT31
namespace Go.Proofs.YthkklojjpgjiiaaFmt
open Go.RowKit

set_option maxRecDepth 100000 in
set_option maxHeartbeats 6400000 in
theorem bt_l8 {w wr : World} {H G S N n rt : Nat} {f : Nat → Value} {ct pa sy bt pi : Nat → Nat} (hHG : H ≠ G) (hn : n ≤ S) (hS : S ≤ 256) (h2n : 2 ≤ n) (hpi : ∀ i, i < n - 2 → i < pi i ∧ pi i ≤ n - 2) (hpa : ∀ j, j < n - 2 → pa (S + j + 1) = S + pi j)
    {y : Int} (hy : y = (S : Int) + (n - 2 : Nat) - 1) (hI : BtI n S (n - 2) pi bt) (hW : BtW w H G f ct pa sy bt wr) (v6 v9 v11 : Value) (Q : Exit → Act → World → Prop)
    (u1 u2 u3 u12 u13 u14 u16 u17 u18 u19 u20 u21 u22 u23 u24 u25 u26 u27 u28 u29 u30 u31 u32 u33 u34 u35 u36 u37 u38 u39 u40 u41 u42 u43 u44 u45 u46 u47 u48 u49 u50 u51 u52 u53 u54 u55 u56 u57 u58 u59 u60 u61 u62 u63 u64 u65 u66 u67 u68 u69 u70 u71 u72 u73 u74 u75 u76 u77 u78 u79 u80 u81 u82 u83 u84 u85 u86 u87 u88 u89 u90 u91 u92 u93 u94 u95 u96 u97 u98 u99 u100 u101 u102 u103 u104 u105 u106 u107 u108 u109 u110 u111 u112 u113 u114 u115 u116 u117 u118 u119 u120 u121 u122 u123 u124 u125 u126 u127 u128 u129 u130 u131 u132 u133 u134 u135 u136 u137 u138 u139 u140 u141 u142 u143 u144 u145 u146 u147 u148 u149 u150 u151 u152 u153 u154 u155 u156 u157 u158 u159 u160 u161 u162 u163 u164 u165 u166 u167 u168 u169 u170 u171 u172 u173 u174 u175 u176 u177 u178 u179 u180 u181 u182 u183 u184 u185 u186 u187 u188 u189 u190 u191 u192 u193 u194 u195 u196 u197 u198 u199 u200 u201 u202 u203 u204 u205 u206 u207 u208 u209 u210 u211 u212 u213 u214 u215 u216 u217 u218 u219 u220 u221 u222 u223 u224 u225 u226 u227 u228 u229 u230 u231 u232 u233 u234 u235 u236 u237 u238 u239 u240 u241 u242 u243 u244 u245 u246 u247 u248 u249 u250 u251 u252 u253 u254 u255 u256 u257 u258 u259 u260 u261 u262 u263 u264 u265 u266 u267 u268 u269 u270 u271 u272 u273 u274 u275 u276 u277 u278 u279 u280 u281 u282 u283 u284 u285 u286 u287 u288 u289 u290 u291 u292 u293 u294 u295 u296 u297 u298 u299 u300 u301 u302 u303 u304 u305 u306 u307 u308 u309 u310 u311 u312 u313 u314 u315 u316 u317 u318 u319 u320 u321 u322 u323 u324 u325 u326 u327 u328 u329 u330 u331 u332 u333 u334 u335 u336 u337 u338 u339 u340 u341 u342 u343 u344 u345 u346 u347 u348 u349 u350 u351 u352 u353 u354 u355 u356 u357 : Value)
    (hend : ∀ F w', (∃ bt', BtF H G S N rt v6 v9 v11 F ∧ BtI n S 0 pi bt' ∧ BtW w H G f ct pa sy bt' w') → Q (.exit 8) F w') :
    Code.wp Tryf.prog btL8 Q ⟨#[.pointer (some ⟨H, 0, none⟩), u1, u2, u3, .int .i16 (S : Nat), .int .u16 (N : Nat), v6, .slice (some ⟨G, 1, none⟩) 512 512, .slice (some ⟨G, 0, none⟩) 513 513, v9, .int .i16 (rt : Nat), v11, u12, u13, u14, .int .i16 y, u16, u17, u18, u19, u20, u21, u22, u23, u24, u25, u26, u27, u28, u29, u30, u31, u32, u33, u34, u35, u36, u37, u38, u39, u40, u41, u42, u43, u44, u45, u46, u47, u48, u49, u50, u51, u52, u53, u54, u55, u56, u57, u58, u59, u60, u61, u62, u63, u64, u65, u66, u67, u68, u69, u70, u71, u72, u73, u74, u75, u76, u77, u78, u79, u80, u81, u82, u83, u84, u85, u86, u87, u88, u89, u90, u91, u92, u93, u94, u95, u96, u97, u98, u99, u100, u101, u102, u103, u104, u105, u106, u107, u108, u109, u110, u111, u112, u113, u114, u115, u116, u117, u118, u119, u120, u121, u122, u123, u124, u125, u126, u127, u128, u129, u130, u131, u132, u133, u134, u135, u136, u137, u138, u139, u140, u141, u142, u143, u144, u145, u146, u147, u148, u149, u150, u151, u152, u153, u154, u155, u156, u157, u158, u159, u160, u161, u162, u163, u164, u165, u166, u167, u168, u169, u170, u171, u172, u173, u174, u175, u176, u177, u178, u179, u180, u181, u182, u183, u184, u185, u186, u187, u188, u189, u190, u191, u192, u193, u194, u195, u196, u197, u198, u199, u200, u201, u202, u203, u204, u205, u206, u207, u208, u209, u210, u211, u212, u213, u214, u215, u216, u217, u218, u219, u220, u221, u222, u223, u224, u225, u226, u227, u228, u229, u230, u231, u232, u233, u234, u235, u236, u237, u238, u239, u240, u241, u242, u243, u244, u245, u246, u247, u248, u249, u250, u251, u252, u253, u254, u255, u256, u257, u258, u259, u260, u261, u262, u263, u264, u265, u266, u267, u268, u269, u270, u271, u272, u273, u274, u275, u276, u277, u278, u279, u280, u281, u282, u283, u284, u285, u286, u287, u288, u289, u290, u291, u292, u293, u294, u295, u296, u297, u298, u299, u300, u301, u302, u303, u304, u305, u306, u307, u308, u309, u310, u311, u312, u313, u314, u315, u316, u317, u318, u319, u320, u321, u322, u323, u324, u325, u326, u327, u328, u329, u330, u331, u332, u333, u334, u335, u336, u337, u338, u339, u340, u341, u342, u343, u344, u345, u346, u347, u348, u349, u350, u351, u352, u353, u354, u355, u356, u357], []⟩ wr := by
  conv => arg 2; whnf
  have HHG := Lib.hid hHG
  have HPI := Lib.hid hpi
  have HPA := Lib.hid hpa
  have HI := Lib.hid hI
  have HW := Lib.hid hW
  have HY := Lib.hid hy
  have HE := Lib.hid hend
  clear hHG hpi hpa hI hW hy hend
  go_wp2_with fail
  go_loopw [15] (fun pv wr => ∃ (j : Nat) (y : Int) (bt' : Nat → Nat), j ≤ n - 2 ∧ pv = .int .i16 y ∧ y = (S : Int) + (j : Int) - 1 ∧ BtI n S j pi bt' ∧ BtW w H G f ct pa sy bt' wr) (fun pv _ => (intOf pv + 1).toNat)
  case atStart => exact ⟨n - 2, y, bt, Nat.le_refl _, rfl, HY.out, HI.out, HW.out⟩
  case round =>
    clear HI HW HY
    obtain ⟨j, y, bt', hj, rfl, hy, hI, hW⟩ := hrel
    by_cases hj0 : j = 0
    · subst hj0
      have hyS : ¬ (S : Int) ≤ y := by omega
      have hd : decide ((S : Int) ≤ y) = false := decide_eq_false hyS
      have HI := Lib.hid hI
      have HW := Lib.hid hW
      clear hI hW hy
      go_wp2_with fail
      exact HE.out _ _ ⟨bt', ⟨rfl, rfl, rfl, rfl, rfl, rfl, rfl, rfl, rfl, rfl, rfl⟩, HI.out, HW.out⟩
    · obtain ⟨j', rfl⟩ : ∃ j', j = j' + 1 := ⟨j - 1, by omega⟩
      obtain ⟨m, hm⟩ : ∃ m, S + j' = m := ⟨_, rfl⟩
      obtain rfl : y = (m : Nat) := by omega
      have hyS : (S : Int) ≤ (m : Int) := by omega
      have hd : decide ((S : Int) ≤ (m : Int)) = true := decide_eq_true hyS
      obtain ⟨q1, q2⟩ := HPI.out j' (by omega)
      obtain ⟨m2, hm2⟩ : ∃ m2, S + pi j' = m2 := ⟨_, rfl⟩
      have hpam : pa (1 + m) = m2 := by
        rw [← hm2, ← HPA.out j' (by omega), show 1 + m = S + j' + 1 by omega]
      have hxb : bt' (1 + m2) + pi j' ≤ n - 2 := by
        have h1 := hI.le (pi j') (by omega) q2
        rwa [show S + pi j' + 1 = 1 + m2 by omega] at h1
      have hnext := hI.next (by omega) HPI.out
      rw [show S + j' + 1 = 1 + m by omega, show S + pi j' + 1 = 1 + m2 by omega] at hnext
      have HNX := Lib.hid hnext
      have HM := Lib.hid hm
      have hmB : m < 512 := by omega
      have hm2B : m2 < 512 := by omega
      clear hI hnext hm hm2 hy
      obtain ⟨x, hx⟩ : ∃ x, bt' (1 + m2) = x := ⟨_, rfl⟩
      have KP := (hW.drewN 1).parent (1 + m) (by omega)
      rw [hpam] at KP
      have KN := (hW.drewN 1).nbBits (1 + m2) (by omega)
      rw [hx] at KN hxb
      have KS := (hW.drewN 1).setNbBits HHG.out (1 + m) (x + 1) (by omega) (by omega)
      have HKP := Lib.hid KP
      have HKN := Lib.hid KN
      have HKS := Lib.hid KS
      have HX := Lib.hid hx
      have hm2i : (m2 : Int) < 512 := by omega
      have hmi : (m : Int) < 512 := by omega
      have hxi : (x : Int) < 255 := by omega
      clear hW hpam KP KN KS hx
      go_upto_region 51 with fail
      refine wp_region_noPanic ?_
      refine wp_region_quiet_tail 11 (by kernel_rfl) (by kernel_rfl) ?_
      simp only [List.take_succ_cons, List.take_zero, List.drop_succ_cons, List.drop_zero]
      repeat (go_big_quiet_step (first | exact HKP.out _ | exact HKN.out _))
      refine wpQuiet_nil ?_
      go_wp2_with fail
      refine HKS.out.mono ?_
      rintro e w5 ⟨rfl, hW5⟩
      have HW5 := Lib.hid hW5
      clear hW5
      go_wp2_with fail
      refine NoPanic.normal ?_
      go_wp2_with fail
      have hm := HM.out
      refine ⟨⟨j', _, updN bt' (1 + m) (x + 1), by omega, rfl, by omega, by rw [← HX.out]; exact HNX.out, HW5.out⟩, by simp [intOf]⟩
set_option maxRecDepth 100000 in
set_option maxHeartbeats 6400000 in
theorem bt_l10 {w wr : World} {H G S N n rt : Nat} {f : Nat → Value} {ct pa sy bt pi pl : Nat → Nat} (hHG : H ≠ G) (hn : n ≤ S) (hS : S ≤ 256) (h2n : 2 ≤ n) (hN : n = N + 1) (hpl : ∀ i, i < n → pl i ≤ n - 2) (hpa : ∀ i, i < n → pa (n - 1 - i + 1) = S + pl i)
    (hI : BtI n S 0 pi bt) (hW : BtW w H G f ct pa sy bt wr) (v6 v9 v11 : Value) (Q : Exit → Act → World → Prop)
    (u1 u2 u3 u12 u13 u14 u15 u17 u18 u19 u20 u21 u22 u23 u24 u25 u26 u27 u28 u29 u30 u31 u32 u33 u34 u35 u36 u37 u38 u39 u40 u41 u42 u43 u44 u45 u46 u47 u48 u49 u50 u51 u52 u53 u54 u55 u56 u57 u58 u59 u60 u61 u62 u63 u64 u65 u66 u67 u68 u69 u70 u71 u72 u73 u74 u75 u76 u77 u78 u79 u80 u81 u82 u83 u84 u85 u86 u87 u88 u89 u90 u91 u92 u93 u94 u95 u96 u97 u98 u99 u100 u101 u102 u103 u104 u105 u106 u107 u108 u109 u110 u111 u112 u113 u114 u115 u116 u117 u118 u119 u120 u121 u122 u123 u124 u125 u126 u127 u128 u129 u130 u131 u132 u133 u134 u135 u136 u137 u138 u139 u140 u141 u142 u143 u144 u145 u146 u147 u148 u149 u150 u151 u152 u153 u154 u155 u156 u157 u158 u159 u160 u161 u162 u163 u164 u165 u166 u167 u168 u169 u170 u171 u172 u173 u174 u175 u176 u177 u178 u179 u180 u181 u182 u183 u184 u185 u186 u187 u188 u189 u190 u191 u192 u193 u194 u195 u196 u197 u198 u199 u200 u201 u202 u203 u204 u205 u206 u207 u208 u209 u210 u211 u212 u213 u214 u215 u216 u217 u218 u219 u220 u221 u222 u223 u224 u225 u226 u227 u228 u229 u230 u231 u232 u233 u234 u235 u236 u237 u238 u239 u240 u241 u242 u243 u244 u245 u246 u247 u248 u249 u250 u251 u252 u253 u254 u255 u256 u257 u258 u259 u260 u261 u262 u263 u264 u265 u266 u267 u268 u269 u270 u271 u272 u273 u274 u275 u276 u277 u278 u279 u280 u281 u282 u283 u284 u285 u286 u287 u288 u289 u290 u291 u292 u293 u294 u295 u296 u297 u298 u299 u300 u301 u302 u303 u304 u305 u306 u307 u308 u309 u310 u311 u312 u313 u314 u315 u316 u317 u318 u319 u320 u321 u322 u323 u324 u325 u326 u327 u328 u329 u330 u331 u332 u333 u334 u335 u336 u337 u338 u339 u340 u341 u342 u343 u344 u345 u346 u347 u348 u349 u350 u351 u352 u353 u354 u355 u356 u357 : Value)
    (hend : ∀ F w', (∃ bt', BtF H G S N rt v6 v9 v11 F ∧ BtI n S 0 pi bt' ∧ (∀ q, q < n → bt' (q + 1) = bt' (S + pl (n - 1 - q) + 1) + 1) ∧ BtW w H G f ct pa sy bt' w') → Q (.exit 10) F w') :
    Code.wp Tryf.prog btL10 Q ⟨#[.pointer (some ⟨H, 0, none⟩), u1, u2, u3, .int .i16 (S : Nat), .int .u16 (N : Nat), v6, .slice (some ⟨G, 1, none⟩) 512 512, .slice (some ⟨G, 0, none⟩) 513 513, v9, .int .i16 (rt : Nat), v11, u12, u13, u14, u15, .int .u16 0, u17, u18, u19, u20, u21, u22, u23, u24, u25, u26, u27, u28, u29, u30, u31, u32, u33, u34, u35, u36, u37, u38, u39, u40, u41, u42, u43, u44, u45, u46, u47, u48, u49, u50, u51, u52, u53, u54, u55, u56, u57, u58, u59, u60, u61, u62, u63, u64, u65, u66, u67, u68, u69, u70, u71, u72, u73, u74, u75, u76, u77, u78, u79, u80, u81, u82, u83, u84, u85, u86, u87, u88, u89, u90, u91, u92, u93, u94, u95, u96, u97, u98, u99, u100, u101, u102, u103, u104, u105, u106, u107, u108, u109, u110, u111, u112, u113, u114, u115, u116, u117, u118, u119, u120, u121, u122, u123, u124, u125, u126, u127, u128, u129, u130, u131, u132, u133, u134, u135, u136, u137, u138, u139, u140, u141, u142, u143, u144, u145, u146, u147, u148, u149, u150, u151, u152, u153, u154, u155, u156, u157, u158, u159, u160, u161, u162, u163, u164, u165, u166, u167, u168, u169, u170, u171, u172, u173, u174, u175, u176, u177, u178, u179, u180, u181, u182, u183, u184, u185, u186, u187, u188, u189, u190, u191, u192, u193, u194, u195, u196, u197, u198, u199, u200, u201, u202, u203, u204, u205, u206, u207, u208, u209, u210, u211, u212, u213, u214, u215, u216, u217, u218, u219, u220, u221, u222, u223, u224, u225, u226, u227, u228, u229, u230, u231, u232, u233, u234, u235, u236, u237, u238, u239, u240, u241, u242, u243, u244, u245, u246, u247, u248, u249, u250, u251, u252, u253, u254, u255, u256, u257, u258, u259, u260, u261, u262, u263, u264, u265, u266, u267, u268, u269, u270, u271, u272, u273, u274, u275, u276, u277, u278, u279, u280, u281, u282, u283, u284, u285, u286, u287, u288, u289, u290, u291, u292, u293, u294, u295, u296, u297, u298, u299, u300, u301, u302, u303, u304, u305, u306, u307, u308, u309, u310, u311, u312, u313, u314, u315, u316, u317, u318, u319, u320, u321, u322, u323, u324, u325, u326, u327, u328, u329, u330, u331, u332, u333, u334, u335, u336, u337, u338, u339, u340, u341, u342, u343, u344, u345, u346, u347, u348, u349, u350, u351, u352, u353, u354, u355, u356, u357], []⟩ wr := by
  conv => arg 2; whnf
  have HHG := Lib.hid hHG
  have HPL := Lib.hid hpl
  have HPA := Lib.hid hpa
  have HI := Lib.hid hI
  have HW := Lib.hid hW
  have HN := Lib.hid hN
  have HE := Lib.hid hend
  have hN2 : N < 256 := by omega
  clear hHG hpl hpa hI hW hend hN
  go_wp2_with fail
  go_loopw [16] (fun pv wr => ∃ (p : Nat) (bt' : Nat → Nat), p ≤ n ∧ pv = .int .u16 (p : Nat) ∧ BtI n S 0 pi bt' ∧ (∀ q, q < p → bt' (q + 1) = bt' (S + pl (n - 1 - q) + 1) + 1) ∧ BtW w H G f ct pa sy bt' wr) (fun pv _ => n - (intOf pv).toNat)
  case atStart => exact ⟨0, bt, Nat.zero_le _, rfl, HI.out, fun q hq => by omega, HW.out⟩
  case round =>
    clear HI HW
    obtain ⟨p, bt', hp, rfl, hI, hq, hW⟩ := hrel
    have hN := HN.out
    by_cases hpn : p < n
    · have hpN : (p : Int) ≤ (N : Int) := by omega
      have hd : decide ((p : Int) ≤ (N : Int)) = true := decide_eq_true hpN
      have q2 := HPL.out (n - 1 - p) (by omega)
      obtain ⟨m2, hm2⟩ : ∃ m2, S + pl (n - 1 - p) = m2 := ⟨_, rfl⟩
      have hpam : pa (1 + p) = m2 := by
        have h1 := HPA.out (n - 1 - p) (by omega)
        rw [show n - 1 - (n - 1 - p) + 1 = 1 + p by omega] at h1
        rw [h1, hm2]
      have hxb : bt' (1 + m2) + pl (n - 1 - p) ≤ n - 2 := by
        have h1 := hI.le (pl (n - 1 - p)) (by omega) q2
        rwa [show S + pl (n - 1 - p) + 1 = 1 + m2 by omega] at h1
      have hI2 : ∀ x, BtI n S 0 pi (updN bt' (1 + p) x) := fun x => by
        refine ⟨?_, fun i h1 h2 => ?_, fun i h1 h2 => ?_⟩
        · rw [updN_ne _ _ _ _ (by omega)]; exact hI.rt
        · rw [updN_ne _ _ _ _ (by omega), updN_ne _ _ _ _ (by omega)]; exact hI.st i h1 h2
        · rw [updN_ne _ _ _ _ (by omega)]; exact hI.le i h1 h2
      have hq2 : ∀ q, q < p + 1 → updN bt' (1 + p) (bt' (1 + m2) + 1) (q + 1) = updN bt' (1 + p) (bt' (1 + m2) + 1) (S + pl (n - 1 - q) + 1) + 1 := fun q hql => by
        by_cases e : q = p
        · rw [e, Nat.add_comm p 1, updN_same, updN_ne _ _ _ _ (by omega), show S + pl (n - 1 - p) + 1 = 1 + m2 by omega]
        · rw [updN_ne _ _ _ _ (by omega), updN_ne _ _ _ _ (by omega)]
          exact hq q (by omega)
      have HI2 := Lib.hid hI2
      have HQ2 := Lib.hid hq2
      have hm2B : m2 < 512 := by omega
      clear hI hI2 hq hq2 hm2 hN
      obtain ⟨x, hx⟩ : ∃ x, bt' (1 + m2) = x := ⟨_, rfl⟩
      have KP := (hW.drewN 1).parent (1 + p) (by omega)
      rw [hpam] at KP
      have KN := (hW.drewN 1).nbBits (1 + m2) (by omega)
      rw [hx] at KN hxb
      have KS := (hW.drewN 1).setNbBits HHG.out (1 + p) (x + 1) (by omega) (by omega)
      have HKP := Lib.hid KP
      have HKN := Lib.hid KN
      have HKS := Lib.hid KS
      have HX := Lib.hid hx
      have hm2i : (m2 : Int) < 512 := by omega
      have hmi : (p : Int) < 512 := by omega
      have hxi : (x : Int) < 255 := by omega
      clear hW hpam KP KN KS hx
      go_upto_region 55 with fail
      refine wp_region_noPanic ?_
      refine wp_region_quiet_tail 11 (by kernel_rfl) (by kernel_rfl) ?_
      simp only [List.take_succ_cons, List.take_zero, List.drop_succ_cons, List.drop_zero]
      repeat (go_big_quiet_step (first | exact HKP.out _ | exact HKN.out _))
      refine wpQuiet_nil ?_
      go_wp2_with fail
      refine HKS.out.mono ?_
      rintro e w5 ⟨rfl, hW5⟩
      have HW5 := Lib.hid hW5
      clear hW5
      go_wp2_with fail
      refine NoPanic.normal ?_
      go_wp2_with fail
      have hq2 := HQ2.out
      rw [HX.out] at hq2
      refine ⟨⟨p + 1, updN bt' (1 + p) (x + 1), by omega, by go_num, HI2.out _, hq2, HW5.out⟩, by simp [intOf]; omega⟩
    · have hpN : ¬ (p : Int) ≤ (N : Int) := by omega
      have hd : decide ((p : Int) ≤ (N : Int)) = false := decide_eq_false hpN
      obtain rfl : p = n := by omega
      have HI := Lib.hid hI
      have HW := Lib.hid hW
      have HQ := Lib.hid hq
      clear hI hW hq hN
      go_wp2_with fail
      exact HE.out _ _ ⟨bt', ⟨rfl, rfl, rfl, rfl, rfl, rfl, rfl, rfl, rfl, rfl, rfl⟩, HI.out, HQ.out, HW.out⟩
end Go.Proofs.YthkklojjpgjiiaaFmt
