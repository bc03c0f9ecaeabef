/-
  huff0's buildCTable: lengths are counted, first codes are found. Conditions: those of each.
-/
import Derived.Test.YthkklojjpgjiiaaFmtCodeT21
namespace Go.Proofs.YthkklojjpgjiiaaFmt
open Go.RowKit

set_option maxRecDepth 100000 in
set_option maxHeartbeats 6400000 in
theorem en_l12 {w wr : World} {H G A B Ct N n M : Nat} {f : Nat → Value} {z c pa sy l nb : Nat → Nat} (hD : EnD w H G A B Ct) (hB : NdB n c pa sy) (hn : n ≤ 256) (hl : ∀ i, i < n → 1 ≤ l i ∧ l i ≤ 11) (hW : EnW w H G A B Ct f (ndV (NV z n c pa sy l)) nb wr) (v26 : Value) (Q : Exit → Act → World → Prop)
    (u1 u2 u3 u4 u6 u8 u9 u10 u11 u12 u13 u14 u15 u16 u20 u21 u22 u23 u24 u25 u27 u28 u29 u30 u31 u32 u33 u34 u35 u36 u37 u38 u39 u40 u41 u42 u43 u44 u45 u46 u47 u48 u49 u50 u51 u52 u53 u54 u55 u56 u57 u58 u59 u60 u61 u62 u63 u64 u65 u66 u67 u68 u69 u70 u71 u72 u73 u74 u75 u76 u77 u78 u79 u80 u81 u82 u83 u84 u85 u86 u87 u88 u89 u90 u91 u92 u93 u94 u95 u96 u97 u98 u99 u100 u101 u102 u103 u104 u105 u106 u107 u108 u109 u110 u111 u112 u113 u114 u115 u116 u117 u118 u119 u120 u121 u122 u123 u124 u125 u126 u127 u128 u129 u130 u131 u132 u133 u134 u135 u136 u137 u138 u139 u140 u141 u142 u143 u144 u145 u146 u147 u148 u149 u150 u151 u152 u153 u154 u155 u156 u157 u158 u159 u160 u161 u162 u163 u164 u165 u166 u167 u168 u169 u170 u171 u172 u173 u174 u175 u176 u177 u178 u179 u180 u181 u182 u183 u184 u185 u186 u187 u188 u189 u190 u191 u192 u193 u194 u195 u196 u197 u198 u199 u200 u201 u202 u203 u204 u205 u206 u207 u208 u209 u210 u211 u212 u213 u214 u215 u216 u217 u218 u219 u220 u221 u222 u223 u224 u225 u226 u227 u228 u229 u230 u231 u232 u233 u234 u235 u236 u237 u238 u239 u240 u241 u242 u243 u244 u245 u246 u247 u248 u249 u250 u251 u252 u253 u254 u255 u256 u257 u258 u259 u260 u261 u262 u263 u264 u265 u266 u267 u268 u269 u270 u271 u272 u273 u274 u275 u276 u277 u278 u279 u280 u284 u285 u286 u287 u288 u289 u290 u291 u292 u293 u294 u295 u296 u297 u298 u299 u300 u301 u302 u303 u304 u305 u306 u307 u308 u309 u310 u311 u312 u313 u314 u315 u316 u317 u318 u319 u320 u321 u322 u323 u324 u325 u326 u327 u328 u329 u330 u331 u332 u333 u334 u335 u336 u337 u338 u339 u340 u341 u342 u343 u344 u345 u346 u347 u348 u349 u350 u351 u352 u353 u354 u355 u356 u357 : Value)
    (hend : ∀ F w', EnF H G A B N M v26 F ∧ EnW w H G A B Ct f (ndV (NV z n c pa sy l)) nb w' → Q (.exit 12) F w') :
    Code.wp Tryf.prog btL12 Q ⟨#[.pointer (some ⟨H, 0, none⟩), u1, u2, u3, u4, .int .u16 (N : Nat), u6, .slice (some ⟨G, 1, none⟩) 512 512, u8, u9, u10, u11, u12, u13, u14, u15, u16, .int .u8 (M : Nat), .pointer (some ⟨A, 0, none⟩), .pointer (some ⟨B, 0, none⟩), u20, u21, u22, u23, u24, u25, v26, u27, u28, u29, u30, u31, u32, u33, u34, u35, u36, u37, u38, u39, u40, u41, u42, u43, u44, u45, u46, u47, u48, u49, u50, u51, u52, u53, u54, u55, u56, u57, u58, u59, u60, u61, u62, u63, u64, u65, u66, u67, u68, u69, u70, u71, u72, u73, u74, u75, u76, u77, u78, u79, u80, u81, u82, u83, u84, u85, u86, u87, u88, u89, u90, u91, u92, u93, u94, u95, u96, u97, u98, u99, u100, u101, u102, u103, u104, u105, u106, u107, u108, u109, u110, u111, u112, u113, u114, u115, u116, u117, u118, u119, u120, u121, u122, u123, u124, u125, u126, u127, u128, u129, u130, u131, u132, u133, u134, u135, u136, u137, u138, u139, u140, u141, u142, u143, u144, u145, u146, u147, u148, u149, u150, u151, u152, u153, u154, u155, u156, u157, u158, u159, u160, u161, u162, u163, u164, u165, u166, u167, u168, u169, u170, u171, u172, u173, u174, u175, u176, u177, u178, u179, u180, u181, u182, u183, u184, u185, u186, u187, u188, u189, u190, u191, u192, u193, u194, u195, u196, u197, u198, u199, u200, u201, u202, u203, u204, u205, u206, u207, u208, u209, u210, u211, u212, u213, u214, u215, u216, u217, u218, u219, u220, u221, u222, u223, u224, u225, u226, u227, u228, u229, u230, u231, u232, u233, u234, u235, u236, u237, u238, u239, u240, u241, u242, u243, u244, u245, u246, u247, u248, u249, u250, u251, u252, u253, u254, u255, u256, u257, u258, u259, u260, u261, u262, u263, u264, u265, u266, u267, u268, u269, u270, u271, u272, u273, u274, u275, u276, u277, u278, u279, u280, .slice (some ⟨G, 1, none⟩) n 512, .int .i64 (n : Nat), .int .i64 0, u284, u285, u286, u287, u288, u289, u290, u291, u292, u293, u294, u295, u296, u297, u298, u299, u300, u301, u302, u303, u304, u305, u306, u307, u308, u309, u310, u311, u312, u313, u314, u315, u316, u317, u318, u319, u320, u321, u322, u323, u324, u325, u326, u327, u328, u329, u330, u331, u332, u333, u334, u335, u336, u337, u338, u339, u340, u341, u342, u343, u344, u345, u346, u347, u348, u349, u350, u351, u352, u353, u354, u355, u356, u357], []⟩ wr := by
  conv => arg 2; whnf
  have HD := Lib.hid hD
  have HB := Lib.hid hB
  have HL := Lib.hid hl
  have HW := Lib.hid hW
  have HE := Lib.hid hend
  clear hD hB hl hW hend
  go_wp2_with fail
  go_loopw [283] (fun iv wr => ∃ i : Nat, i ≤ n ∧ iv = .int .i64 (i : Nat) ∧ EnW w H G A B Ct f (ndV (NV z n c pa sy l)) nb wr) (fun iv _ => n - (intOf iv).toNat)
  case atStart => exact ⟨0, Nat.zero_le _, rfl, HW.out⟩
  case round =>
    clear HW
    obtain ⟨i, hi, rfl, hW⟩ := hrel
    by_cases hin : (i : Int) < (n : Int)
    · have hd : decide ((i : Int) < (n : Int)) = true := decide_eq_true hin
      obtain ⟨b1, b2, b3⟩ := HB.out i (by omega)
      obtain ⟨l1, l2⟩ := HL.out i (by omega)
      obtain ⟨x, hx⟩ : ∃ x, l i = x := ⟨_, rfl⟩
      have kI : wr.cell? ⟨G, 1 + i, none⟩ = some (.int .u64 (nd (c i) (pa i) (sy i) x : Nat)) := by rw [← hx]; exact hW.g.cellv (1 + i) (by omega) _ (NV_at (by omega))
      rw [hx] at l1 l2
      have hst := hW.alloc (.cells #[.int .u64 (nd (c i) (pa i) (sy i) x : Nat)] 110)
      have hv := RowF.newRep _ _ _ _ (rfl : wr.alloc (.cells #[.int .u64 (nd (c i) (pa i) (sy i) x : Nat)] 110) = _) (show _ = Array.replicate 1 _ from rfl)
      have HST := Lib.hid hst
      have HV := Lib.hid hv
      clear hst hv hW hx
      go_upto_region 65 with fail
      generalize World.alloc _ _ = w4 at HST HV ⊢
      generalize wr.heap.size = V at HV ⊢
      have KN := Lib.hid (ndNbBits_any (HV.out.cell 0 (by omega)) (by omega) (by omega) (by omega) (by omega))
      obtain ⟨g1, hg1⟩ := HST.out.a
      have ka : w4.cell? ⟨A, x, none⟩ = some (.int .u16 (g1 x)) := hg1.cell x (by omega)
      have za := hg1.frozen x
      generalize g1 x = gx at ka
      have hx12 : (x : Int) < 12 := by omega
      clear hg1
      go_wp2_with fail
      refine KN.out.mono ?_
      rintro e w5 ⟨rfl, h9⟩
      have h9 := h9.symm
      subst h9
      go_wp2_with fail
      refine ⟨⟨i + 1, by omega, by go_num, HST.out.setA HD.out x _⟩, by simp [intOf]; omega⟩
    · have hd : decide ((i : Int) < (n : Int)) = false := decide_eq_false hin
      have HW := Lib.hid hW
      clear hW
      go_wp2_with fail
      exact HE.out _ _ ⟨⟨rfl, rfl, rfl, rfl, rfl, rfl, rfl, rfl, rfl⟩, HW.out⟩
set_option maxRecDepth 100000 in
set_option maxHeartbeats 6400000 in
theorem en_l14 {w wr : World} {H G A B Ct N n M : Nat} {f : Nat → Value} {z c pa sy l nb : Nat → Nat} (hD : EnD w H G A B Ct) (hB : NdB n c pa sy) (hl : ∀ i, i < n → 1 ≤ l i ∧ l i ≤ 11) (hW : EnW w H G A B Ct f (ndV (NV z n c pa sy l)) nb wr) (hM : M ≤ 11) (v26 : Value) (x0 : Int) (Q : Exit → Act → World → Prop)
    (u1 u2 u3 u4 u6 u8 u9 u10 u11 u12 u13 u14 u15 u16 u20 u21 u24 u25 u27 u28 u29 u30 u31 u32 u33 u34 u35 u36 u37 u38 u39 u40 u41 u42 u43 u44 u45 u46 u47 u48 u49 u50 u51 u52 u53 u54 u55 u56 u57 u58 u59 u60 u61 u62 u63 u64 u65 u66 u67 u68 u69 u70 u71 u72 u73 u74 u75 u76 u77 u78 u79 u80 u81 u82 u83 u84 u85 u86 u87 u88 u89 u90 u91 u92 u93 u94 u95 u96 u97 u98 u99 u100 u101 u102 u103 u104 u105 u106 u107 u108 u109 u110 u111 u112 u113 u114 u115 u116 u117 u118 u119 u120 u121 u122 u123 u124 u125 u126 u127 u128 u129 u130 u131 u132 u133 u134 u135 u136 u137 u138 u139 u140 u141 u142 u143 u144 u145 u146 u147 u148 u149 u150 u151 u152 u153 u154 u155 u156 u157 u158 u159 u160 u161 u162 u163 u164 u165 u166 u167 u168 u169 u170 u171 u172 u173 u174 u175 u176 u177 u178 u179 u180 u181 u182 u183 u184 u185 u186 u187 u188 u189 u190 u191 u192 u193 u194 u195 u196 u197 u198 u199 u200 u201 u202 u203 u204 u205 u206 u207 u208 u209 u210 u211 u212 u213 u214 u215 u216 u217 u218 u219 u220 u221 u222 u223 u224 u225 u226 u227 u228 u229 u230 u231 u232 u233 u234 u235 u236 u237 u238 u239 u240 u241 u242 u243 u244 u245 u246 u247 u248 u249 u250 u251 u252 u253 u254 u255 u256 u257 u258 u259 u260 u261 u262 u263 u264 u265 u266 u267 u268 u269 u270 u271 u272 u273 u274 u275 u276 u277 u278 u279 u280 u281 u282 u283 u284 u285 u286 u287 u288 u289 u290 u291 u292 u293 u294 u295 u296 u297 u298 u299 u300 u301 u302 u303 u304 u305 u306 u307 u308 u309 u310 u311 u312 u313 u314 u315 u316 u317 u318 u319 u320 u321 u322 u323 u324 u325 u326 u327 u328 u329 u330 u331 u332 u333 u334 u335 u336 u337 u338 u339 u340 u341 u342 u343 u344 u345 u346 u347 u348 u349 u350 u351 u352 u353 u354 u355 u356 u357 : Value)
    (hend : ∀ F w', EnF H G A B N M v26 F ∧ EnW w H G A B Ct f (ndV (NV z n c pa sy l)) nb w' → Q (.exit 14) F w') :
    Code.wp Tryf.prog btL14 Q ⟨#[.pointer (some ⟨H, 0, none⟩), u1, u2, u3, u4, .int .u16 (N : Nat), u6, .slice (some ⟨G, 1, none⟩) 512 512, u8, u9, u10, u11, u12, u13, u14, u15, u16, .int .u8 (M : Nat), .pointer (some ⟨A, 0, none⟩), .pointer (some ⟨B, 0, none⟩), u20, u21, .int .u16 x0, .int .u8 (M : Nat), u24, u25, v26, u27, u28, u29, u30, u31, u32, u33, u34, u35, u36, u37, u38, u39, u40, u41, u42, u43, u44, u45, u46, u47, u48, u49, u50, u51, u52, u53, u54, u55, u56, u57, u58, u59, u60, u61, u62, u63, u64, u65, u66, u67, u68, u69, u70, u71, u72, u73, u74, u75, u76, u77, u78, u79, u80, u81, u82, u83, u84, u85, u86, u87, u88, u89, u90, u91, u92, u93, u94, u95, u96, u97, u98, u99, u100, u101, u102, u103, u104, u105, u106, u107, u108, u109, u110, u111, u112, u113, u114, u115, u116, u117, u118, u119, u120, u121, u122, u123, u124, u125, u126, u127, u128, u129, u130, u131, u132, u133, u134, u135, u136, u137, u138, u139, u140, u141, u142, u143, u144, u145, u146, u147, u148, u149, u150, u151, u152, u153, u154, u155, u156, u157, u158, u159, u160, u161, u162, u163, u164, u165, u166, u167, u168, u169, u170, u171, u172, u173, u174, u175, u176, u177, u178, u179, u180, u181, u182, u183, u184, u185, u186, u187, u188, u189, u190, u191, u192, u193, u194, u195, u196, u197, u198, u199, u200, u201, u202, u203, u204, u205, u206, u207, u208, u209, u210, u211, u212, u213, u214, u215, u216, u217, u218, u219, u220, u221, u222, u223, u224, u225, u226, u227, u228, u229, u230, u231, u232, u233, u234, u235, u236, u237, u238, u239, u240, u241, u242, u243, u244, u245, u246, u247, u248, u249, u250, u251, u252, u253, u254, u255, u256, u257, u258, u259, u260, u261, u262, u263, u264, u265, u266, u267, u268, u269, u270, u271, u272, u273, u274, u275, u276, u277, u278, u279, u280, u281, u282, u283, u284, u285, u286, u287, u288, u289, u290, u291, u292, u293, u294, u295, u296, u297, u298, u299, u300, u301, u302, u303, u304, u305, u306, u307, u308, u309, u310, u311, u312, u313, u314, u315, u316, u317, u318, u319, u320, u321, u322, u323, u324, u325, u326, u327, u328, u329, u330, u331, u332, u333, u334, u335, u336, u337, u338, u339, u340, u341, u342, u343, u344, u345, u346, u347, u348, u349, u350, u351, u352, u353, u354, u355, u356, u357], []⟩ wr := by
  conv => arg 2; whnf
  have HD := Lib.hid hD
  have HB := Lib.hid hB
  have HL := Lib.hid hl
  have HW := Lib.hid hW
  have HE := Lib.hid hend
  clear hD hB hl hW hend
  go_wp2_with fail
  go_loopw [22, 23] (fun xv jv wr => ∃ (j : Nat) (x : Int), j ≤ 11 ∧ jv = .int .u8 (j : Nat) ∧ xv = .int .u16 x ∧ EnW w H G A B Ct f (ndV (NV z n c pa sy l)) nb wr) (fun _ jv _ => (intOf jv).toNat)
  case atStart => exact ⟨M, x0, hM, rfl, rfl, HW.out⟩
  case round =>
    clear HW
    obtain ⟨j, x, hj, rfl, rfl, hW⟩ := hrel
    by_cases hj0 : j = 0
    · subst hj0
      have HW := Lib.hid hW
      clear hW
      go_wp2_with fail
      exact HE.out _ _ ⟨⟨rfl, rfl, rfl, rfl, rfl, rfl, rfl, rfl, rfl⟩, HW.out⟩
    · have hji : (0 : Int) < (j : Int) := by omega
      have hd : decide ((0 : Int) < (j : Int)) = true := decide_eq_true hji
      obtain ⟨j', hj'⟩ : ∃ j', j = j' + 1 := ⟨j - 1, by omega⟩
      have hsub : (j : Int) - 1 = (j' : Nat) := by omega
      have h16 : (j : Int) < 16 := by omega
      have h12 : (j : Int) < 12 := by omega
      obtain ⟨g2, hg2⟩ := hW.b
      have kb := hg2.cell j (by omega)
      have zb := hg2.frozen j
      have hst := hW.setB HD.out j x
      obtain ⟨g1, hg1⟩ := hst.a
      have ka : (wr.setCell ⟨B, j, none⟩ (.int .u16 x)).cell? ⟨A, j, none⟩ = some (.int .u16 (g1 j)) := hg1.cell j (by omega)
      generalize g1 j = gj at ka
      have HST := Lib.hid hst
      have HJ' := Lib.hid hj'
      clear hst hW hg1 hg2 hj'
      go_upto_region 72 with fail
      generalize World.setCell _ _ _ = w4 at HST ka ⊢
      go_wp2_with fail
      have hj' := HJ'.out
      refine ⟨⟨j', _, by omega, rfl, rfl, HST.out⟩, by simp [intOf]; omega⟩
end Go.Proofs.YthkklojjpgjiiaaFmt
