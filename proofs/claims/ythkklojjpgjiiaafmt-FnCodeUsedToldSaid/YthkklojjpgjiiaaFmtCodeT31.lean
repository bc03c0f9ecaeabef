/-
  huff0's buildCTable: one inner node of the tree. Conditions: those of the theorem.
-/
import Derived.Test.YthkklojjpgjiiaaFmtCodeT21
namespace Go.Proofs.YthkklojjpgjiiaaFmt
open Go.RowKit

set_option maxRecDepth 100000 in
set_option maxHeartbeats 6400000 in
theorem bt_t {w wr : World} {H G S N rt : Nat} {f : Nat → Value} {ct pa sy bt : Nat → Nat} (hHG : H ≠ G) {m n1 n2 : Nat} (hm : m < 512) (hn1 : n1 < 512) (hn2 : n2 < 512) (hx : ct (n1 + 1) + ct (n2 + 1) < 2147483648) (hne1 : n1 ≠ m) (hne2 : n2 ≠ m) (hW : BtW w H G f ct pa sy bt wr) (v9 v11 : Value) (Q : Exit → Act → World → Prop)
    (u1 u2 u3 u12 u15 u16 u17 u18 u19 u20 u21 u22 u23 u24 u25 u26 u27 u28 u29 u30 u31 u32 u33 u34 u35 u36 u37 u38 u39 u40 u41 u42 u43 u44 u45 u46 u47 u48 u49 u50 u51 u52 u53 u54 u55 u56 u57 u58 u59 u60 u61 u62 u63 u64 u65 u66 u67 u68 u69 u70 u71 u72 u73 u74 u75 u76 u77 u78 u79 u80 u81 u82 u83 u84 u85 u86 u87 u88 u89 u90 u91 u92 u93 u94 u95 u96 u97 u98 u99 u100 u101 u102 u103 u104 u105 u106 u107 u108 u109 u110 u111 u112 u113 u114 u115 u116 u117 u118 u119 u120 u121 u122 u123 u124 u125 u126 u127 u128 u129 u130 u131 u132 u133 u134 u135 u136 u137 u138 u139 u140 u141 u142 u143 u144 u145 u146 u147 u148 u149 u150 u151 u152 u153 u154 u155 u156 u157 u158 u159 u160 u161 u162 u163 u164 u165 u166 u167 u168 u169 u170 u171 u172 u173 u174 u175 u176 u177 u178 u179 u180 u181 u182 u183 u184 u185 u186 u187 u188 u189 u190 u191 u192 u193 u194 u195 u196 u197 u198 u199 u200 u201 u202 u203 u204 u205 u206 u207 u208 u209 u210 u211 u212 u213 u214 u215 u216 u217 u218 u219 u220 u221 u222 u223 u224 u225 u226 u227 u228 u229 u230 u231 u232 u233 u234 u235 u236 u237 u238 u239 u240 u241 u242 u243 u244 u245 u246 u247 u248 u249 u250 u251 u252 u253 u254 u255 u256 u257 u258 u259 u260 u261 u262 u263 u264 u265 u266 u267 u268 u269 u270 u271 u272 u273 u274 u275 u276 u277 u278 u279 u280 u281 u282 u283 u284 u285 u286 u287 u288 u289 u290 u291 u292 u293 u294 u295 u296 u297 u298 u299 u300 u301 u302 u303 u304 u305 u306 u307 u308 u309 u310 u311 u312 u313 u314 u315 u316 u317 u318 u319 u320 u321 u322 u323 u324 u325 u326 u327 u328 u329 u330 u331 u332 u333 u334 u335 u336 u337 u338 u339 u340 u341 u342 u343 u344 u345 u346 u347 u348 u349 u350 u351 u352 u353 u354 u355 u356 u357 : Value)
    (hK : ∀ F w', (BtF H G S N rt (.int .i16 (m + 1 : Nat)) v9 v11 F ∧ BtW w H G f (updN ct (1 + m) (ct (n1 + 1) + ct (n2 + 1))) (updN (updN pa (n1 + 1) m) (n2 + 1) m) sy bt w') → Q .normal F w') :
    Code.wp Tryf.prog btT6 Q ⟨#[.pointer (some ⟨H, 0, none⟩), u1, u2, u3, .int .i16 (S : Nat), .int .u16 (N : Nat), .int .i16 (m : Nat), .slice (some ⟨G, 1, none⟩) 512 512, .slice (some ⟨G, 0, none⟩) 513 513, v9, .int .i16 (rt : Nat), v11, u12, .int .i16 (n1 : Nat), .int .i16 (n2 : Nat), u15, u16, u17, u18, u19, u20, u21, u22, u23, u24, u25, u26, u27, u28, u29, u30, u31, u32, u33, u34, u35, u36, u37, u38, u39, u40, u41, u42, u43, u44, u45, u46, u47, u48, u49, u50, u51, u52, u53, u54, u55, u56, u57, u58, u59, u60, u61, u62, u63, u64, u65, u66, u67, u68, u69, u70, u71, u72, u73, u74, u75, u76, u77, u78, u79, u80, u81, u82, u83, u84, u85, u86, u87, u88, u89, u90, u91, u92, u93, u94, u95, u96, u97, u98, u99, u100, u101, u102, u103, u104, u105, u106, u107, u108, u109, u110, u111, u112, u113, u114, u115, u116, u117, u118, u119, u120, u121, u122, u123, u124, u125, u126, u127, u128, u129, u130, u131, u132, u133, u134, u135, u136, u137, u138, u139, u140, u141, u142, u143, u144, u145, u146, u147, u148, u149, u150, u151, u152, u153, u154, u155, u156, u157, u158, u159, u160, u161, u162, u163, u164, u165, u166, u167, u168, u169, u170, u171, u172, u173, u174, u175, u176, u177, u178, u179, u180, u181, u182, u183, u184, u185, u186, u187, u188, u189, u190, u191, u192, u193, u194, u195, u196, u197, u198, u199, u200, u201, u202, u203, u204, u205, u206, u207, u208, u209, u210, u211, u212, u213, u214, u215, u216, u217, u218, u219, u220, u221, u222, u223, u224, u225, u226, u227, u228, u229, u230, u231, u232, u233, u234, u235, u236, u237, u238, u239, u240, u241, u242, u243, u244, u245, u246, u247, u248, u249, u250, u251, u252, u253, u254, u255, u256, u257, u258, u259, u260, u261, u262, u263, u264, u265, u266, u267, u268, u269, u270, u271, u272, u273, u274, u275, u276, u277, u278, u279, u280, u281, u282, u283, u284, u285, u286, u287, u288, u289, u290, u291, u292, u293, u294, u295, u296, u297, u298, u299, u300, u301, u302, u303, u304, u305, u306, u307, u308, u309, u310, u311, u312, u313, u314, u315, u316, u317, u318, u319, u320, u321, u322, u323, u324, u325, u326, u327, u328, u329, u330, u331, u332, u333, u334, u335, u336, u337, u338, u339, u340, u341, u342, u343, u344, u345, u346, u347, u348, u349, u350, u351, u352, u353, u354, u355, u356, u357], []⟩ wr := by
  conv => arg 2; whnf
  have HHG := Lib.hid hHG
  have HW := Lib.hid hW
  have HK := Lib.hid hK
  have HN1 := Lib.hid hne1
  have HN2 := Lib.hid hne2
  obtain ⟨x1, hx1⟩ : ∃ x1, ct (n1 + 1) = x1 := ⟨_, rfl⟩
  obtain ⟨x2, hx2⟩ : ∃ x2, ct (n2 + 1) = x2 := ⟨_, rfl⟩
  have K1 := (hW.drewN 1).count (n1 + 1) (by omega)
  have K2 := (hW.drewN 1).count (n2 + 1) (by omega)
  have K3 := (hW.drewN 1).setCount hHG (1 + m) (x1 + x2) (by omega) (by omega)
  rw [hx1] at K1 hx
  rw [hx2] at K2 hx
  have HK1 := Lib.hid K1
  have HK2 := Lib.hid K2
  obtain ⟨x, hxx⟩ : ∃ x, x1 + x2 = x := ⟨_, rfl⟩
  rw [hxx] at K3
  have HK3 := Lib.hid K3
  have hxi : (x1 : Int) + (x2 : Int) = (x : Nat) := by omega
  have HX1 := Lib.hid hx1
  have HX2 := Lib.hid hx2
  have HXX := Lib.hid hxx
  have hmi : (m : Int) < 512 := by omega
  have hn1i : (n1 : Int) + 1 < 513 := by omega
  have hn2i : (n2 : Int) + 1 < 513 := by omega
  clear hHG hW hK hne1 hne2 K1 K2 K3 hx1 hx2 hxx
  go_upto_region 43 with fail
  refine wp_region_noPanic ?_
  refine wp_region_quiet_tail 14 (by kernel_rfl) (by kernel_rfl) ?_
  simp only [List.take_succ_cons, List.take_zero, List.drop_succ_cons, List.drop_zero]
  repeat (go_big_quiet_step (first | exact HK1.out _ | exact HK2.out _))
  refine wpQuiet_nil ?_
  go_wp2_with fail
  refine HK3.out.mono ?_
  rintro e w4 ⟨rfl, hW4⟩
  have K4 := hW4.setParent HHG.out (n1 + 1) m (by omega) (by omega)
  have HK4 := Lib.hid K4
  clear hW4 K4
  go_wp2_with fail
  refine NoPanic.normal ?_
  go_wp2_with fail
  refine HK4.out.mono ?_
  rintro e w5 ⟨rfl, hW5⟩
  have K5 := hW5.setParent HHG.out (n2 + 1) m (by omega) (by omega)
  have HK5 := Lib.hid K5
  clear hW5 K5
  go_wp2_with fail
  refine HK5.out.mono ?_
  rintro e w6 ⟨rfl, hW6⟩
  have HW6 := Lib.hid hW6
  clear hW6
  go_wp2_with fail
  refine HK.out _ _ ⟨⟨rfl, rfl, rfl, rfl, rfl, rfl, rfl, rfl, rfl, rfl, rfl⟩, ?_⟩
  rw [HX1.out, HX2.out, HXX.out]
  exact HW6.out
end Go.Proofs.YthkklojjpgjiiaaFmt
