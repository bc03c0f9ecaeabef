/-
  huff0's buildCTable: from the lengths on. Conditions: those of the theorem.
-/
import Derived.Test.YthkklojjpgjiiaaFmtCodeT24
import Derived.Test.YthkklojjpgjiiaaFmtCodeT29
namespace Go.Proofs.YthkklojjpgjiiaaFmt
open Go.RowKit

theorem NQ_NV (ct pa sy bt : Nat → Nat) (n : Nat) : ∀ k, k < 513 → ndV (NQ ct pa sy bt) k = ndV (NV (NQ ct pa sy bt) n (fun p => ct (p + 1)) (fun p => pa (p + 1)) (fun p => sy (p + 1)) (fun p => bt (p + 1))) k := fun k _ => by
  unfold ndV NV
  by_cases e : 1 ≤ k ∧ k ≤ n
  · obtain ⟨j, rfl⟩ : ∃ j, k = j + 1 := ⟨k - 1, by omega⟩
    rw [if_pos e]
    rfl
  · rw [if_neg e]
set_option maxRecDepth 100000 in
set_option maxHeartbeats 6400000 in
theorem bc_4 {w wr : World} {H G Ct N n S M L : Nat} {f : Nat → Value} {ct pa sy bt : Nat → Nat} {g0 : Nat → Int} (hHw : H < w.heap.size) (hGw : G < w.heap.size) (hHG : H ≠ G) (hCt : w.heap.size ≤ Ct) (hn : n ≤ 256) (hN : n = N + 1) (hS : S ≤ 256) (hM : 5 ≤ M) (hM2 : M ≤ 11) (hnM : n ≤ 2 ^ M) (h268 : f 268 = .int .u8 (M : Nat)) (h273 : f 273 = .slice (some ⟨G, 0, none⟩) 513 513) (h271 : f 271 = .slice (some ⟨Ct, 0, none⟩) S 256) (h265 : f 265 = .int .u16 (S : Nat))
    (hW : BtW w H G f ct pa sy bt wr) (hC : RowF wr Ct 78 512 (cV g0 fun _ => 0)) (hct : ∀ p, p < n → ct (p + 1) < 65536) (hsy : ∀ p, p < n → sy (p + 1) < S) (hF : Full n L fun p => bt (p + 1)) (hL : bt (n - 1 + 1) = L) (hL2 : L ≤ 48) (Q : Exit → Act → World → Prop)
    (u1 u2 u3 u4 u6 u8 u9 u10 u11 u12 u13 u14 u15 u16 u17 u18 u19 u20 u21 u22 u23 u24 u25 u26 u27 u28 u29 u30 u31 u32 u33 u34 u35 u36 u37 u38 u39 u40 u41 u42 u43 u44 u45 u46 u47 u48 u49 u50 u51 u52 u53 u54 u55 u56 u57 u58 u59 u60 u61 u62 u63 u64 u65 u66 u67 u68 u69 u70 u71 u72 u73 u74 u75 u76 u77 u78 u79 u80 u81 u82 u83 u84 u85 u86 u87 u88 u89 u90 u91 u92 u93 u94 u95 u96 u97 u98 u99 u100 u101 u102 u103 u104 u105 u106 u107 u108 u109 u110 u111 u112 u113 u114 u115 u116 u117 u118 u119 u120 u121 u122 u123 u124 u125 u126 u127 u128 u129 u130 u131 u132 u133 u134 u135 u136 u137 u138 u139 u140 u141 u142 u143 u144 u145 u146 u147 u148 u149 u150 u151 u152 u153 u154 u155 u156 u157 u158 u159 u160 u161 u162 u163 u164 u165 u166 u167 u168 u169 u170 u171 u172 u173 u174 u175 u176 u177 u178 u179 u180 u181 u182 u183 u184 u185 u186 u187 u188 u189 u190 u191 u192 u193 u194 u195 u196 u197 u198 u199 u200 u201 u202 u203 u204 u205 u206 u207 u208 u209 u210 u211 u212 u213 u214 u215 u216 u217 u218 u219 u220 u221 u222 u223 u224 u225 u226 u227 u228 u229 u230 u231 u232 u233 u234 u235 u236 u237 u238 u239 u240 u241 u242 u243 u244 u245 u246 u247 u248 u249 u250 u251 u252 u253 u254 u255 u256 u257 u258 u259 u260 u261 u262 u263 u264 u265 u266 u267 u268 u269 u270 u271 u272 u273 u274 u275 u276 u277 u278 u279 u280 u281 u282 u283 u284 u285 u286 u287 u288 u289 u290 u291 u292 u293 u294 u295 u296 u297 u298 u299 u300 u301 u302 u303 u304 u305 u306 u307 u308 u309 u310 u311 u312 u313 u314 u315 u316 u317 u318 u319 u320 u321 u322 u323 u324 u325 u326 u327 u328 u329 u330 u331 u332 u333 u334 u335 u336 u337 u338 u339 u340 u341 u342 u343 u344 u345 u346 u347 u348 u349 u350 u351 u352 u353 u354 u355 u356 u357 : Value)
    (hend : ∀ F w', BcR F ∧ (∃ (M' : Nat) (nb : Nat → Nat) (nvv : Nat → Value) (A B : Nat), NbI n n (fun p => sy (p + 1)) nb ∧ EnW w H G A B Ct (updV f 268 (.int .u8 (M' : Nat))) nvv nb w') → Q .ret F w') :
    Code.wp Tryf.prog bcC4 Q ⟨#[.pointer (some ⟨H, 0, none⟩), u1, u2, u3, u4, .int .u16 (N : Nat), u6, .slice (some ⟨G, 1, none⟩) 512 512, u8, u9, u10, u11, u12, u13, u14, u15, u16, u17, u18, u19, u20, u21, u22, u23, u24, u25, u26, u27, u28, u29, u30, u31, u32, u33, u34, u35, u36, u37, u38, u39, u40, u41, u42, u43, u44, u45, u46, u47, u48, u49, u50, u51, u52, u53, u54, u55, u56, u57, u58, u59, u60, u61, u62, u63, u64, u65, u66, u67, u68, u69, u70, u71, u72, u73, u74, u75, u76, u77, u78, u79, u80, u81, u82, u83, u84, u85, u86, u87, u88, u89, u90, u91, u92, u93, u94, u95, u96, u97, u98, u99, u100, u101, u102, u103, u104, u105, u106, u107, u108, u109, u110, u111, u112, u113, u114, u115, u116, u117, u118, u119, u120, u121, u122, u123, u124, u125, u126, u127, u128, u129, u130, u131, u132, u133, u134, u135, u136, u137, u138, u139, u140, u141, u142, u143, u144, u145, u146, u147, u148, u149, u150, u151, u152, u153, u154, u155, u156, u157, u158, u159, u160, u161, u162, u163, u164, u165, u166, u167, u168, u169, u170, u171, u172, u173, u174, u175, u176, u177, u178, u179, u180, u181, u182, u183, u184, u185, u186, u187, u188, u189, u190, u191, u192, u193, u194, u195, u196, u197, u198, u199, u200, u201, u202, u203, u204, u205, u206, u207, u208, u209, u210, u211, u212, u213, u214, u215, u216, u217, u218, u219, u220, u221, u222, u223, u224, u225, u226, u227, u228, u229, u230, u231, u232, u233, u234, u235, u236, u237, u238, u239, u240, u241, u242, u243, u244, u245, u246, u247, u248, u249, u250, u251, u252, u253, u254, u255, u256, u257, u258, u259, u260, u261, u262, u263, u264, u265, u266, u267, u268, u269, u270, u271, u272, u273, u274, u275, u276, u277, u278, u279, u280, u281, u282, u283, u284, u285, u286, u287, u288, u289, u290, u291, u292, u293, u294, u295, u296, u297, u298, u299, u300, u301, u302, u303, u304, u305, u306, u307, u308, u309, u310, u311, u312, u313, u314, u315, u316, u317, u318, u319, u320, u321, u322, u323, u324, u325, u326, u327, u328, u329, u330, u331, u332, u333, u334, u335, u336, u337, u338, u339, u340, u341, u342, u343, u344, u345, u346, u347, u348, u349, u350, u351, u352, u353, u354, u355, u356, u357], []⟩ wr := by
  conv => arg 2; whnf
  have hB : NdB n (fun p => ct (p + 1)) (fun p => pa (p + 1)) (fun p => sy (p + 1)) := fun p hp => ⟨hct p hp, (hW.nb (p + 1)).2.1, (hW.nb (p + 1)).2.2.1⟩
  have K34 := Lib.hid (setMaxHeight_any hB hn hN hM hM2 hnM hHG hW.h h268 h273 (hW.g.congr (NQ_NV ct pa sy bt n)) hF hL hL2)
  have HB := Lib.hid hB
  have HHG := Lib.hid hHG
  have HN := Lib.hid hN
  have H265 := Lib.hid h265
  have H271 := Lib.hid h271
  have HW := Lib.hid hW
  have HC := Lib.hid hC
  have HSY := Lib.hid hsy
  have HE := Lib.hid hend
  have HHW := Lib.hid hHw
  have HGW := Lib.hid hGw
  have HCT := Lib.hid hCt
  have hN6 : (N : Int) < 65536 := by omega
  clear hB hHG hN h265 h271 h268 h273 hW hC hsy hend hHw hGw hCt hct hF hL hL2 hnM
  go_wp2_with fail
  refine K34.out.mono ?_
  rintro e w1 ⟨M', l', rfl, hM', hl', hh1, hg1, ho1⟩
  have hC1 := ho1.row HC.out (fun h => by
    have h1 := HC.out.lt
    rcases h with h | h
    · have := HCT.out
      have := HGW.out
      omega
    · omega)
  have hO1 : Only (fun k => k = H ∨ k = G ∨ w.heap.size ≤ k) w w1 := HW.out.only.trans (ho1.mono fun k hk => by
    have := HW.out.only.size
    rcases hk with hk | hk
    · exact .inr (.inl hk)
    · exact .inr (.inr (by omega)))
  have k268 := hh1.cell 268 (by omega)
  have z268 := hh1.frozen 268
  have hh2 := hh1.set_ 268 (.int .u8 (M' : Nat))
  have hg2 := hg1.other (p := ⟨H, 268, none⟩) (.int .u8 (M' : Nat)) HHG.out
  have hC2 := hC1.other (p := ⟨H, 268, none⟩) (.int .u8 (M' : Nat)) (show H ≠ Ct by have := HCT.out; have := HHW.out; omega)
  have hO2 := hO1.set_ (p := ⟨H, 268, none⟩) (.inl rfl) (.int .u8 (M' : Nat))
  have HL' := Lib.hid hl'
  have HH2 := Lib.hid hh2
  have HG2 := Lib.hid hg2
  have HC2 := Lib.hid hC2
  have HO2 := Lib.hid hO2
  have HM' := Lib.hid hM'
  clear hl' hh1 hg1 ho1 hC1 hO1 hh2 hg2 hC2 hO2 K34
  go_upto_region 57 with fail
  generalize World.setCell _ _ _ = w2 at HH2 HG2 HC2 HO2 ⊢
  have k268' : w2.cell? ⟨H, 268, none⟩ = some (.int .u8 (M' : Nat)) := HH2.out.cellv 268 (by omega) _ (updV_same _ _ _)
  have hMi : ¬ (11 : Int) < (M' : Int) := by omega
  have hdM : decide ((11 : Int) < (M' : Int)) = false := decide_eq_false hMi
  clear k268 z268 hM'
  go_upto_region 61 with fail
  rename_i K1 a1
  have HA := Lib.hid a1
  clear a1
  generalize hw3 : World.alloc _ _ = w3
  have hA3 := RowF.newRep _ _ _ _ hw3 (show _ = Array.replicate 12 (.int .u16 0) from rfl)
  obtain ⟨A, hA⟩ : ∃ A, w2.heap.size = A := ⟨_, rfl⟩
  rw [hA] at hA3 ⊢
  have hs3 : w3.heap.size = A + 1 := by rw [← hw3, ← hA]; simp
  have hh3 : RowF w3 H 58 540 (updV f 268 (.int .u8 (M' : Nat))) := by rw [← hw3]; exact HH2.out.alloc _
  have hg3 : RowF w3 G 110 513 (ndV (NV (NQ ct pa sy bt) n (fun p => ct (p + 1)) (fun p => pa (p + 1)) (fun p => sy (p + 1)) l')) := by rw [← hw3]; exact HG2.out.alloc _
  have hc3 : RowF w3 Ct 78 512 (cV g0 fun _ => 0) := by rw [← hw3]; exact HC2.out.alloc _
  have ho3 : Only (fun k => k = H ∨ k = G ∨ w.heap.size ≤ k) w w3 := by rw [← hw3]; exact HO2.out.alloc _
  have hCA : Ct < A := by rw [← hA]; exact HC2.out.lt
  have hwA : w.heap.size ≤ A := by rw [← hA]; exact HO2.out.size
  have HA3 := Lib.hid hA3
  have HS3 := Lib.hid hs3
  have HH3 := Lib.hid hh3
  have HG3 := Lib.hid hg3
  have HC3 := Lib.hid hc3
  have HO3 := Lib.hid ho3
  have HCA := Lib.hid hCA
  have HWA := Lib.hid hwA
  clear hA3 hs3 hh3 hg3 hc3 ho3 hw3 hA hCA hwA HH2 HG2 HC2 HO2 k268'
  go_wp2_with fail
  generalize hw4 : World.alloc _ _ = w4
  have hB4 := RowF.newRep _ _ _ _ hw4 (show _ = Array.replicate 16 (.int .u16 0) from rfl)
  have hs3 := HS3.out
  rw [hs3] at hB4 ⊢
  have hD : EnD w H G A (A + 1) Ct := ⟨HHW.out, HGW.out, HHG.out, HWA.out, by have := HWA.out; omega, HCT.out, by omega, by have := HCA.out; omega, by have := HCA.out; omega⟩
  have hW4 : EnW w H G A (A + 1) Ct (updV f 268 (.int .u8 (M' : Nat))) (ndV (NV (NQ ct pa sy bt) n (fun p => ct (p + 1)) (fun p => pa (p + 1)) (fun p => sy (p + 1)) l')) (fun _ => 0) w4 := by
    rw [← hw4] at hB4 ⊢
    exact ⟨HH3.out.alloc _, HG3.out.alloc _, ⟨fun _ => 0, HA3.out.alloc _⟩, ⟨fun _ => 0, hB4⟩, ⟨_, HC3.out.alloc _⟩, HO3.out.alloc _⟩
  refine HA.out _ _ (bc_5 hD HB.out hn HN.out HM'.out hS HSY.out (fun i hi => ⟨(HL'.out i hi).1, by have := (HL'.out i hi).2; have := HM'.out; omega⟩) (by rw [updV_ne _ _ _ _ (by omega)]; exact H271.out) (by rw [updV_ne _ _ _ _ (by omega)]; exact H265.out) hW4 _ _ _ _ _ _ _ _ _ _ _ _ _ _ _ _ _ _ _ _ _ _ _ _ _ _ _ _ _ _ _ _ _ _ _ _ _ _ _ _ _ _ _ _ _ _ _ _ _ _ _ _ _ _ _ _ _ _ _ _ _ _ _ _ _ _ _ _ _ _ _ _ _ _ _ _ _ _ _ _ _ _ _ _ _ _ _ _ _ _ _ _ _ _ _ _ _ _ _ _ _ _ _ _ _ _ _ _ _ _ _ _ _ _ _ _ _ _ _ _ _ _ _ _ _ _ _ _ _ _ _ _ _ _ _ _ _ _ _ _ _ _ _ _ _ _ _ _ _ _ _ _ _ _ _ _ _ _ _ _ _ _ _ _ _ _ _ _ _ _ _ _ _ _ _ _ _ _ _ _ _ _ _ _ _ _ _ _ _ _ _ _ _ _ _ _ _ _ _ _ _ _ _ _ _ _ _ _ _ _ _ _ _ _ _ _ _ _ _ _ _ _ _ _ _ _ _ _ _ _ _ _ _ _ _ _ _ _ _ _ _ _ _ _ _ _ _ _ _ _ _ _ _ _ _ _ _ _ _ _ _ _ _ _ _ _ _ _ _ _ _ _ _ _ _ _ _ _ _ _ _ _ _ _ _ _ _ _ _ _ _ _ _ _ _ _ _ _ _ _ _ _ _ _ _ _ _ _ _ _ _ _ _ _ _ _ _ _ _ _ _ _ _ _ _ _ _ _ _ _ _ _ _ _ _ _ _ _ _ _ _ _ _ _ _ _ _ _ _ _ _ _ _ ?_)
  rintro F w5 ⟨hF, nb, hI, hW5⟩
  exact HE.out _ _ ⟨hF, M', nb, _, A, A + 1, hI, hW5⟩
end Go.Proofs.YthkklojjpgjiiaaFmt
