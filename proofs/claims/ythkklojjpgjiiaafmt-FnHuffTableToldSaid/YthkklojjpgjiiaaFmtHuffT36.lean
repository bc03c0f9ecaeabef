/-
  fse.decompress: the last two symbols do not fit. Conditions: those of each.
-/
import Derived.Test.YthkklojjpgjiiaaFmtHuffT35
import Derived.Test.YthkklojjpgjiiaaFmtHuffT34
namespace Go.Proofs.YthkklojjpgjiiaaFmt
open Go.RowKit Go.Extern.Stop Go.Stop Go.Extern

set_option maxRecDepth 100000 in
set_option maxHeartbeats 6400000 in
theorem dl_r41g {w0 wr : World} {D U T S G1 G2 H oH NH : Nat} {TH : TypeId} {fh0 : Nat → Value} {A : Option Addr} {n c off rd a1 a2 : Nat} {l : List UInt8} {f0 : Nat → Value} {sy bt bs : Nat → Nat} {out : List Int} {v v8 : Value} (E : DcE D U T S G1 G2 H sy bt bs) (h : Fin w0 D U T S G1 G2 H oH NH TH fh0 A n c l f0 sy bt bs off rd a1 a2 out v wr) (hl : 256 < out.length + 2)
    (u1 u2 u4 u9 u10 u11 u12 u13 u14 u15 u16 u17 u18 u19 u20 u21 u22 u23 u24 u25 u26 u27 u28 u29 u30 u31 u32 u33 u34 u35 u36 u37 u38 u39 u40 u41 u42 u43 u44 u45 u46 u47 u48 u49 u50 u51 u52 u53 u54 u55 u56 u57 u58 u59 u60 u61 u62 u63 u64 u65 u66 u67 u68 u69 u70 u71 u72 u73 u74 u75 u76 u77 u78 u79 u80 u81 u82 u83 u84 u85 u86 u87 u88 u89 u90 u91 u92 u93 u94 u95 u96 u97 u98 u99 u100 u101 u102 u103 u104 u105 u106 u107 u108 u109 u110 u111 u112 u113 u114 u115 u116 u117 u118 u119 u120 u121 u122 u123 u124 u125 u126 u127 u128 u129 u130 u131 u132 u133 u134 u135 u136 u137 u138 u139 u140 u141 u142 u143 u144 u145 u146 u147 u148 u149 u150 u151 u152 u153 u154 u155 u156 u157 u158 u159 u160 u161 u162 u163 u164 u165 u166 u167 u168 u169 u170 u171 u172 u173 u174 u175 u176 u177 u178 u179 u180 u181 u182 u183 u184 u185 u186 u187 u188 u189 u190 u191 u192 u193 u194 u195 u196 u197 u198 u199 u200 u201 u202 u203 u204 u205 u206 u207 u208 u209 u210 u211 u212 u213 u214 u215 u216 u217 u218 u219 u220 u221 u222 u223 u224 u225 u226 u227 u228 u229 u230 u231 u232 u233 u234 u235 u236 u237 u238 u239 u240 u241 u242 u243 u244 u245 u246 u247 u248 u249 u250 u251 u252 u253 u254 u255 u256 u257 u258 u259 u260 u261 u262 u263 u264 : Value) (Q : Exit → Act → World → Prop)
    (hK : ∀ F' w' g cap, DlF D U G1 G2 v8 F' → BrIn w' D 98 534 514 A n c l (updV f0 526 (.slice (some ⟨g, 0, none⟩) (out.length + 2) cap)) off rd w' → HKeep H oH NH TH fh0 w' → Only (fun k => k = D ∨ k = U ∨ k = H) w0 w' → Q .normal F' w') :
    Code.wp Tryf.prog dlR41 Q ⟨#[.pointer (some ⟨D, 0, none⟩), u1, u2, .pointer (some ⟨D, 514, none⟩), u4, .pointer (some ⟨G1, 0, none⟩), .pointer (some ⟨G2, 0, none⟩), .slice (some ⟨U, 0, none⟩) 256 256, v8, u9, u10, u11, u12, u13, u14, u15, u16, u17, u18, u19, u20, u21, u22, u23, u24, u25, u26, u27, u28, u29, u30, u31, u32, u33, u34, u35, u36, u37, u38, u39, u40, u41, u42, u43, u44, u45, u46, u47, u48, u49, u50, u51, u52, u53, u54, u55, u56, u57, u58, u59, u60, u61, u62, u63, u64, u65, u66, u67, u68, u69, u70, u71, u72, u73, u74, u75, u76, u77, u78, u79, u80, u81, u82, u83, u84, u85, u86, u87, u88, u89, u90, u91, u92, u93, u94, u95, u96, u97, u98, u99, u100, u101, u102, u103, u104, u105, u106, u107, u108, u109, u110, u111, u112, u113, u114, u115, u116, u117, u118, u119, u120, u121, u122, u123, u124, u125, u126, u127, u128, u129, u130, u131, u132, u133, u134, u135, u136, u137, u138, u139, u140, u141, u142, u143, u144, u145, u146, u147, u148, u149, u150, u151, u152, u153, u154, u155, u156, u157, u158, u159, u160, u161, u162, u163, u164, u165, u166, u167, u168, u169, u170, u171, u172, u173, u174, u175, u176, u177, u178, u179, u180, u181, u182, u183, u184, u185, u186, u187, u188, u189, u190, u191, u192, u193, u194, u195, u196, u197, u198, u199, u200, u201, u202, u203, u204, u205, u206, u207, u208, u209, u210, u211, u212, u213, u214, u215, u216, u217, u218, u219, u220, u221, u222, u223, u224, u225, u226, u227, u228, u229, u230, u231, u232, u233, u234, u235, u236, u237, u238, u239, u240, u241, u242, u243, u244, u245, u246, u247, u248, u249, u250, u251, u252, u253, u254, u255, u256, u257, u258, u259, u260, u261, u262, u263, u264], []⟩ wr := by
  conv => arg 2; whnf
  have hv : ∃ A' n' c', v = .slice A' n' c' := ⟨_, _, _, h.ho.1⟩
  obtain ⟨A', n', c', rfl⟩ := hv
  have k526 := h.c526
  have hlt := h.lt
  have HFIN := Lib.hid h
  have HK := Lib.hid hK
  clear h hK
  refine wp_region_noPanic ?_
  go_region_law
    (first
      | (go_simp; go_at_call 70; refine (HM.out.final1).mono ?_; rintro e wn ⟨rfl, hm⟩; have HN := Lib.hid hm; have c4b := hm.c526; have l4b := hm.lt; clear hm)
      | (go_simp; go_at_call 70; refine ((HFIN.out.drewN 1).final2).mono ?_; rintro e wm ⟨rfl, hm⟩; have HM := Lib.hid hm; have c4 := hm.c526; have l4 := hm.lt; clear hm)
      | (refine step_out_grow (by rfl) (.tmp 223) (.tmp 226) (by rfl) (by rfl) (HN.out.alloc E _).ho ⟨wn.heap.size, 0, none⟩ 2 2 [(sy a2 : Int), (sy a1 : Int)] (by rfl) (by rfl) (by omega) (fun k hk => by rcases (show k = 0 ∨ k = 1 by omega) with e | e <;> subst e <;> exact cell_of_row _ _ _ _ _ (0, 0) (heap_alloc_new _ _)) hl ?_; intro g6 cap6 w6 hon6; obtain ⟨c5, z5, hf, hon7, hkp⟩ := (HN.out.alloc E (.cells #[.int .u8 (sy a2 : Nat), .int .u8 (sy a1 : Nat)] 5)).appG (show H ≠ D by have := E.hHD; omega) (.slice (some ⟨g6, 0, none⟩) (out.length + 2) cap6) hon6; have HF6 := Lib.hid hf; have HKP := Lib.hid hkp; have HO7 := Lib.hid hon7; clear hon6 hf hon7 hkp))
  all_goals first
    | exact NoPanic.normal (HK.out _ _ _ _ ⟨rfl, rfl, rfl, rfl, rfl, rfl, rfl, rfl⟩ HF6.out HKP.out HO7.out)
    | fail
set_option maxRecDepth 100000 in
set_option maxHeartbeats 6400000 in
theorem dl_r41gd {w0 wr : World} {D U T S G1 G2 H oH NH : Nat} {TH : TypeId} {fh0 : Nat → Value} {A : Option Addr} {n c rd a1 a2 : Nat} {l : List UInt8} {f0 : Nat → Value} {sy bt bs : Nat → Nat} {out : List Int} {v v8 : Value} (E : DcE D U T S G1 G2 H sy bt bs) (h : FinD w0 D U T S G1 G2 H oH NH TH fh0 A n c l f0 sy bt bs rd a1 a2 out v wr) (hl : 256 < out.length + 2)
    (u1 u2 u4 u9 u10 u11 u12 u13 u14 u15 u16 u17 u18 u19 u20 u21 u22 u23 u24 u25 u26 u27 u28 u29 u30 u31 u32 u33 u34 u35 u36 u37 u38 u39 u40 u41 u42 u43 u44 u45 u46 u47 u48 u49 u50 u51 u52 u53 u54 u55 u56 u57 u58 u59 u60 u61 u62 u63 u64 u65 u66 u67 u68 u69 u70 u71 u72 u73 u74 u75 u76 u77 u78 u79 u80 u81 u82 u83 u84 u85 u86 u87 u88 u89 u90 u91 u92 u93 u94 u95 u96 u97 u98 u99 u100 u101 u102 u103 u104 u105 u106 u107 u108 u109 u110 u111 u112 u113 u114 u115 u116 u117 u118 u119 u120 u121 u122 u123 u124 u125 u126 u127 u128 u129 u130 u131 u132 u133 u134 u135 u136 u137 u138 u139 u140 u141 u142 u143 u144 u145 u146 u147 u148 u149 u150 u151 u152 u153 u154 u155 u156 u157 u158 u159 u160 u161 u162 u163 u164 u165 u166 u167 u168 u169 u170 u171 u172 u173 u174 u175 u176 u177 u178 u179 u180 u181 u182 u183 u184 u185 u186 u187 u188 u189 u190 u191 u192 u193 u194 u195 u196 u197 u198 u199 u200 u201 u202 u203 u204 u205 u206 u207 u208 u209 u210 u211 u212 u213 u214 u215 u216 u217 u218 u219 u220 u221 u222 u223 u224 u225 u226 u227 u228 u229 u230 u231 u232 u233 u234 u235 u236 u237 u238 u239 u240 u241 u242 u243 u244 u245 u246 u247 u248 u249 u250 u251 u252 u253 u254 u255 u256 u257 u258 u259 u260 u261 u262 u263 u264 : Value) (Q : Exit → Act → World → Prop)
    (hK : ∀ F' w' g cap, DlF D U G1 G2 v8 F' → BrDead w' D 98 534 514 A n c (updV f0 526 (.slice (some ⟨g, 0, none⟩) (out.length + 2) cap)) rd w' → HKeep H oH NH TH fh0 w' → Only (fun k => k = D ∨ k = U ∨ k = H) w0 w' → Q .normal F' w') :
    Code.wp Tryf.prog dlR41 Q ⟨#[.pointer (some ⟨D, 0, none⟩), u1, u2, .pointer (some ⟨D, 514, none⟩), u4, .pointer (some ⟨G1, 0, none⟩), .pointer (some ⟨G2, 0, none⟩), .slice (some ⟨U, 0, none⟩) 256 256, v8, u9, u10, u11, u12, u13, u14, u15, u16, u17, u18, u19, u20, u21, u22, u23, u24, u25, u26, u27, u28, u29, u30, u31, u32, u33, u34, u35, u36, u37, u38, u39, u40, u41, u42, u43, u44, u45, u46, u47, u48, u49, u50, u51, u52, u53, u54, u55, u56, u57, u58, u59, u60, u61, u62, u63, u64, u65, u66, u67, u68, u69, u70, u71, u72, u73, u74, u75, u76, u77, u78, u79, u80, u81, u82, u83, u84, u85, u86, u87, u88, u89, u90, u91, u92, u93, u94, u95, u96, u97, u98, u99, u100, u101, u102, u103, u104, u105, u106, u107, u108, u109, u110, u111, u112, u113, u114, u115, u116, u117, u118, u119, u120, u121, u122, u123, u124, u125, u126, u127, u128, u129, u130, u131, u132, u133, u134, u135, u136, u137, u138, u139, u140, u141, u142, u143, u144, u145, u146, u147, u148, u149, u150, u151, u152, u153, u154, u155, u156, u157, u158, u159, u160, u161, u162, u163, u164, u165, u166, u167, u168, u169, u170, u171, u172, u173, u174, u175, u176, u177, u178, u179, u180, u181, u182, u183, u184, u185, u186, u187, u188, u189, u190, u191, u192, u193, u194, u195, u196, u197, u198, u199, u200, u201, u202, u203, u204, u205, u206, u207, u208, u209, u210, u211, u212, u213, u214, u215, u216, u217, u218, u219, u220, u221, u222, u223, u224, u225, u226, u227, u228, u229, u230, u231, u232, u233, u234, u235, u236, u237, u238, u239, u240, u241, u242, u243, u244, u245, u246, u247, u248, u249, u250, u251, u252, u253, u254, u255, u256, u257, u258, u259, u260, u261, u262, u263, u264], []⟩ wr := by
  conv => arg 2; whnf
  have hv : ∃ A' n' c', v = .slice A' n' c' := ⟨_, _, _, h.ho.1⟩
  obtain ⟨A', n', c', rfl⟩ := hv
  have k526 := h.c526
  have hlt := h.lt
  have HFIN := Lib.hid h
  have HK := Lib.hid hK
  clear h hK
  refine wp_region_noPanic ?_
  go_region_law
    (first
      | (go_simp; go_at_call 70; refine (HM.out.final1).mono ?_; rintro e wn ⟨rfl, hm⟩; have HN := Lib.hid hm; have c4b := hm.c526; have l4b := hm.lt; clear hm)
      | (go_simp; go_at_call 70; refine ((HFIN.out.drewN 1).final2).mono ?_; rintro e wm ⟨rfl, hm⟩; have HM := Lib.hid hm; have c4 := hm.c526; have l4 := hm.lt; clear hm)
      | (refine step_out_grow (by rfl) (.tmp 223) (.tmp 226) (by rfl) (by rfl) (HN.out.alloc E _).ho ⟨wn.heap.size, 0, none⟩ 2 2 [(sy a2 : Int), (sy a1 : Int)] (by rfl) (by rfl) (by omega) (fun k hk => by rcases (show k = 0 ∨ k = 1 by omega) with e | e <;> subst e <;> exact cell_of_row _ _ _ _ _ (0, 0) (heap_alloc_new _ _)) hl ?_; intro g6 cap6 w6 hon6; obtain ⟨c5, z5, hf, hon7, hkp⟩ := (HN.out.alloc E (.cells #[.int .u8 (sy a2 : Nat), .int .u8 (sy a1 : Nat)] 5)).appG (show H ≠ D by have := E.hHD; omega) (.slice (some ⟨g6, 0, none⟩) (out.length + 2) cap6) hon6; have HF6 := Lib.hid hf; have HKP := Lib.hid hkp; have HO7 := Lib.hid hon7; clear hon6 hf hon7 hkp))
  all_goals first
    | exact NoPanic.normal (HK.out _ _ _ _ ⟨rfl, rfl, rfl, rfl, rfl, rfl, rfl, rfl⟩ HF6.out HKP.out HO7.out)
    | fail
end Go.Proofs.YthkklojjpgjiiaaFmt
