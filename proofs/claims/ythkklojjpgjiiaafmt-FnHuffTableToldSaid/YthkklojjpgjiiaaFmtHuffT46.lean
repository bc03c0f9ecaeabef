/-
  fse.decompress: the symbols so far are put out. Conditions: those of each.
-/
import Derived.Test.YthkklojjpgjiiaaFmtHuffT45
namespace Go.Proofs.YthkklojjpgjiiaaFmt
open Go.RowKit Go.Extern.Stop Go.Stop Go.Extern

noncomputable def dlO : Code := cR (cR (cR (cR (cR (cR (cR (cR (cR ((Tryf.f46.body).getD .skip)))))))))
noncomputable def dlR35 : Code := cL dlO
set_option maxRecDepth 100000 in
set_option maxHeartbeats 6400000 in
theorem dl_r35 {wr : World} {D U G1 G2 H oH NH m : Nat} {TH : TypeId} {fh0 : Nat → Value} {out : List Int} {fD : Nat → Value} (hDH : H < D) (hrD : RowF wr D 98 534 fD) (h526 : fD 526 = .slice (some ⟨H, oH, none⟩) 0 256) (hl : out.length = m) (hm : m ≤ 255)
    (hO : OutA wr H oH NH TH fh0 (.slice (some ⟨H, oH, none⟩) 0 256) []) (hc : ∀ k, k < m → wr.cell? ((⟨U, 0, none⟩ : Addr).add k) = some (.int .u8 (out.getD k 0)))
    (u1 u2 u4 u9 u10 u11 u12 u13 u14 u15 u16 u17 u18 u19 u20 u21 u22 u23 u24 u25 u26 u27 u28 u29 u30 u31 u32 u33 u34 u35 u36 u37 u38 u39 u40 u41 u42 u43 u44 u45 u46 u47 u48 u49 u50 u51 u52 u53 u54 u55 u56 u57 u58 u59 u60 u61 u62 u63 u64 u65 u66 u67 u68 u69 u70 u71 u72 u73 u74 u75 u76 u77 u78 u79 u80 u81 u82 u83 u84 u85 u86 u87 u88 u89 u90 u91 u92 u93 u94 u95 u96 u97 u98 u99 u100 u101 u102 u103 u104 u105 u106 u107 u108 u109 u110 u111 u112 u113 u114 u115 u116 u117 u118 u119 u120 u121 u122 u123 u124 u125 u126 u127 u128 u129 u130 u131 u132 u133 u134 u135 u136 u137 u138 u139 u140 u141 u142 u143 u144 u145 u146 u147 u148 u149 u150 u151 u152 u153 u154 u155 u156 u157 u158 u159 u160 u161 u162 u163 u164 u165 u166 u167 u168 u169 u170 u171 u172 u173 u174 u175 u176 u177 u178 u179 u180 u181 u182 u183 u184 u185 u186 u187 u188 u189 u190 u191 u192 u193 u194 u195 u196 u197 u198 u199 u200 u201 u202 u203 u204 u205 u206 u207 u208 u209 u210 u211 u212 u213 u214 u215 u216 u217 u218 u219 u220 u221 u222 u223 u224 u225 u226 u227 u228 u229 u230 u231 u232 u233 u234 u235 u236 u237 u238 u239 u240 u241 u242 u243 u244 u245 u246 u247 u248 u249 u250 u251 u252 u253 u254 u255 u256 u257 u258 u259 u260 u261 u262 u263 u264 : Value) (Q : Exit → Act → World → Prop)
    (hK : ∀ F' w2, DlF D U G1 G2 (.int .u8 (m : Nat)) F' → OutA w2 H oH NH TH fh0 (.slice (some ⟨H, oH, none⟩) m 256) out → Only (· = H) wr w2 → Q .normal F' (w2.setCell ⟨D, 526, none⟩ (.slice (some ⟨H, oH, none⟩) m 256))) :
    Code.wp Tryf.prog dlR35 Q ⟨#[.pointer (some ⟨D, 0, none⟩), u1, u2, .pointer (some ⟨D, 514, none⟩), u4, .pointer (some ⟨G1, 0, none⟩), .pointer (some ⟨G2, 0, none⟩), .slice (some ⟨U, 0, none⟩) 256 256, .int .u8 (m : Nat), u9, u10, u11, u12, u13, u14, u15, u16, u17, u18, u19, u20, u21, u22, u23, u24, u25, u26, u27, u28, u29, u30, u31, u32, u33, u34, u35, u36, u37, u38, u39, u40, u41, u42, u43, u44, u45, u46, u47, u48, u49, u50, u51, u52, u53, u54, u55, u56, u57, u58, u59, u60, u61, u62, u63, u64, u65, u66, u67, u68, u69, u70, u71, u72, u73, u74, u75, u76, u77, u78, u79, u80, u81, u82, u83, u84, u85, u86, u87, u88, u89, u90, u91, u92, u93, u94, u95, u96, u97, u98, u99, u100, u101, u102, u103, u104, u105, u106, u107, u108, u109, u110, u111, u112, u113, u114, u115, u116, u117, u118, u119, u120, u121, u122, u123, u124, u125, u126, u127, u128, u129, u130, u131, u132, u133, u134, u135, u136, u137, u138, u139, u140, u141, u142, u143, u144, u145, u146, u147, u148, u149, u150, u151, u152, u153, u154, u155, u156, u157, u158, u159, u160, u161, u162, u163, u164, u165, u166, u167, u168, u169, u170, u171, u172, u173, u174, u175, u176, u177, u178, u179, u180, u181, u182, u183, u184, u185, u186, u187, u188, u189, u190, u191, u192, u193, u194, u195, u196, u197, u198, u199, u200, u201, u202, u203, u204, u205, u206, u207, u208, u209, u210, u211, u212, u213, u214, u215, u216, u217, u218, u219, u220, u221, u222, u223, u224, u225, u226, u227, u228, u229, u230, u231, u232, u233, u234, u235, u236, u237, u238, u239, u240, u241, u242, u243, u244, u245, u246, u247, u248, u249, u250, u251, u252, u253, u254, u255, u256, u257, u258, u259, u260, u261, u262, u263, u264], []⟩ wr := by
  conv => arg 2; whnf
  have k526 : wr.cell? ⟨D, 526, none⟩ = some (.slice (some ⟨H, oH, none⟩) 0 256) := hrD.cellv 526 (by omega) _ h526
  have HO : Hid (OutA (wr.drewN 1) H oH NH TH fh0 (.slice (some ⟨H, oH, none⟩) 0 256) []) := Lib.hid (hO.same rfl)
  have HC : Hid (∀ k, k < m → (wr.drewN 1).cell? ((⟨U, 0, none⟩ : Addr).add k) = some (.int .u8 (out.getD k 0))) := Lib.hid hc
  have HK := Lib.hid hK
  have HL := Lib.hid hl
  have HRD := Lib.hid (hrD.drewN 1)
  have hmi : ((m : Nat) : Int) ≤ 256 := by omega
  clear hO hc hK hl hrD h526
  refine wp_region_noPanic ?_
  refine wp_region_tail0 7 (by kernel_rfl) (by kernel_rfl) (.tmp 0) rfl rfl (fun _ _ _ _ h => h) ?_
  simp only [List.take_succ_cons, List.take_zero, List.drop_succ_cons, List.drop_zero]
  simp [Act.put, Act.eval]
  repeat (go_big_quiet_step (fail))
  refine wpQuiet_nil ?_
  refine wpList_out (by rfl) (.tmp 187) (.tmp 190) (by rfl) (by rfl) HO.out ⟨U, 0, none⟩ m 256 out (by rfl) HL.out (by omega) HC.out ?_ (fun h => absurd h (by simp; omega))
  intro _ w2 hO2 hon2
  have hr2 := hon2.row HRD.out (by omega)
  have c526 := hr2.cell 526 (by omega)
  have z526 := hr2.frozen 526
  have HO2 := Lib.hid hO2
  have HON2 := Lib.hid hon2
  clear hO2 hon2 hr2
  go_wp2_with fail
  have hof := HON2.out
  exact NoPanic.normal (HK.out _ _ ⟨rfl, rfl, rfl, rfl, rfl, rfl, rfl, rfl⟩ (by simpa using HO2.out) ⟨hof.os, hof.tape, hof.output, hof.size, hof.block, hof.rows⟩)
set_option maxRecDepth 100000 in
set_option maxHeartbeats 6400000 in
theorem dl_o (F : Interp) {w0 wr : World} (hF : F.answers w0.tape) {D U T S G1 G2 H oH NH : Nat} {TH : TypeId} {fh0 : Nat → Value} {A : Option Addr} {n c : Nat} {l : List UInt8} {f0 : Nat → Value} {sy bt bs : Nat → Nat} {R : WRes} (E : DcE D U T S G1 G2 H sy bt bs) (hn : n ≤ 1000000) (h527 : f0 527 = .int .i64 255) (hEof : EofB w0 H) {Z : Option Obj} {off rd a1 a2 m : Nat} {out : List Int} (hS : St1 w0 D U T S G1 G2 H Z A n c l f0 sy bt bs R off rd a1 a2 out wr) (hl : out.length = m) (hm : m ≤ 252) (hm2 : m % 2 = 0) (h526 : f0 526 = .slice (some ⟨H, oH, none⟩) 0 256) (hZ : ∀ w', w'.heap[H]? = Z → OutA w' H oH NH TH fh0 (.slice (some ⟨H, oH, none⟩) 0 256) [])
    (u1 u2 u4 u9 u10 u11 u12 u13 u14 u15 u16 u17 u18 u19 u20 u21 u22 u23 u24 u25 u26 u27 u28 u29 u30 u31 u32 u33 u34 u35 u36 u37 u38 u39 u40 u41 u42 u43 u44 u45 u46 u47 u48 u49 u50 u51 u52 u53 u54 u55 u56 u57 u58 u59 u60 u61 u62 u63 u64 u65 u66 u67 u68 u69 u70 u71 u72 u73 u74 u75 u76 u77 u78 u79 u80 u81 u82 u83 u84 u85 u86 u87 u88 u89 u90 u91 u92 u93 u94 u95 u96 u97 u98 u99 u100 u101 u102 u103 u104 u105 u106 u107 u108 u109 u110 u111 u112 u113 u114 u115 u116 u117 u118 u119 u120 u121 u122 u123 u124 u125 u126 u127 u128 u129 u130 u131 u132 u133 u134 u135 u136 u137 u138 u139 u140 u141 u142 u143 u144 u145 u146 u147 u148 u149 u150 u151 u152 u153 u154 u155 u156 u157 u158 u159 u160 u161 u162 u163 u164 u165 u166 u167 u168 u169 u170 u171 u172 u173 u174 u175 u176 u177 u178 u179 u180 u181 u182 u183 u184 u185 u186 u187 u188 u189 u190 u191 u192 u193 u194 u195 u196 u197 u198 u199 u200 u201 u202 u203 u204 u205 u206 u207 u208 u209 u210 u211 u212 u213 u214 u215 u216 u217 u218 u219 u220 u221 u222 u223 u224 u225 u226 u227 u228 u229 u230 u231 u232 u233 u234 u235 u236 u237 u238 u239 u240 u241 u242 u243 u244 u245 u246 u247 u248 u249 u250 u251 u252 u253 u254 u255 u256 u257 u258 u259 u260 u261 u262 u263 u264 : Value) (Q : Exit → Act → World → Prop) (hfin : ∀ F' w', DlFin w0 D U H oH NH TH fh0 R F' w' → Q .ret F' w') :
    Code.wp Tryf.prog dlO Q ⟨#[.pointer (some ⟨D, 0, none⟩), u1, u2, .pointer (some ⟨D, 514, none⟩), u4, .pointer (some ⟨G1, 0, none⟩), .pointer (some ⟨G2, 0, none⟩), .slice (some ⟨U, 0, none⟩) 256 256, .int .u8 (m : Nat), u9, u10, u11, u12, u13, u14, u15, u16, u17, u18, u19, u20, u21, u22, u23, u24, u25, u26, u27, u28, u29, u30, u31, u32, u33, u34, u35, u36, u37, u38, u39, u40, u41, u42, u43, u44, u45, u46, u47, u48, u49, u50, u51, u52, u53, u54, u55, u56, u57, u58, u59, u60, u61, u62, u63, u64, u65, u66, u67, u68, u69, u70, u71, u72, u73, u74, u75, u76, u77, u78, u79, u80, u81, u82, u83, u84, u85, u86, u87, u88, u89, u90, u91, u92, u93, u94, u95, u96, u97, u98, u99, u100, u101, u102, u103, u104, u105, u106, u107, u108, u109, u110, u111, u112, u113, u114, u115, u116, u117, u118, u119, u120, u121, u122, u123, u124, u125, u126, u127, u128, u129, u130, u131, u132, u133, u134, u135, u136, u137, u138, u139, u140, u141, u142, u143, u144, u145, u146, u147, u148, u149, u150, u151, u152, u153, u154, u155, u156, u157, u158, u159, u160, u161, u162, u163, u164, u165, u166, u167, u168, u169, u170, u171, u172, u173, u174, u175, u176, u177, u178, u179, u180, u181, u182, u183, u184, u185, u186, u187, u188, u189, u190, u191, u192, u193, u194, u195, u196, u197, u198, u199, u200, u201, u202, u203, u204, u205, u206, u207, u208, u209, u210, u211, u212, u213, u214, u215, u216, u217, u218, u219, u220, u221, u222, u223, u224, u225, u226, u227, u228, u229, u230, u231, u232, u233, u234, u235, u236, u237, u238, u239, u240, u241, u242, u243, u244, u245, u246, u247, u248, u249, u250, u251, u252, u253, u254, u255, u256, u257, u258, u259, u260, u261, u262, u263, u264], []⟩ wr := by
  conv => arg 2; whnf
  have hO := hZ wr hS.hm.2.2.2.2.2.2.2
  have hf := hS.start h526 hO
  have hc : ∀ k, k < m → wr.cell? ((⟨U, 0, none⟩ : Addr).add k) = some (.int .u8 (out.getD k 0)) := fun k hk => by
    obtain ⟨tmp, hu, hut⟩ := hS.hm.2.2.2.1
    rw [add_some, Nat.zero_add, hu.cell k (by omega), hut k (by omega) (by omega)]
  have hrow : ∃ fD, RowF wr D 98 534 fD ∧ fD 526 = .slice (some ⟨H, oH, none⟩) 0 256 := by
    obtain ⟨f, val, hr, hk, _⟩ := hS.hb
    exact ⟨f, hr, by rw [hk 526 (by omega) (by omega) (by omega)]; exact h526⟩
  have hsr := hS.hr
  clear hS h526 hZ
  obtain ⟨fD, hrD, h526⟩ := hrow
  have HFIN := Lib.hid hfin
  clear hfin
  go_upto_region 35 with fail
  rename_i K1 K1Q
  refine dl_r35 E.hHD hrD h526 hl (by omega) hO hc _ _ _ _ _ _ _ _ _ _ _ _ _ _ _ _ _ _ _ _ _ _ _ _ _ _ _ _ _ _ _ _ _ _ _ _ _ _ _ _ _ _ _ _ _ _ _ _ _ _ _ _ _ _ _ _ _ _ _ _ _ _ _ _ _ _ _ _ _ _ _ _ _ _ _ _ _ _ _ _ _ _ _ _ _ _ _ _ _ _ _ _ _ _ _ _ _ _ _ _ _ _ _ _ _ _ _ _ _ _ _ _ _ _ _ _ _ _ _ _ _ _ _ _ _ _ _ _ _ _ _ _ _ _ _ _ _ _ _ _ _ _ _ _ _ _ _ _ _ _ _ _ _ _ _ _ _ _ _ _ _ _ _ _ _ _ _ _ _ _ _ _ _ _ _ _ _ _ _ _ _ _ _ _ _ _ _ _ _ _ _ _ _ _ _ _ _ _ _ _ _ _ _ _ _ _ _ _ _ _ _ _ _ _ _ _ _ _ _ _ _ _ _ _ _ _ _ _ _ _ _ _ _ _ _ _ _ _ _ _ _ _ _ _ _ _ _ _ _ _ _ _ _ _ _ _ _ _ _ _ ?_
  intro F' w2 hF' hO2 hon2
  refine K1Q _ _ ?_
  rw [dl_frame hF']
  refine dl_end F hF E hn h527 hEof ⟨_, out, by omega, by omega, .inl ⟨off, rd, a1, a2, (hf.app E hO2 hon2).2.2, hsr⟩⟩ _ _ _ _ _ _ _ _ _ _ _ _ _ _ _ _ _ _ _ _ _ _ _ _ _ _ _ _ _ _ _ _ _ _ _ _ _ _ _ _ _ _ _ _ _ _ _ _ _ _ _ _ _ _ _ _ _ _ _ _ _ _ _ _ _ _ _ _ _ _ _ _ _ _ _ _ _ _ _ _ _ _ _ _ _ _ _ _ _ _ _ _ _ _ _ _ _ _ _ _ _ _ _ _ _ _ _ _ _ _ _ _ _ _ _ _ _ _ _ _ _ _ _ _ _ _ _ _ _ _ _ _ _ _ _ _ _ _ _ _ _ _ _ _ _ _ _ _ _ _ _ _ _ _ _ _ _ _ _ _ _ _ _ _ _ _ _ _ _ _ _ _ _ _ _ _ _ _ _ _ _ _ _ _ _ _ _ _ _ _ _ _ _ _ _ _ _ _ _ _ _ _ _ _ _ _ _ _ _ _ _ _ _ _ _ _ _ _ _ _ _ _ _ _ _ _ _ _ _ _ _ _ _ _ _ _ _ _ _ _ _ _ _ _ _ _ _ _ _ _ _ _ _ _ _ _ _ _ _ Q HFIN.out
set_option maxRecDepth 100000 in
set_option maxHeartbeats 6400000 in
theorem dl_od (F : Interp) {w0 wr : World} (hF : F.answers w0.tape) {D U T S G1 G2 H oH NH : Nat} {TH : TypeId} {fh0 : Nat → Value} {A : Option Addr} {n c : Nat} {l : List UInt8} {f0 : Nat → Value} {sy bt bs : Nat → Nat} {R : WRes} (E : DcE D U T S G1 G2 H sy bt bs) (hn : n ≤ 1000000) (h527 : f0 527 = .int .i64 255) (hEof : EofB w0 H) {rd a1 a2 : Nat} (hf : FinD w0 D U T S G1 G2 H oH NH TH fh0 A n c l f0 sy bt bs rd a1 a2 [] (.slice (some ⟨H, oH, none⟩) 0 256) wr) (hRo : R = .open_)
    (u1 u2 u4 u9 u10 u11 u12 u13 u14 u15 u16 u17 u18 u19 u20 u21 u22 u23 u24 u25 u26 u27 u28 u29 u30 u31 u32 u33 u34 u35 u36 u37 u38 u39 u40 u41 u42 u43 u44 u45 u46 u47 u48 u49 u50 u51 u52 u53 u54 u55 u56 u57 u58 u59 u60 u61 u62 u63 u64 u65 u66 u67 u68 u69 u70 u71 u72 u73 u74 u75 u76 u77 u78 u79 u80 u81 u82 u83 u84 u85 u86 u87 u88 u89 u90 u91 u92 u93 u94 u95 u96 u97 u98 u99 u100 u101 u102 u103 u104 u105 u106 u107 u108 u109 u110 u111 u112 u113 u114 u115 u116 u117 u118 u119 u120 u121 u122 u123 u124 u125 u126 u127 u128 u129 u130 u131 u132 u133 u134 u135 u136 u137 u138 u139 u140 u141 u142 u143 u144 u145 u146 u147 u148 u149 u150 u151 u152 u153 u154 u155 u156 u157 u158 u159 u160 u161 u162 u163 u164 u165 u166 u167 u168 u169 u170 u171 u172 u173 u174 u175 u176 u177 u178 u179 u180 u181 u182 u183 u184 u185 u186 u187 u188 u189 u190 u191 u192 u193 u194 u195 u196 u197 u198 u199 u200 u201 u202 u203 u204 u205 u206 u207 u208 u209 u210 u211 u212 u213 u214 u215 u216 u217 u218 u219 u220 u221 u222 u223 u224 u225 u226 u227 u228 u229 u230 u231 u232 u233 u234 u235 u236 u237 u238 u239 u240 u241 u242 u243 u244 u245 u246 u247 u248 u249 u250 u251 u252 u253 u254 u255 u256 u257 u258 u259 u260 u261 u262 u263 u264 : Value) (Q : Exit → Act → World → Prop) (hfin : ∀ F' w', DlFin w0 D U H oH NH TH fh0 R F' w' → Q .ret F' w') :
    Code.wp Tryf.prog dlO Q ⟨#[.pointer (some ⟨D, 0, none⟩), u1, u2, .pointer (some ⟨D, 514, none⟩), u4, .pointer (some ⟨G1, 0, none⟩), .pointer (some ⟨G2, 0, none⟩), .slice (some ⟨U, 0, none⟩) 256 256, .int .u8 ((0 : Nat) : Int), u9, u10, u11, u12, u13, u14, u15, u16, u17, u18, u19, u20, u21, u22, u23, u24, u25, u26, u27, u28, u29, u30, u31, u32, u33, u34, u35, u36, u37, u38, u39, u40, u41, u42, u43, u44, u45, u46, u47, u48, u49, u50, u51, u52, u53, u54, u55, u56, u57, u58, u59, u60, u61, u62, u63, u64, u65, u66, u67, u68, u69, u70, u71, u72, u73, u74, u75, u76, u77, u78, u79, u80, u81, u82, u83, u84, u85, u86, u87, u88, u89, u90, u91, u92, u93, u94, u95, u96, u97, u98, u99, u100, u101, u102, u103, u104, u105, u106, u107, u108, u109, u110, u111, u112, u113, u114, u115, u116, u117, u118, u119, u120, u121, u122, u123, u124, u125, u126, u127, u128, u129, u130, u131, u132, u133, u134, u135, u136, u137, u138, u139, u140, u141, u142, u143, u144, u145, u146, u147, u148, u149, u150, u151, u152, u153, u154, u155, u156, u157, u158, u159, u160, u161, u162, u163, u164, u165, u166, u167, u168, u169, u170, u171, u172, u173, u174, u175, u176, u177, u178, u179, u180, u181, u182, u183, u184, u185, u186, u187, u188, u189, u190, u191, u192, u193, u194, u195, u196, u197, u198, u199, u200, u201, u202, u203, u204, u205, u206, u207, u208, u209, u210, u211, u212, u213, u214, u215, u216, u217, u218, u219, u220, u221, u222, u223, u224, u225, u226, u227, u228, u229, u230, u231, u232, u233, u234, u235, u236, u237, u238, u239, u240, u241, u242, u243, u244, u245, u246, u247, u248, u249, u250, u251, u252, u253, u254, u255, u256, u257, u258, u259, u260, u261, u262, u263, u264], []⟩ wr := by
  conv => arg 2; whnf
  have hO := hf.ho
  have hrow : ∃ fD, RowF wr D 98 534 fD ∧ fD 526 = .slice (some ⟨H, oH, none⟩) 0 256 := by
    obtain ⟨f, val, hr, hk, _⟩ := hf.hb
    exact ⟨f, hr, by rw [hk 526 (by omega) (by omega) (by omega), updV_same]⟩
  obtain ⟨fD, hrD, h526⟩ := hrow
  have HFIN := Lib.hid hfin
  clear hfin
  go_upto_region 35 with fail
  rename_i K1 K1Q
  refine dl_r35 (m := 0) (out := []) E.hHD hrD h526 rfl (by omega) hO (fun k hk => absurd hk (Nat.not_lt_zero k)) _ _ _ _ _ _ _ _ _ _ _ _ _ _ _ _ _ _ _ _ _ _ _ _ _ _ _ _ _ _ _ _ _ _ _ _ _ _ _ _ _ _ _ _ _ _ _ _ _ _ _ _ _ _ _ _ _ _ _ _ _ _ _ _ _ _ _ _ _ _ _ _ _ _ _ _ _ _ _ _ _ _ _ _ _ _ _ _ _ _ _ _ _ _ _ _ _ _ _ _ _ _ _ _ _ _ _ _ _ _ _ _ _ _ _ _ _ _ _ _ _ _ _ _ _ _ _ _ _ _ _ _ _ _ _ _ _ _ _ _ _ _ _ _ _ _ _ _ _ _ _ _ _ _ _ _ _ _ _ _ _ _ _ _ _ _ _ _ _ _ _ _ _ _ _ _ _ _ _ _ _ _ _ _ _ _ _ _ _ _ _ _ _ _ _ _ _ _ _ _ _ _ _ _ _ _ _ _ _ _ _ _ _ _ _ _ _ _ _ _ _ _ _ _ _ _ _ _ _ _ _ _ _ _ _ _ _ _ _ _ _ _ _ _ _ _ _ _ _ _ _ _ _ _ _ _ _ _ _ _ ?_
  intro F' w2 hF' hO2 hon2
  refine K1Q _ _ ?_
  rw [dl_frame hF']
  refine dl_end F hF E hn h527 hEof ⟨_, [], rfl, by simp, .inr ⟨hRo, rd, a1, a2, (hf.app E hO2 hon2).2.2⟩⟩ _ _ _ _ _ _ _ _ _ _ _ _ _ _ _ _ _ _ _ _ _ _ _ _ _ _ _ _ _ _ _ _ _ _ _ _ _ _ _ _ _ _ _ _ _ _ _ _ _ _ _ _ _ _ _ _ _ _ _ _ _ _ _ _ _ _ _ _ _ _ _ _ _ _ _ _ _ _ _ _ _ _ _ _ _ _ _ _ _ _ _ _ _ _ _ _ _ _ _ _ _ _ _ _ _ _ _ _ _ _ _ _ _ _ _ _ _ _ _ _ _ _ _ _ _ _ _ _ _ _ _ _ _ _ _ _ _ _ _ _ _ _ _ _ _ _ _ _ _ _ _ _ _ _ _ _ _ _ _ _ _ _ _ _ _ _ _ _ _ _ _ _ _ _ _ _ _ _ _ _ _ _ _ _ _ _ _ _ _ _ _ _ _ _ _ _ _ _ _ _ _ _ _ _ _ _ _ _ _ _ _ _ _ _ _ _ _ _ _ _ _ _ _ _ _ _ _ _ _ _ _ _ _ _ _ _ _ _ _ _ _ _ _ _ _ _ _ _ _ _ _ _ _ _ _ _ _ _ _ Q HFIN.out
end Go.Proofs.YthkklojjpgjiiaaFmt
