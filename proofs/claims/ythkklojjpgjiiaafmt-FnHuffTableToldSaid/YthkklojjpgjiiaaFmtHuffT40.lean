/-
  fse.decompress: too many symbols. Conditions: those of the theorem.
-/
import Derived.Test.YthkklojjpgjiiaaFmtHuffT33
namespace Go.Proofs.YthkklojjpgjiiaaFmt
open Go.RowKit Go.Extern.Stop Go.Stop Go.Extern

theorem errK {F : Interp} {w0 : World} (hF : F.answers w0.tape) (y z : Nat) (wy : World) (ht : wy.tape = w0.tape) (g : Nat) (hg : g = wy.heap.size) : Calls Tryf.prog 23 #[.string ⟨#[111, 117, 116, 112, 117, 116, 32, 115, 105, 122, 101, 32, 40, 37, 100, 41, 32, 62, 32, 68, 101, 99, 111, 109, 112, 114, 101, 115, 115, 76, 105, 109, 105, 116, 32, 40, 37, 100, 41]⟩, .slice (some ⟨g, 0, none⟩) 2 2] (wy.alloc (.cells #[.iface 3 (.int .i64 (y : Nat)), .iface 3 (.int .i64 (z : Nat))] 20)) (ErrPost (wy.alloc (.cells #[.iface 3 (.int .i64 (y : Nat)), .iface 3 (.int .i64 (z : Nat))] 20))) :=
  errorf_K F g _ _ _ (by show F.answers wy.tape; rw [ht]; exact hF) (cell_new20 _ _ _ _ _ hg) (cell_new21 _ _ _ _ _ hg)
set_option maxRecDepth 100000 in
set_option maxHeartbeats 6400000 in
theorem dl_x1 (F : Interp) {w0 wr : World} (hF : F.answers w0.tape) {D U T S G1 G2 H oH NH : Nat} {TH : TypeId} {fh0 : Nat → Value} {Z : Option Obj} {A : Option Addr} {n c off rd a1 a2 : Nat} {l : List UInt8} {f0 : Nat → Value} {sy bt bs : Nat → Nat} {R : WRes} {out : List Int} (E : DcE D U T S G1 G2 H sy bt bs)
    (h526 : f0 526 = .slice (some ⟨H, oH, none⟩) 0 256) (h527 : f0 527 = .int .i64 255) (hZ : ∀ w', w'.heap[H]? = Z → OutA w' H oH NH TH fh0 (.slice (some ⟨H, oH, none⟩) 0 256) []) (hlen : out.length = 256)
    (hS : St1 w0 D U T S G1 G2 H Z A n c l f0 sy bt bs R off rd a1 a2 out wr)
    (u1 u2 u4 u9 u10 u11 u12 u13 u14 u15 u16 u17 u18 u19 u20 u21 u22 u23 u24 u25 u26 u27 u28 u29 u30 u31 u32 u33 u34 u35 u36 u37 u38 u39 u40 u41 u42 u43 u44 u45 u46 u47 u48 u49 u50 u51 u52 u53 u54 u55 u56 u57 u58 u59 u60 u61 u62 u63 u64 u65 u66 u67 u68 u69 u70 u71 u72 u73 u74 u75 u76 u77 u78 u79 u80 u81 u82 u83 u84 u85 u86 u87 u88 u89 u90 u91 u92 u93 u94 u95 u96 u97 u98 u99 u100 u101 u102 u103 u104 u105 u106 u107 u108 u109 u110 u111 u112 u113 u114 u115 u116 u117 u118 u119 u120 u121 u122 u123 u124 u125 u126 u127 u128 u129 u130 u131 u132 u133 u134 u135 u136 u137 u138 u139 u140 u141 u142 u143 u144 u145 u146 u147 u148 u149 u150 u151 u152 u153 u154 u155 u156 u157 u158 u159 u160 u161 u162 u163 u164 u165 u166 u167 u168 u169 u170 u171 u172 u173 u174 u175 u176 u177 u178 u179 u180 u181 u182 u183 u184 u185 u186 u187 u188 u189 u190 u191 u192 u193 u194 u195 u196 u197 u198 u199 u200 u201 u202 u203 u204 u205 u206 u207 u208 u209 u210 u211 u212 u213 u214 u215 u216 u217 u218 u219 u220 u221 u222 u223 u224 u225 u226 u227 u228 u229 u230 u231 u232 u233 u234 u235 u236 u237 u238 u239 u240 u241 u242 u243 u244 u245 u246 u247 u248 u249 u250 u251 u252 u253 u254 u255 u256 u257 u258 u259 u260 u261 u262 u263 u264 : Value) (Q : Exit → Act → World → Prop) (hret : ∀ F' w', DlErrK w0 D U H oH NH TH fh0 R F' w' → Q .ret F' w') :
    Code.wp Tryf.prog dlX1 Q ⟨#[.pointer (some ⟨D, 0, none⟩), u1, u2, .pointer (some ⟨D, 514, none⟩), u4, .pointer (some ⟨G1, 0, none⟩), .pointer (some ⟨G2, 0, none⟩), .slice (some ⟨U, 0, none⟩) 256 256, .int .u8 0, u9, u10, u11, u12, u13, u14, u15, u16, u17, u18, u19, u20, u21, u22, u23, u24, u25, u26, u27, u28, u29, u30, u31, u32, u33, u34, u35, u36, u37, u38, u39, u40, u41, u42, u43, u44, u45, u46, u47, u48, u49, u50, u51, u52, u53, u54, u55, u56, u57, u58, u59, u60, u61, u62, u63, u64, u65, u66, u67, u68, u69, u70, u71, u72, u73, u74, u75, u76, u77, u78, u79, u80, u81, u82, u83, u84, u85, u86, u87, u88, u89, u90, u91, u92, u93, u94, u95, u96, u97, u98, u99, u100, u101, u102, u103, u104, u105, u106, u107, u108, u109, u110, u111, u112, u113, u114, u115, u116, u117, u118, u119, u120, u121, u122, u123, u124, u125, u126, u127, u128, u129, u130, u131, u132, u133, u134, u135, u136, u137, u138, u139, u140, u141, u142, u143, u144, u145, u146, u147, u148, u149, u150, u151, u152, u153, u154, u155, u156, u157, u158, u159, u160, u161, u162, u163, u164, u165, u166, u167, u168, u169, u170, u171, u172, u173, u174, u175, u176, u177, u178, u179, u180, u181, u182, u183, u184, u185, u186, u187, u188, u189, u190, u191, u192, u193, u194, u195, u196, u197, u198, u199, u200, u201, u202, u203, u204, u205, u206, u207, u208, u209, u210, u211, u212, u213, u214, u215, u216, u217, u218, u219, u220, u221, u222, u223, u224, u225, u226, u227, u228, u229, u230, u231, u232, u233, u234, u235, u236, u237, u238, u239, u240, u241, u242, u243, u244, u245, u246, u247, u248, u249, u250, u251, u252, u253, u254, u255, u256, u257, u258, u259, u260, u261, u262, u263, u264], []⟩ wr := by
  conv => arg 2; whnf
  have hD := E.hDT; have hT := E.hTU; have hU := E.hU1; have hHD := E.hHD
  have hRf : R = .refused := by
    have hsr := hS.hr
    generalize leftB off rd = L at hsr
    cases hsr with
    | full h => rfl
    | next h => omega
    | over h => omega
    | end_ h => omega
    | long h => rfl
  have hO := hZ wr hS.hm.2.2.2.2.2.2.2
  have hon := hS.hm.2.2.2.2.2.2.1
  obtain ⟨f, val, hr, hk, hs, hb, _⟩ := hS.hb
  obtain ⟨tmp, hu, hut⟩ := hS.hm.2.2.2.1
  have e526 : f 526 = .slice (some ⟨H, oH, none⟩) 0 256 := by rw [hk 526 (by omega) (by omega) (by omega)]; exact h526
  have e527 : f 527 = .int .i64 255 := by rw [hk 527 (by omega) (by omega) (by omega)]; exact h527
  have k526 : wr.cell? ⟨D, 526, none⟩ = some (.slice (some ⟨H, oH, none⟩) 0 256) := hr.cellv 526 (by omega) _ e526
  have hcells : ∀ k, k < 256 → wr.cell? ((⟨U, 0, none⟩ : Addr).add k) = some (.int .u8 (out.getD k 0)) := fun k hk2 => by
    rw [add_some, Nat.zero_add, hu.cell k hk2, hut k (by omega) hk2]
  have HR := Lib.hid hr
  have HO := Lib.hid hO
  have HON := Lib.hid hon
  have HC := Lib.hid hcells
  have HLEN := Lib.hid hlen
  have E527 := Lib.hid e527
  have HRET := Lib.hid hret
  have HRF := Lib.hid hRf
  have HF := Lib.hid hF
  clear hS hr hk hs hb hu hut e526 e527 hO hon hcells hlen h526 h527 hZ hret hRf hF
  go_upto_region 21 with (at_builtin; refine wpList_out (by rfl) (.tmp 90) (.tmp 91) (by rfl) (by rfl) HO.out ⟨U, 0, none⟩ 256 256 out (by rfl) HLEN.out (by omega) HC.out ?cA (fun h => absurd h (by simp)); intro _ w2 hO2 hon2; have hr2 := hon2.row HR.out (by omega); have c526 := hr2.cell 526 (by omega); have z526 := hr2.frozen 526; have hr3 := hr2.set_ 526 (.slice (some ⟨H, oH, none⟩) 256 256); have hon3 : Only (fun k => k = D ∨ k = U ∨ k = H) w0 (w2.setCell ⟨D, 526, none⟩ (.slice (some ⟨H, oH, none⟩) 256 256)) := (HON.out.trans (hon2.mono fun _ e => .inr (.inr e))).set_ (.inl rfl) _; have hkp := hO2.keepH.only ((Only.refl (· = D) w2).set_ (p := ⟨D, 526, none⟩) rfl (.slice (some ⟨H, oH, none⟩) 256 256)) (by omega); have HKP := Lib.hid hkp; have HR3 := Lib.hid hr3; have HON3 := Lib.hid hon3; clear hO2 hon2 hr2 hr3 hon3 hkp)
  generalize hw3 : World.setCell w2 _ _ = w3
  have hr3 := HR3.out
  have hon3 := HON3.out
  have hkp := HKP.out
  rw [hw3] at hr3 hon3 hkp
  have HKP3 := Lib.hid hkp
  clear hkp HKP
  have k526 : w3.cell? ⟨D, 526, none⟩ = some (.slice (some ⟨H, oH, none⟩) 256 256) := hr3.cellv 526 (by omega) _ (updV_same _ _ _)
  have k527 : w3.cell? ⟨D, 527, none⟩ = some (.int .i64 255) := hr3.cellv 527 (by omega) _ (by rw [updV_ne _ _ _ _ (by omega)]; exact E527.out)
  have HR4 := Lib.hid hr3
  have HON4 := Lib.hid hon3
  clear hr3 hon3 hw3 HR3 HON3
  go_quiet (fail)
  generalize hw4 : World.drewN w3 _ = w4
  have hr4 := HR4.out.drewN nq
  have hon4 := HON4.out.drewN nq
  have hkp : HKeep H oH NH TH fh0 (w3.drewN nq) := HKP3.out
  rw [hw4] at hr4 hon4 hkp
  have HKP4 := Lib.hid hkp
  clear hkp HKP3
  have k526 : w4.cell? ⟨D, 526, none⟩ = some (.slice (some ⟨H, oH, none⟩) 256 256) := hr4.cellv 526 (by omega) _ (updV_same _ _ _)
  have k527 : w4.cell? ⟨D, 527, none⟩ = some (.int .i64 255) := hr4.cellv 527 (by omega) _ (by rw [updV_ne _ _ _ _ (by omega)]; exact E527.out)
  have HON5 := Lib.hid hon4
  have KJ := Lib.hid (errK HF.out 256 255 (w4.drewN 1) (hon4.tape) (w4.heap.size) rfl)
  clear hr4 hon4 hw4
  go_upto_region 22 with fail
  refine wp_region_quiet_tail 11 (by kernel_rfl) (by kernel_rfl) ?_
  simp only [List.take_succ_cons, List.take_zero, List.drop_succ_cons, List.drop_zero]
  repeat (go_big_quiet_step (fail))
  refine wpQuiet_nil ?_
  go_wp2_with fail
  refine KJ.out.mono ?_
  rintro e w5 he
  obtain ⟨⟨b, s, rfl, hc⟩, hon⟩ := errE_of he
  have HCC := Lib.hid hc
  have HON6 := Lib.hid hon
  clear he hc hon
  go_wp2_with fail
  exact HRET.out _ _ ⟨⟨rfl, rfl, b, s, rfl, HCC.out, .inl HRF.out, ((HON5.out.drewN 1).alloc _).trans (HON6.out.mono (fun _ h => h.elim))⟩, HKP4.out.only ((((Only.refl (fun _ => False) w4).drewN 1).alloc _).trans HON6.out) (fun e => e)⟩
set_option maxRecDepth 100000 in
set_option maxHeartbeats 6400000 in
theorem dl_x2 (F : Interp) {w0 wr : World} (hF : F.answers w0.tape) {D U T S G1 G2 H oH NH : Nat} {TH : TypeId} {fh0 : Nat → Value} {Z : Option Obj} {A : Option Addr} {n c off rd a1 a2 : Nat} {l : List UInt8} {f0 : Nat → Value} {sy bt bs : Nat → Nat} {R : WRes} {out : List Int} (E : DcE D U T S G1 G2 H sy bt bs)
    (h526 : f0 526 = .slice (some ⟨H, oH, none⟩) 0 256) (h527 : f0 527 = .int .i64 255) (hZ : ∀ w', w'.heap[H]? = Z → OutA w' H oH NH TH fh0 (.slice (some ⟨H, oH, none⟩) 0 256) []) (hlen : out.length = 256)
    (hS : St1 w0 D U T S G1 G2 H Z A n c l f0 sy bt bs R off rd a1 a2 out wr)
    (u1 u2 u4 u9 u10 u11 u12 u13 u14 u15 u16 u17 u18 u19 u20 u21 u22 u23 u24 u25 u26 u27 u28 u29 u30 u31 u32 u33 u34 u35 u36 u37 u38 u39 u40 u41 u42 u43 u44 u45 u46 u47 u48 u49 u50 u51 u52 u53 u54 u55 u56 u57 u58 u59 u60 u61 u62 u63 u64 u65 u66 u67 u68 u69 u70 u71 u72 u73 u74 u75 u76 u77 u78 u79 u80 u81 u82 u83 u84 u85 u86 u87 u88 u89 u90 u91 u92 u93 u94 u95 u96 u97 u98 u99 u100 u101 u102 u103 u104 u105 u106 u107 u108 u109 u110 u111 u112 u113 u114 u115 u116 u117 u118 u119 u120 u121 u122 u123 u124 u125 u126 u127 u128 u129 u130 u131 u132 u133 u134 u135 u136 u137 u138 u139 u140 u141 u142 u143 u144 u145 u146 u147 u148 u149 u150 u151 u152 u153 u154 u155 u156 u157 u158 u159 u160 u161 u162 u163 u164 u165 u166 u167 u168 u169 u170 u171 u172 u173 u174 u175 u176 u177 u178 u179 u180 u181 u182 u183 u184 u185 u186 u187 u188 u189 u190 u191 u192 u193 u194 u195 u196 u197 u198 u199 u200 u201 u202 u203 u204 u205 u206 u207 u208 u209 u210 u211 u212 u213 u214 u215 u216 u217 u218 u219 u220 u221 u222 u223 u224 u225 u226 u227 u228 u229 u230 u231 u232 u233 u234 u235 u236 u237 u238 u239 u240 u241 u242 u243 u244 u245 u246 u247 u248 u249 u250 u251 u252 u253 u254 u255 u256 u257 u258 u259 u260 u261 u262 u263 u264 : Value) (Q : Exit → Act → World → Prop) (hret : ∀ F' w', DlErrK w0 D U H oH NH TH fh0 R F' w' → Q .ret F' w') :
    Code.wp Tryf.prog dlX2 Q ⟨#[.pointer (some ⟨D, 0, none⟩), u1, u2, .pointer (some ⟨D, 514, none⟩), u4, .pointer (some ⟨G1, 0, none⟩), .pointer (some ⟨G2, 0, none⟩), .slice (some ⟨U, 0, none⟩) 256 256, .int .u8 0, u9, u10, u11, u12, u13, u14, u15, u16, u17, u18, u19, u20, u21, u22, u23, u24, u25, u26, u27, u28, u29, u30, u31, u32, u33, u34, u35, u36, u37, u38, u39, u40, u41, u42, u43, u44, u45, u46, u47, u48, u49, u50, u51, u52, u53, u54, u55, u56, u57, u58, u59, u60, u61, u62, u63, u64, u65, u66, u67, u68, u69, u70, u71, u72, u73, u74, u75, u76, u77, u78, u79, u80, u81, u82, u83, u84, u85, u86, u87, u88, u89, u90, u91, u92, u93, u94, u95, u96, u97, u98, u99, u100, u101, u102, u103, u104, u105, u106, u107, u108, u109, u110, u111, u112, u113, u114, u115, u116, u117, u118, u119, u120, u121, u122, u123, u124, u125, u126, u127, u128, u129, u130, u131, u132, u133, u134, u135, u136, u137, u138, u139, u140, u141, u142, u143, u144, u145, u146, u147, u148, u149, u150, u151, u152, u153, u154, u155, u156, u157, u158, u159, u160, u161, u162, u163, u164, u165, u166, u167, u168, u169, u170, u171, u172, u173, u174, u175, u176, u177, u178, u179, u180, u181, u182, u183, u184, u185, u186, u187, u188, u189, u190, u191, u192, u193, u194, u195, u196, u197, u198, u199, u200, u201, u202, u203, u204, u205, u206, u207, u208, u209, u210, u211, u212, u213, u214, u215, u216, u217, u218, u219, u220, u221, u222, u223, u224, u225, u226, u227, u228, u229, u230, u231, u232, u233, u234, u235, u236, u237, u238, u239, u240, u241, u242, u243, u244, u245, u246, u247, u248, u249, u250, u251, u252, u253, u254, u255, u256, u257, u258, u259, u260, u261, u262, u263, u264], []⟩ wr := by
  conv => arg 2; whnf
  have hD := E.hDT; have hT := E.hTU; have hU := E.hU1; have hHD := E.hHD
  have hRf : R = .refused := by
    have hsr := hS.hr
    generalize leftB off rd = L at hsr
    cases hsr with
    | full h => rfl
    | next h => omega
    | over h => omega
    | end_ h => omega
    | long h => rfl
  have hO := hZ wr hS.hm.2.2.2.2.2.2.2
  have hon := hS.hm.2.2.2.2.2.2.1
  obtain ⟨f, val, hr, hk, hs, hb, _⟩ := hS.hb
  obtain ⟨tmp, hu, hut⟩ := hS.hm.2.2.2.1
  have e526 : f 526 = .slice (some ⟨H, oH, none⟩) 0 256 := by rw [hk 526 (by omega) (by omega) (by omega)]; exact h526
  have e527 : f 527 = .int .i64 255 := by rw [hk 527 (by omega) (by omega) (by omega)]; exact h527
  have k526 : wr.cell? ⟨D, 526, none⟩ = some (.slice (some ⟨H, oH, none⟩) 0 256) := hr.cellv 526 (by omega) _ e526
  have hcells : ∀ k, k < 256 → wr.cell? ((⟨U, 0, none⟩ : Addr).add k) = some (.int .u8 (out.getD k 0)) := fun k hk2 => by
    rw [add_some, Nat.zero_add, hu.cell k hk2, hut k (by omega) hk2]
  have HR := Lib.hid hr
  have HO := Lib.hid hO
  have HON := Lib.hid hon
  have HC := Lib.hid hcells
  have HLEN := Lib.hid hlen
  have E527 := Lib.hid e527
  have HRET := Lib.hid hret
  have HRF := Lib.hid hRf
  have HF := Lib.hid hF
  clear hS hr hk hs hb hu hut e526 e527 hO hon hcells hlen h526 h527 hZ hret hRf hF
  go_upto_region 33 with (at_builtin; refine wpList_out (by rfl) (.tmp 155) (.tmp 156) (by rfl) (by rfl) HO.out ⟨U, 0, none⟩ 256 256 out (by rfl) HLEN.out (by omega) HC.out ?cA (fun h => absurd h (by simp)); intro _ w2 hO2 hon2; have hr2 := hon2.row HR.out (by omega); have c526 := hr2.cell 526 (by omega); have z526 := hr2.frozen 526; have hr3 := hr2.set_ 526 (.slice (some ⟨H, oH, none⟩) 256 256); have hon3 : Only (fun k => k = D ∨ k = U ∨ k = H) w0 (w2.setCell ⟨D, 526, none⟩ (.slice (some ⟨H, oH, none⟩) 256 256)) := (HON.out.trans (hon2.mono fun _ e => .inr (.inr e))).set_ (.inl rfl) _; have hkp := hO2.keepH.only ((Only.refl (· = D) w2).set_ (p := ⟨D, 526, none⟩) rfl (.slice (some ⟨H, oH, none⟩) 256 256)) (by omega); have HKP := Lib.hid hkp; have HR3 := Lib.hid hr3; have HON3 := Lib.hid hon3; clear hO2 hon2 hr2 hr3 hon3 hkp)
  generalize hw3 : World.setCell w2 _ _ = w3
  have hr3 := HR3.out
  have hon3 := HON3.out
  have hkp := HKP.out
  rw [hw3] at hr3 hon3 hkp
  have HKP3 := Lib.hid hkp
  clear hkp HKP
  have k526 : w3.cell? ⟨D, 526, none⟩ = some (.slice (some ⟨H, oH, none⟩) 256 256) := hr3.cellv 526 (by omega) _ (updV_same _ _ _)
  have k527 : w3.cell? ⟨D, 527, none⟩ = some (.int .i64 255) := hr3.cellv 527 (by omega) _ (by rw [updV_ne _ _ _ _ (by omega)]; exact E527.out)
  have HR4 := Lib.hid hr3
  have HON4 := Lib.hid hon3
  clear hr3 hon3 hw3 HR3 HON3
  go_quiet (fail)
  generalize hw4 : World.drewN w3 _ = w4
  have hr4 := HR4.out.drewN nq
  have hon4 := HON4.out.drewN nq
  have hkp : HKeep H oH NH TH fh0 (w3.drewN nq) := HKP3.out
  rw [hw4] at hr4 hon4 hkp
  have HKP4 := Lib.hid hkp
  clear hkp HKP3
  have k526 : w4.cell? ⟨D, 526, none⟩ = some (.slice (some ⟨H, oH, none⟩) 256 256) := hr4.cellv 526 (by omega) _ (updV_same _ _ _)
  have k527 : w4.cell? ⟨D, 527, none⟩ = some (.int .i64 255) := hr4.cellv 527 (by omega) _ (by rw [updV_ne _ _ _ _ (by omega)]; exact E527.out)
  have HON5 := Lib.hid hon4
  have KJ := Lib.hid (errK HF.out 256 255 (w4.drewN 1) (hon4.tape) (w4.heap.size) rfl)
  clear hr4 hon4 hw4
  go_upto_region 34 with fail
  refine wp_region_quiet_tail 11 (by kernel_rfl) (by kernel_rfl) ?_
  simp only [List.take_succ_cons, List.take_zero, List.drop_succ_cons, List.drop_zero]
  repeat (go_big_quiet_step (fail))
  refine wpQuiet_nil ?_
  go_wp2_with fail
  refine KJ.out.mono ?_
  rintro e w5 he
  obtain ⟨⟨b, s, rfl, hc⟩, hon⟩ := errE_of he
  have HCC := Lib.hid hc
  have HON6 := Lib.hid hon
  clear he hc hon
  go_wp2_with fail
  exact HRET.out _ _ ⟨⟨rfl, rfl, b, s, rfl, HCC.out, .inl HRF.out, ((HON5.out.drewN 1).alloc _).trans (HON6.out.mono (fun _ h => h.elim))⟩, HKP4.out.only ((((Only.refl (fun _ => False) w4).drewN 1).alloc _).trans HON6.out) (fun e => e)⟩
end Go.Proofs.YthkklojjpgjiiaaFmt
