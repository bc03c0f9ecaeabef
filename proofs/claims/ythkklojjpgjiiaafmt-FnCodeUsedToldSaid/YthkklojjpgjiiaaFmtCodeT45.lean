/-
  huff0's BuildCTable: from the numbers on. Conditions: those of the theorem.
-/
import Derived.Test.YthkklojjpgjiiaaFmtCodeT44
namespace Go.Proofs.YthkklojjpgjiiaaFmt
open Go.RowKit

set_option maxRecDepth 100000 in
set_option maxHeartbeats 6400000 in
theorem bu_2 {w wr : World} {H G S T n : Nat} {mx : Int} {f : Nat → Value} {C : Nat → Nat} (hH : RowF wr H 58 540 f) (hG : RowF wr G 110 513 (ndV fun _ => 0)) (hHG : H ≠ G) (hwG : w.heap.size ≤ G) (h273 : f 273 = .slice (some ⟨G, 0, none⟩) 0 513) (h262 : f 262 = .int .u8 11) (h270 : f 270 = .slice none 0 0) (h271 : f 271 = .slice none 0 0) (hcnt : ∀ k, k < 256 → f k = .int .u32 (C k : Nat)) (hC : ∀ i, C i < 65536) (hS : S ≤ 256) (hT : T ≤ 1000000) (hn : n = bs C S 1) (h2n : 2 ≤ n) (hnT : n ≤ T) (hO : Only (fun k => k = H ∨ w.heap.size ≤ k) w wr) (Q : Exit → Act → World → Prop)
    (u1 u2 u3 u4 u5 u9 u10 u11 u12 u13 u14 u15 u16 u17 u18 u19 u20 u21 u22 u23 u24 u25 u26 u27 u28 u29 u30 u31 u32 u33 u34 u35 u36 u37 u38 u39 u40 u41 u42 u43 u44 u45 u46 u47 u48 u49 u50 u51 u52 u53 u54 u55 u56 u57 u58 u59 u60 u61 u62 u63 u64 u65 u66 u67 u68 u69 u70 u71 u72 u73 u74 u75 u76 u77 u78 u79 u80 u81 u82 u83 u84 u85 u86 u87 u88 u89 u90 u91 u92 u93 u94 u95 u96 u97 u98 u99 u100 u101 u102 u103 u104 u105 u106 u107 u108 u109 u110 u111 u112 u113 u114 u115 u116 u117 u118 u119 u120 u121 u122 u123 u124 u125 u126 u127 u128 u129 u130 u131 u132 u133 u134 u135 u136 u137 u138 u139 u140 u141 u142 u143 u144 u145 u146 u147 u148 u149 u150 u151 u152 u153 u154 u155 u156 u157 u158 u159 u160 u161 u162 u163 u164 u165 u166 u167 u168 u169 u170 u171 u172 u173 u174 u175 u176 u177 u178 u179 u180 u181 u182 u183 u184 u185 u186 u187 u188 u189 u190 u191 : Value)
    (hend : ∀ F w', BuR .nilIface F ∧ (∃ (nb : Nat → Nat) (Pt : Nat) (f' tv : Nat → Value), (∀ s, 1 ≤ nb s ↔ s < S ∧ 0 < C s) ∧ PTab w' H Pt S 256 f' tv 78 512 nb ∧ Only (fun k => k = H ∨ w.heap.size ≤ k) w w') → Q .ret F w') :
    Code.wp Tryf.prog buC2 Q ⟨#[.pointer (some ⟨H, 0, none⟩), u1, u2, u3, u4, u5, .int .i64 (T : Nat), .int .i64 mx, .int .u16 (S : Nat), u9, u10, u11, u12, u13, u14, u15, u16, u17, u18, u19, u20, u21, u22, u23, u24, u25, u26, u27, u28, u29, u30, u31, u32, u33, u34, u35, u36, u37, u38, u39, u40, u41, u42, u43, u44, u45, u46, u47, u48, u49, u50, u51, u52, u53, u54, u55, u56, u57, u58, u59, u60, u61, u62, u63, u64, u65, u66, u67, u68, u69, u70, u71, u72, u73, u74, u75, u76, u77, u78, u79, u80, u81, u82, u83, u84, u85, u86, u87, u88, u89, u90, u91, u92, u93, u94, u95, u96, u97, u98, u99, u100, u101, u102, u103, u104, u105, u106, u107, u108, u109, u110, u111, u112, u113, u114, u115, u116, u117, u118, u119, u120, u121, u122, u123, u124, u125, u126, u127, u128, u129, u130, u131, u132, u133, u134, u135, u136, u137, u138, u139, u140, u141, u142, u143, u144, u145, u146, u147, u148, u149, u150, u151, u152, u153, u154, u155, u156, u157, u158, u159, u160, u161, u162, u163, u164, u165, u166, u167, u168, u169, u170, u171, u172, u173, u174, u175, u176, u177, u178, u179, u180, u181, u182, u183, u184, u185, u186, u187, u188, u189, u190, u191], []⟩ wr := by
  conv => arg 2; whnf
  have hS2 : 2 ≤ S := by have : bs C S 1 ≤ S := bs_le _; omega
  have k265 := hH.cell 265 (by omega)
  have k266 := hH.cell 266 (by omega)
  have k260 := hH.cell 260 (by omega)
  have z265 := hH.frozen 265
  have z266 := hH.frozen 266
  have z260 := hH.frozen 260
  have hH2 := ((hH.set_ 265 (.int .u16 (S : Nat))).set_ 266 (.int .i64 mx)).set_ 260 (.int .i64 (T : Nat))
  have hG2 := ((hG.other (p := ⟨H, 265, none⟩) (.int .u16 (S : Nat)) hHG).other (p := ⟨H, 266, none⟩) (.int .i64 mx) hHG).other (p := ⟨H, 260, none⟩) (.int .i64 (T : Nat)) hHG
  have hO2 := ((hO.set_ (p := ⟨H, 265, none⟩) (.inl rfl) (.int .u16 (S : Nat))).set_ (p := ⟨H, 266, none⟩) (.inl rfl) (.int .i64 mx)).set_ (p := ⟨H, 260, none⟩) (.inl rfl) (.int .i64 (T : Nat))
  have hne : ∀ k, k ≠ 260 → k ≠ 266 → k ≠ 265 → updV (updV (updV f 265 (.int .u16 (S : Nat))) 266 (.int .i64 mx)) 260 (.int .i64 (T : Nat)) k = f k := fun k h1 h2 h3 => by rw [updV_ne _ _ _ _ h1, updV_ne _ _ _ _ h2, updV_ne _ _ _ _ h3]
  have K19 := Lib.hid (buildCTable_any hH2 hG2 hHG (by rw [hne _ (by omega) (by omega) (by omega)]; exact h273) (by rw [updV_ne _ _ _ _ (by omega), updV_ne _ _ _ _ (by omega), updV_same]) (updV_same _ _ _) (by rw [hne _ (by omega) (by omega) (by omega)]; exact h262) (by rw [hne _ (by omega) (by omega) (by omega)]; exact h271) (fun k hk => by rw [hne _ (by omega) (by omega) (by omega)]; exact hcnt k hk) hC hS hT hn h2n hnT)
  have h270b : updV (updV (updV f 265 (.int .u16 (S : Nat))) 266 (.int .i64 mx)) 260 (.int .i64 (T : Nat)) 270 = .slice none 0 0 := by rw [hne _ (by omega) (by omega) (by omega)]; exact h270
  have H270 := Lib.hid h270b
  have HO2 := Lib.hid hO2
  have HL := Lib.hid hH2.lt
  have HE := Lib.hid hend
  have HWG := Lib.hid hwG
  clear hH hG hHG hwG h273 h262 h270 h271 hcnt hC hn hnT hO hend hH2 hG2 hO2 hne h270b
  go_wp2_with fail
  refine K19.out.mono ?_
  rintro e w2 ⟨rfl, Ct, f2, g, nb, hh2, h271, hne2, ⟨m, h268⟩, hc2, hwC, hnb, hiff, ho2⟩
  have HH2 := Lib.hid hh2
  have H271 := Lib.hid h271
  have H268 := Lib.hid h268
  have HC2 := Lib.hid hc2
  have HNB := Lib.hid hnb
  have HIFF := Lib.hid hiff
  have HWC := Lib.hid hwC
  have h270c : f2 270 = .slice none 0 0 := by rw [hne2 270 (by omega) (by omega) (by omega) (by omega)]; exact H270.out
  have H270c := Lib.hid h270c
  have hO3 : Only (fun k => k = H ∨ w.heap.size ≤ k) w w2 := HO2.out.trans (ho2.mono fun k hk => by
    have h1 := HO2.out.size
    have h2 := HWG.out
    rcases hk with hk | hk | hk
    · exact .inl hk
    · exact .inr (by omega)
    · exact .inr (by omega))
  have HO3 := Lib.hid hO3
  clear hh2 h271 hne2 h268 hc2 hwC hnb hiff ho2 h270c hO3 K19 k265 k266 k260 z265 z266 z260
  go_upto_if 140 with fail
  rename_i K1 a1
  have HA := Lib.hid a1
  clear a1
  go_wp2_with fail
  refine HA.out _ _ (bu_3 (w := w) (by omega) hS HH2.out HC2.out (by have h1 := HL.out; have h2 := HWC.out; omega) HNB.out H270c.out H271.out H268.out HO3.out _ _ _ _ _ _ _ _ _ _ _ _ _ _ _ _ _ _ _ _ _ _ _ _ _ _ _ _ _ _ _ _ _ _ _ _ _ _ _ _ _ _ _ _ _ _ _ _ _ _ _ _ _ _ _ _ _ _ _ _ _ _ _ _ _ _ _ _ _ _ _ _ _ _ _ _ _ _ _ _ _ _ _ _ _ _ _ _ _ _ _ _ _ _ _ _ _ _ _ _ _ _ _ _ _ _ _ _ _ _ _ _ _ _ _ _ _ _ _ _ _ _ _ _ _ _ _ _ _ _ _ _ _ _ _ _ _ _ _ _ _ _ _ _ _ _ _ _ _ _ _ _ _ _ _ _ _ _ _ _ _ _ _ _ _ _ _ _ _ _ _ _ _ _ _ _ _ _ _ _ _ _ _ _ _ _ _ _ _ _ _ _ ?_)
  rintro F w5 ⟨hF, Pt, f', tv, hp, ho⟩
  exact HE.out _ _ ⟨hF, nb, Pt, f', tv, HIFF.out, hp, ho⟩
end Go.Proofs.YthkklojjpgjiiaaFmt
