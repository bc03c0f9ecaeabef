/-
  huff0's BuildCTable: the table is kept as the one in use. Conditions: those of the theorem.
-/
import Derived.Test.YthkklojjpgjiiaaFmtCodeT21
import Derived.Test.YthkklojjpgjiiaaFmtCodeT43
import Derived.Test.YthkklojjpgjiiaaFmtCodeT41
namespace Go.Proofs.YthkklojjpgjiiaaFmt
open Go.RowKit

noncomputable def buC3 : Code := cuR (cuR (cuR (cuR (cuR (cuR (cuR (cuR (cuR (cuR (cuR (cuR (cuR (cuR (cuR (cuR (cuR ((Tryf.f10.body).getD .skip)))))))))))))))))
noncomputable def buC2 : Code := cuR (cuR (cuR (cuR (cuR (cuR (cuR (cuR (cuR (cuR (cuR (cuR (cuR ((Tryf.f10.body).getD .skip)))))))))))))
set_option maxRecDepth 100000 in
theorem arr192 (a : Array Value) (h : a.size = 192) : a = #[a.getD 0 undef, a.getD 1 undef, a.getD 2 undef, a.getD 3 undef, a.getD 4 undef, a.getD 5 undef, a.getD 6 undef, a.getD 7 undef, a.getD 8 undef, a.getD 9 undef, a.getD 10 undef, a.getD 11 undef, a.getD 12 undef, a.getD 13 undef, a.getD 14 undef, a.getD 15 undef, a.getD 16 undef, a.getD 17 undef, a.getD 18 undef, a.getD 19 undef, a.getD 20 undef, a.getD 21 undef, a.getD 22 undef, a.getD 23 undef, a.getD 24 undef, a.getD 25 undef, a.getD 26 undef, a.getD 27 undef, a.getD 28 undef, a.getD 29 undef, a.getD 30 undef, a.getD 31 undef, a.getD 32 undef, a.getD 33 undef, a.getD 34 undef, a.getD 35 undef, a.getD 36 undef, a.getD 37 undef, a.getD 38 undef, a.getD 39 undef, a.getD 40 undef, a.getD 41 undef, a.getD 42 undef, a.getD 43 undef, a.getD 44 undef, a.getD 45 undef, a.getD 46 undef, a.getD 47 undef, a.getD 48 undef, a.getD 49 undef, a.getD 50 undef, a.getD 51 undef, a.getD 52 undef, a.getD 53 undef, a.getD 54 undef, a.getD 55 undef, a.getD 56 undef, a.getD 57 undef, a.getD 58 undef, a.getD 59 undef, a.getD 60 undef, a.getD 61 undef, a.getD 62 undef, a.getD 63 undef, a.getD 64 undef, a.getD 65 undef, a.getD 66 undef, a.getD 67 undef, a.getD 68 undef, a.getD 69 undef, a.getD 70 undef, a.getD 71 undef, a.getD 72 undef, a.getD 73 undef, a.getD 74 undef, a.getD 75 undef, a.getD 76 undef, a.getD 77 undef, a.getD 78 undef, a.getD 79 undef, a.getD 80 undef, a.getD 81 undef, a.getD 82 undef, a.getD 83 undef, a.getD 84 undef, a.getD 85 undef, a.getD 86 undef, a.getD 87 undef, a.getD 88 undef, a.getD 89 undef, a.getD 90 undef, a.getD 91 undef, a.getD 92 undef, a.getD 93 undef, a.getD 94 undef, a.getD 95 undef, a.getD 96 undef, a.getD 97 undef, a.getD 98 undef, a.getD 99 undef, a.getD 100 undef, a.getD 101 undef, a.getD 102 undef, a.getD 103 undef, a.getD 104 undef, a.getD 105 undef, a.getD 106 undef, a.getD 107 undef, a.getD 108 undef, a.getD 109 undef, a.getD 110 undef, a.getD 111 undef, a.getD 112 undef, a.getD 113 undef, a.getD 114 undef, a.getD 115 undef, a.getD 116 undef, a.getD 117 undef, a.getD 118 undef, a.getD 119 undef, a.getD 120 undef, a.getD 121 undef, a.getD 122 undef, a.getD 123 undef, a.getD 124 undef, a.getD 125 undef, a.getD 126 undef, a.getD 127 undef, a.getD 128 undef, a.getD 129 undef, a.getD 130 undef, a.getD 131 undef, a.getD 132 undef, a.getD 133 undef, a.getD 134 undef, a.getD 135 undef, a.getD 136 undef, a.getD 137 undef, a.getD 138 undef, a.getD 139 undef, a.getD 140 undef, a.getD 141 undef, a.getD 142 undef, a.getD 143 undef, a.getD 144 undef, a.getD 145 undef, a.getD 146 undef, a.getD 147 undef, a.getD 148 undef, a.getD 149 undef, a.getD 150 undef, a.getD 151 undef, a.getD 152 undef, a.getD 153 undef, a.getD 154 undef, a.getD 155 undef, a.getD 156 undef, a.getD 157 undef, a.getD 158 undef, a.getD 159 undef, a.getD 160 undef, a.getD 161 undef, a.getD 162 undef, a.getD 163 undef, a.getD 164 undef, a.getD 165 undef, a.getD 166 undef, a.getD 167 undef, a.getD 168 undef, a.getD 169 undef, a.getD 170 undef, a.getD 171 undef, a.getD 172 undef, a.getD 173 undef, a.getD 174 undef, a.getD 175 undef, a.getD 176 undef, a.getD 177 undef, a.getD 178 undef, a.getD 179 undef, a.getD 180 undef, a.getD 181 undef, a.getD 182 undef, a.getD 183 undef, a.getD 184 undef, a.getD 185 undef, a.getD 186 undef, a.getD 187 undef, a.getD 188 undef, a.getD 189 undef, a.getD 190 undef, a.getD 191 undef] := by
  have := arr_rangeC a 192 h
  exact this
def BuR (v4 : Value) (F : Act) : Prop := F.defers = [] ∧ F.tmps.size = 192 ∧ F.tmps.getD 4 undef = v4
set_option maxRecDepth 100000 in
theorem bu_ret {F : Act} {v4 : Value} (hfr : BuR v4 F) : F = ⟨#[F.tmps.getD 0 undef, F.tmps.getD 1 undef, F.tmps.getD 2 undef, F.tmps.getD 3 undef, v4, F.tmps.getD 5 undef, F.tmps.getD 6 undef, F.tmps.getD 7 undef, F.tmps.getD 8 undef, F.tmps.getD 9 undef, F.tmps.getD 10 undef, F.tmps.getD 11 undef, F.tmps.getD 12 undef, F.tmps.getD 13 undef, F.tmps.getD 14 undef, F.tmps.getD 15 undef, F.tmps.getD 16 undef, F.tmps.getD 17 undef, F.tmps.getD 18 undef, F.tmps.getD 19 undef, F.tmps.getD 20 undef, F.tmps.getD 21 undef, F.tmps.getD 22 undef, F.tmps.getD 23 undef, F.tmps.getD 24 undef, F.tmps.getD 25 undef, F.tmps.getD 26 undef, F.tmps.getD 27 undef, F.tmps.getD 28 undef, F.tmps.getD 29 undef, F.tmps.getD 30 undef, F.tmps.getD 31 undef, F.tmps.getD 32 undef, F.tmps.getD 33 undef, F.tmps.getD 34 undef, F.tmps.getD 35 undef, F.tmps.getD 36 undef, F.tmps.getD 37 undef, F.tmps.getD 38 undef, F.tmps.getD 39 undef, F.tmps.getD 40 undef, F.tmps.getD 41 undef, F.tmps.getD 42 undef, F.tmps.getD 43 undef, F.tmps.getD 44 undef, F.tmps.getD 45 undef, F.tmps.getD 46 undef, F.tmps.getD 47 undef, F.tmps.getD 48 undef, F.tmps.getD 49 undef, F.tmps.getD 50 undef, F.tmps.getD 51 undef, F.tmps.getD 52 undef, F.tmps.getD 53 undef, F.tmps.getD 54 undef, F.tmps.getD 55 undef, F.tmps.getD 56 undef, F.tmps.getD 57 undef, F.tmps.getD 58 undef, F.tmps.getD 59 undef, F.tmps.getD 60 undef, F.tmps.getD 61 undef, F.tmps.getD 62 undef, F.tmps.getD 63 undef, F.tmps.getD 64 undef, F.tmps.getD 65 undef, F.tmps.getD 66 undef, F.tmps.getD 67 undef, F.tmps.getD 68 undef, F.tmps.getD 69 undef, F.tmps.getD 70 undef, F.tmps.getD 71 undef, F.tmps.getD 72 undef, F.tmps.getD 73 undef, F.tmps.getD 74 undef, F.tmps.getD 75 undef, F.tmps.getD 76 undef, F.tmps.getD 77 undef, F.tmps.getD 78 undef, F.tmps.getD 79 undef, F.tmps.getD 80 undef, F.tmps.getD 81 undef, F.tmps.getD 82 undef, F.tmps.getD 83 undef, F.tmps.getD 84 undef, F.tmps.getD 85 undef, F.tmps.getD 86 undef, F.tmps.getD 87 undef, F.tmps.getD 88 undef, F.tmps.getD 89 undef, F.tmps.getD 90 undef, F.tmps.getD 91 undef, F.tmps.getD 92 undef, F.tmps.getD 93 undef, F.tmps.getD 94 undef, F.tmps.getD 95 undef, F.tmps.getD 96 undef, F.tmps.getD 97 undef, F.tmps.getD 98 undef, F.tmps.getD 99 undef, F.tmps.getD 100 undef, F.tmps.getD 101 undef, F.tmps.getD 102 undef, F.tmps.getD 103 undef, F.tmps.getD 104 undef, F.tmps.getD 105 undef, F.tmps.getD 106 undef, F.tmps.getD 107 undef, F.tmps.getD 108 undef, F.tmps.getD 109 undef, F.tmps.getD 110 undef, F.tmps.getD 111 undef, F.tmps.getD 112 undef, F.tmps.getD 113 undef, F.tmps.getD 114 undef, F.tmps.getD 115 undef, F.tmps.getD 116 undef, F.tmps.getD 117 undef, F.tmps.getD 118 undef, F.tmps.getD 119 undef, F.tmps.getD 120 undef, F.tmps.getD 121 undef, F.tmps.getD 122 undef, F.tmps.getD 123 undef, F.tmps.getD 124 undef, F.tmps.getD 125 undef, F.tmps.getD 126 undef, F.tmps.getD 127 undef, F.tmps.getD 128 undef, F.tmps.getD 129 undef, F.tmps.getD 130 undef, F.tmps.getD 131 undef, F.tmps.getD 132 undef, F.tmps.getD 133 undef, F.tmps.getD 134 undef, F.tmps.getD 135 undef, F.tmps.getD 136 undef, F.tmps.getD 137 undef, F.tmps.getD 138 undef, F.tmps.getD 139 undef, F.tmps.getD 140 undef, F.tmps.getD 141 undef, F.tmps.getD 142 undef, F.tmps.getD 143 undef, F.tmps.getD 144 undef, F.tmps.getD 145 undef, F.tmps.getD 146 undef, F.tmps.getD 147 undef, F.tmps.getD 148 undef, F.tmps.getD 149 undef, F.tmps.getD 150 undef, F.tmps.getD 151 undef, F.tmps.getD 152 undef, F.tmps.getD 153 undef, F.tmps.getD 154 undef, F.tmps.getD 155 undef, F.tmps.getD 156 undef, F.tmps.getD 157 undef, F.tmps.getD 158 undef, F.tmps.getD 159 undef, F.tmps.getD 160 undef, F.tmps.getD 161 undef, F.tmps.getD 162 undef, F.tmps.getD 163 undef, F.tmps.getD 164 undef, F.tmps.getD 165 undef, F.tmps.getD 166 undef, F.tmps.getD 167 undef, F.tmps.getD 168 undef, F.tmps.getD 169 undef, F.tmps.getD 170 undef, F.tmps.getD 171 undef, F.tmps.getD 172 undef, F.tmps.getD 173 undef, F.tmps.getD 174 undef, F.tmps.getD 175 undef, F.tmps.getD 176 undef, F.tmps.getD 177 undef, F.tmps.getD 178 undef, F.tmps.getD 179 undef, F.tmps.getD 180 undef, F.tmps.getD 181 undef, F.tmps.getD 182 undef, F.tmps.getD 183 undef, F.tmps.getD 184 undef, F.tmps.getD 185 undef, F.tmps.getD 186 undef, F.tmps.getD 187 undef, F.tmps.getD 188 undef, F.tmps.getD 189 undef, F.tmps.getD 190 undef, F.tmps.getD 191 undef], []⟩ := by
  obtain ⟨hd, hs, h4⟩ := hfr
  have hfq := arr192 F.tmps hs
  rw [h4] at hfq
  exact act_extC hfq hd

theorem make_pt : ∃ arr : Array Value, arr.size = 512 ∧ (∀ k, k < 512 → arr[k]? = some (cV (fun _ => 0) (fun _ => 0) k)) ∧ ∀ w, (Instr.makeSlice 43 (.int .i64 0) (.int .i64 256)).run Tryf.prog w = .ok (.slice (some ⟨w.heap.size, 0, none⟩) 0 256) (w.alloc (.cells arr 78)) := by
  obtain ⟨i, h1, h2, h3, h4⟩ := info_parts info_cent4
  refine ⟨madeCells (Value.agg #[.int .u16 0, .int .u8 0]).cells 512, by simp [size_madeCells], madeC_get, fun w => ?_⟩
  have h := run_make (P := Tryf.prog) w 43 78 i _ Tryf.underlying43 h1 h2 .i64 .i64 0 256 (by omega) (by omega) (by rw [h4]; omega) (by omega)
  rw [h3] at h
  exact h
theorem info_c2 : (Tryf.prog.info? 78).map (·.size) = some 2 := by kernel_rfl
set_option maxRecDepth 100000 in
set_option maxHeartbeats 6400000 in
theorem bu_3 {w wr : World} {H Ct S m : Nat} {f : Nat → Value} {g : Nat → Int} {nb : Nat → Nat} (hS1 : 1 ≤ S) (hS : S ≤ 256) (hH : RowF wr H 58 540 f) (hC : RowF wr Ct 78 512 (cV g nb)) (hCH : H ≠ Ct) (hnb : ∀ s, nb s ≤ 11) (h270 : f 270 = .slice none 0 0) (h271 : f 271 = .slice (some ⟨Ct, 0, none⟩) S 256) (h268 : f 268 = .int .u8 (m : Nat)) (hO : Only (fun k => k = H ∨ w.heap.size ≤ k) w wr) (Q : Exit → Act → World → Prop)
    (u1 u2 u3 u4 u5 u6 u7 u8 u9 u10 u11 u12 u13 u14 u15 u16 u17 u18 u19 u20 u21 u22 u23 u24 u25 u26 u27 u28 u29 u30 u31 u32 u33 u34 u35 u36 u37 u38 u39 u40 u41 u42 u43 u44 u45 u46 u47 u48 u49 u50 u51 u52 u53 u54 u55 u56 u57 u58 u59 u60 u61 u62 u63 u64 u65 u66 u67 u68 u69 u70 u71 u72 u73 u74 u75 u76 u77 u78 u79 u80 u81 u82 u83 u84 u85 u86 u87 u88 u89 u90 u91 u92 u93 u94 u95 u96 u97 u98 u99 u100 u101 u102 u103 u104 u105 u106 u107 u108 u109 u110 u111 u112 u113 u114 u115 u116 u117 u118 u119 u120 u121 u122 u123 u124 u125 u126 u127 u128 u129 u130 u131 u132 u133 u134 u135 u136 u137 u138 u139 u140 u141 u142 u143 u144 u145 u146 u147 u148 u149 u150 u151 u152 u153 u154 u155 u156 u157 u158 u159 u160 u161 u162 u163 u164 u165 u166 u167 u168 u169 u170 u171 u172 u173 u174 u175 u176 u177 u178 u179 u180 u181 u182 u183 u184 u185 u186 u187 u188 u189 u190 u191 : Value)
    (hend : ∀ F w', BuR .nilIface F ∧ (∃ (Pt : Nat) (f' tv : Nat → Value), PTab w' H Pt S 256 f' tv 78 512 nb ∧ Only (fun k => k = H ∨ w.heap.size ≤ k) w w') → Q .ret F w') :
    Code.wp Tryf.prog buC3 Q ⟨#[.pointer (some ⟨H, 0, none⟩), u1, u2, u3, u4, u5, u6, u7, u8, u9, u10, u11, u12, u13, u14, u15, u16, u17, u18, u19, u20, u21, u22, u23, u24, u25, u26, u27, u28, u29, u30, u31, u32, u33, u34, u35, u36, u37, u38, u39, u40, u41, u42, u43, u44, u45, u46, u47, u48, u49, u50, u51, u52, u53, u54, u55, u56, u57, u58, u59, u60, u61, u62, u63, u64, u65, u66, u67, u68, u69, u70, u71, u72, u73, u74, u75, u76, u77, u78, u79, u80, u81, u82, u83, u84, u85, u86, u87, u88, u89, u90, u91, u92, u93, u94, u95, u96, u97, u98, u99, u100, u101, u102, u103, u104, u105, u106, u107, u108, u109, u110, u111, u112, u113, u114, u115, u116, u117, u118, u119, u120, u121, u122, u123, u124, u125, u126, u127, u128, u129, u130, u131, u132, u133, u134, u135, u136, u137, u138, u139, u140, u141, u142, u143, u144, u145, u146, u147, u148, u149, u150, u151, u152, u153, u154, u155, u156, u157, u158, u159, u160, u161, u162, u163, u164, u165, u166, u167, u168, u169, u170, u171, u172, u173, u174, u175, u176, u177, u178, u179, u180, u181, u182, u183, u184, u185, u186, u187, u188, u189, u190, u191], []⟩ wr := by
  conv => arg 2; whnf
  have k270 : wr.cell? ⟨H, 270, none⟩ = some (.slice none 0 0) := hH.cellv 270 (by omega) _ h270
  have k271 : wr.cell? ⟨H, 271, none⟩ = some (.slice (some ⟨Ct, 0, none⟩) S 256) := hH.cellv 271 (by omega) _ h271
  have z270 := hH.frozen 270
  have lH := hH.lt
  obtain ⟨arr, harr1, harr2, hmk⟩ := make_pt
  have HA1 := Lib.hid harr1
  have HA2 := Lib.hid harr2
  have HH := Lib.hid hH
  have HC := Lib.hid hC
  have HNB := Lib.hid hnb
  have H271 := Lib.hid h271
  have H268 := Lib.hid h268
  have HO := Lib.hid hO
  have HE := Lib.hid hend
  have HCH := Lib.hid hCH
  have hSi : (0 : Int) < (S : Int) := by omega
  have hSd : decide ((0 : Int) < (S : Int)) = true := decide_eq_true hSi
  clear harr1 harr2 hH hC hnb h270 h271 h268 hO hend hCH
  go_wp2_with fail
  go_upto_region 53 with fail
  go_quiet (fail)
  have hH2 := HH.out.drewN nq
  have hC2 := HC.out.drewN nq
  have hO2 := HO.out.drewN nq
  generalize World.drewN wr nq = w2 at hH2 hC2 hO2 ⊢
  have lH2 := hH2.lt
  have z270b := (hH2.alloc (.cells arr 78)).frozen 270
  have k270b := (hH2.alloc (.cells arr 78)).cell 270 (by omega)
  obtain ⟨Pt, hPt⟩ : ∃ Pt, w2.heap.size = Pt := ⟨_, rfl⟩
  have hs2 : (w2.setCell ⟨H, 270, none⟩ (.slice (some ⟨Pt, 0, none⟩) 0 256)).heap.size = Pt := by simp [hPt]
  have hP4 : RowF ((w2.setCell ⟨H, 270, none⟩ (.slice (some ⟨Pt, 0, none⟩) 0 256)).alloc (.cells arr 78)) Pt 78 512 (cV (fun _ => 0) fun _ => 0) := by
    have h9 : RowF ((w2.setCell ⟨H, 270, none⟩ (.slice (some ⟨Pt, 0, none⟩) 0 256)).alloc (.cells arr 78)) (w2.setCell ⟨H, 270, none⟩ (.slice (some ⟨Pt, 0, none⟩) 0 256)).heap.size 78 512 (cV (fun _ => 0) fun _ => 0) := ⟨arr, heap_alloc_new _ _, HA1.out, HA2.out⟩
    rwa [hs2] at h9
  have hHP : H ≠ Pt := by omega
  have hCP : Ct ≠ Pt := by have := hC2.lt; omega
  have hH3 := (hH2.set_ 270 (.slice (some ⟨Pt, 0, none⟩) 0 256)).alloc (.cells arr 78)
  have hC3 := (hC2.other (p := ⟨H, 270, none⟩) (.slice (some ⟨Pt, 0, none⟩) 0 256) HCH.out).alloc (.cells arr 78)
  have hO3 := (hO2.set_ (p := ⟨H, 270, none⟩) (.inl rfl) (.slice (some ⟨Pt, 0, none⟩) 0 256)).alloc (.cells arr 78)
  have HP4 := Lib.hid hP4
  have HH3 := Lib.hid hH3
  have HC3 := Lib.hid hC3
  have HO3 := Lib.hid hO3
  have HHP := Lib.hid hHP
  have HCP := Lib.hid hCP
  have HPT := Lib.hid hPt
  have hwP : w.heap.size ≤ Pt := by rw [← hPt]; exact hO2.size
  have HWP := Lib.hid hwP
  clear hs2 hH2 hC2 hO2 hP4 hH3 hC3 hO3 HO HH HC hPt hwP k270 k271 z270 lH hHP hCP
  go_wp2_with fail
  go_upto_region 55 with fail
  rw [HPT.out]
  generalize World.alloc _ _ = w3 at HP4 HH3 HC3 HO3 ⊢
  clear k270b z270b hmk lH2
  have k270 : w3.cell? ⟨H, 270, none⟩ = some (.slice (some ⟨Pt, 0, none⟩) 0 256) := HH3.out.cellv 270 (by omega) _ (updV_same _ _ _)
  have z270 := HH3.out.frozen 270
  have k271 : w3.cell? ⟨H, 271, none⟩ = some (.slice (some ⟨Ct, 0, none⟩) S 256) := HH3.out.cellv 271 (by omega) _ (by rw [updV_ne _ _ _ _ (by omega)]; exact H271.out)
  have hS256 : (S : Int) ≤ 256 := by omega
  refine wp_region_noPanic ?_
  refine wp_region_quiet_tail 13 (by kernel_rfl) (by kernel_rfl) ?_
  simp only [List.take_succ_cons, List.take_zero, List.drop_succ_cons, List.drop_zero]
  repeat (go_big_quiet_step (fail))
  refine wpQuiet_nil ?_
  go_wp2_with fail
  refine NoPanic.normal ?_
  have hH4 := (HH3.out.drewN 1).set_ 270 (.slice (some ⟨Pt, 0, none⟩) S 256)
  have hC4 := (HC3.out.drewN 1).other (p := ⟨H, 270, none⟩) (.slice (some ⟨Pt, 0, none⟩) S 256) HCH.out
  have hP4 := (HP4.out.drewN 1).other (p := ⟨H, 270, none⟩) (.slice (some ⟨Pt, 0, none⟩) S 256) HHP.out
  have hO4 := (HO3.out.drewN 1).set_ (p := ⟨H, 270, none⟩) (.inl rfl) (.slice (some ⟨Pt, 0, none⟩) S 256)
  generalize World.setCell _ _ _ = w4 at hH4 hC4 hP4 hO4 ⊢
  clear k270 z270 k271
  have k270 : w4.cell? ⟨H, 270, none⟩ = some (.slice (some ⟨Pt, 0, none⟩) S 256) := hH4.cellv 270 (by omega) _ (updV_same _ _ _)
  have k271 : w4.cell? ⟨H, 271, none⟩ = some (.slice (some ⟨Ct, 0, none⟩) S 256) := hH4.cellv 271 (by omega) _ (by rw [updV_ne _ _ _ _ (by omega), updV_ne _ _ _ _ (by omega)]; exact H271.out)
  have HH4 := Lib.hid hH4
  have HC4 := Lib.hid hC4
  have HP5 := Lib.hid hP4
  have HO4 := Lib.hid hO4
  clear hH4 hC4 hP4 hO4 HH3 HC3 HP4 HO3
  go_wp2_with fail
  go_upto_region 56 with fail
  rename_i K1 a1
  have HK := Lib.hid a1
  clear a1
  refine wp_region_noPanic ?_
  refine wp_region_quiet_tail 8 (by kernel_rfl) (by kernel_rfl) ?_
  simp only [List.take_succ_cons, List.take_zero, List.drop_succ_cons, List.drop_zero]
  repeat (go_big_quiet_step (fail))
  refine wpQuiet_nil ?_
  obtain ⟨cs, hcs⟩ : ∃ cs : List Value, (List.range (S * 2)).map (cV g nb) = cs := ⟨_, rfl⟩
  have hcl : cs.length = S * 2 := by rw [← hcs]; simp
  have hcg : ∀ j v, cs[j]? = some v → j < S * 2 ∧ v = cV g nb j := fun j v hv => by
    rw [← hcs] at hv
    simp only [List.getElem?_map] at hv
    by_cases e : j < S * 2
    · simp [e] at hv; exact ⟨e, hv.symm⟩
    · simp [e] at hv
  obtain ⟨ap, hp1, hp2, hp3⟩ := HP5.out.drewN 1
  refine Lib.wpList_copy_run (w4.drewN 1) rfl (.tmp 173) (.tmp 177) 43 43 rfl _ _ rfl rfl (run_copy_row2 (w4.drewN 1) 43 43 _ 78 Pt S 256 ⟨Ct, 0, none⟩ S 256 ap _ cs Tryf.underlying43 info_c2 hp1 (by rw [hcl]; simp) (fun j v hv => ?_) (by omega) (fun v hv => ?_)) ?_
  · obtain ⟨h1, rfl⟩ := hcg j v hv
    rw [show (⟨Ct, 0, none⟩ : Addr).add j = ⟨Ct, j, none⟩ by unfold Addr.add; split <;> simp_all]
    exact (HC4.out.drewN 1).cell j (by omega)
  · obtain ⟨j, hj, rfl⟩ := List.getElem_of_mem hv
    obtain ⟨_, he⟩ := hcg j _ (List.getElem?_eq_getElem hj)
    rw [he]
    unfold cV
    split <;> rfl
  have hR5 := setRow_row (HP5.out.drewN 1) cs (by omega) ap hp1
  have hO5 := only_setRow (S := fun k => k = H ∨ w.heap.size ≤ k) (HO4.out.drewN 1) (.inr HWP.out) _ (HP5.out.drewN 1) hR5
  have hH5 := (HH4.out.drewN 1).same (setRow_other (w4.drewN 1) Pt H (cs ++ ap.toList.drop cs.length).toArray HHP.out)
  generalize World.setRow _ _ _ = w5 at hR5 hO5 hH5 ⊢
  have k268 : w5.cell? ⟨H, 268, none⟩ = some (.int .u8 (m : Nat)) := hH5.cellv 268 (by omega) _ (by rw [updV_ne _ _ _ _ (by omega), updV_ne _ _ _ _ (by omega)]; exact H268.out)
  have k269 := hH5.cell 269 (by omega)
  have z269 := hH5.frozen 269
  have k267 := hH5.cell 267 (by omega)
  have z267 := hH5.frozen 267
  have k266 := hH5.cell 266 (by omega)
  have z266 := hH5.frozen 266
  have hR6 := ((hR5.other (p := ⟨H, 269, none⟩) (.int .u8 (m : Nat)) HHP.out).other (p := ⟨H, 267, none⟩) (.bool true) HHP.out).other (p := ⟨H, 266, none⟩) (.int .i64 0) HHP.out
  have hH6 := ((hH5.set_ 269 (.int .u8 (m : Nat))).set_ 267 (.bool true)).set_ 266 (.int .i64 0)
  have hO6 := ((hO5.set_ (p := ⟨H, 269, none⟩) (.inl rfl) (.int .u8 (m : Nat))).set_ (p := ⟨H, 267, none⟩) (.inl rfl) (.bool true)).set_ (p := ⟨H, 266, none⟩) (.inl rfl) (.int .i64 0)
  have HR6 := Lib.hid hR6
  have HH6 := Lib.hid hH6
  have HO6 := Lib.hid hO6
  have HCL := Lib.hid hcl
  have HCG := Lib.hid hcg
  clear hR5 hO5 hH5 hR6 hH6 hO6 hcl hcg hcs hp1 hp2 hp3
  go_wp2_with fail
  refine NoPanic.normal ?_
  refine HK.out _ _ ?_
  go_wp2_with fail
  refine HE.out _ _ ⟨⟨rfl, rfl, rfl⟩, Pt, _, _, ⟨HH6.out, ?_, HR6.out, by omega, fun i hi => ⟨?_, HNB.out i⟩⟩, HO6.out⟩
  · rw [updV_ne _ _ _ _ (by omega), updV_ne _ _ _ _ (by omega), updV_ne _ _ _ _ (by omega), updV_same]
  · have hl := HCL.out
    have hk : i * 2 + 1 < cs.length := by omega
    show (if i * 2 + 1 < cs.length then cs.getD (i * 2 + 1) undef else _) = _
    rw [if_pos hk, List.getD_eq_getElem?_getD, List.getElem?_eq_getElem hk]
    obtain ⟨_, he⟩ := HCG.out _ _ (List.getElem?_eq_getElem hk)
    rw [he]
    show cV g nb (i * 2 + 1) = _
    unfold cV
    rw [if_neg (by omega), show (i * 2 + 1) / 2 = i by omega]
end Go.Proofs.YthkklojjpgjiiaaFmt
