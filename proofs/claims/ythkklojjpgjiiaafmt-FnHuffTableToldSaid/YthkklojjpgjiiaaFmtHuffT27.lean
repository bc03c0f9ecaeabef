/-
  fse.readNCount: one round. Conditions: those of the theorem.
  fse.readNCount, walked. Conditions: those of the theorem.
-/
import Derived.Test.YthkklojjpgjiiaaFmtHuffT25
import Derived.Test.YthkklojjpgjiiaaFmtHuffT26
import Derived.Test.YthkklojjpgjiiaaFmtHuffT11
namespace Go.Proofs.YthkklojjpgjiiaaFmt
open Go.RowKit Go.Extern.Stop Go.Stop Go.Extern

/-- the loop's head -/
def NcW (w : World) (D n lg : Nat) (l : List UInt8) (f1 : Nat → Value) (F : Act) (w' : World) : Prop :=
  ∃ v3 v4 v7 v8 v9 v10 v11 v12, NcF D n v3 v4 v7 v8 v9 v10 v11 v12 F ∧ RelN w D n lg l f1 v3 v4 v7 v8 v9 v10 v11 v12 undef undef undef w'
def ncMu (F : Act) (_ : World) : Nat := 400 - (intOf (F.tmps.getD 3 undef)).toNat
theorem ncMu_of {D n : Nat} {v3 v4 v7 v8 v9 v10 v11 v12 : Value} {F : Act} {w : World} (h : NcF D n v3 v4 v7 v8 v9 v10 v11 v12 F) : ncMu F w = 400 - (intOf v3).toNat := by
  unfold ncMu
  rw [h.2.2.2.1]
set_option maxRecDepth 100000 in
set_option maxHeartbeats 6400000 in
theorem nc_round {F : Interp} {w : World} {D : Nat} {A : Option Addr} {n c x : Nat} {l : List UInt8} {f1 : Nat → Value} (E : NcE F w D A n c x l f1) (Q0 : Exit → Act → World → Prop)
    (hret : ∀ F w', NcBad w D l F w' → Q0 .ret F w') (hend : ∀ F w', NcEnd w D n (x + 5) l f1 F w' → Q0 (.exit 0) F w') (F0 : Act) (wr : World) (hI : NcW w D n (x + 5) l f1 F0 wr) :
    Code.wp Tryf.prog ncBody (Exit.then (fun F' w'' => NcW w D n (x + 5) l f1 F' w'' ∧ ncMu F' w'' < ncMu F0 wr) Q0) F0 wr := by
  obtain ⟨v3, v4, v7, v8, v9, v10, v11, v12, hF, m, pv, bs, bc, left, off, out, rfl, rfl, rfl, rfl, rfl, rfl, rfl, rfl, hM, hml, hoff, hbc, hB, hmm, hbm, hle, hsum, hpv, hL⟩ := hI
  rw [ncMu_of hF, nc_frame hF]
  have hm321 : m ≤ 321 := by cases pv <;> simp at hmm <;> omega
  conv => arg 2; whnf
  by_cases hl0 : left = 0
  · subst hl0
    obtain ⟨gt, hgt⟩ : ∃ gt, 2 ^ (x + 5) - 0 = gt := ⟨_, rfl⟩
    rw [hgt]
    have HGT := Lib.hid hgt
    have HM := Lib.hid hM
    have HML := Lib.hid hml
    have HL := Lib.hid hL
    have HSUM := Lib.hid hsum
    have HPV := Lib.hid hpv
    have HLE := Lib.hid hle
    have HBC := Lib.hid hbc
    have HMM := Lib.hid hmm
    clear hret hgt hM hml hL hB hsum hpv hle hF hbc hmm
    go_wp2_with fail
    exact ⟨_, _, _, _, m, bc, off, gt, out, ⟨rfl, rfl, rfl, rfl, rfl, rfl, rfl, rfl, rfl, rfl, rfl, rfl, rfl⟩, HGT.out.symm, HM.out, HML.out, hoff, HBC.out, hm321, hbm, HLE.out, HSUM.out, fun R hR => (HL.out R hR).1 (by cases pv with | false => rfl | true => exact absurd (HPV.out rfl) (by omega))⟩
  · have hP64 : 2 ^ (x + 5) ≤ 64 := Nat.le_trans (Nat.pow_le_pow_right (by omega) (show x + 5 ≤ 6 by have := E.hx1; omega)) (by decide)
    obtain ⟨rm, hrm⟩ : ∃ rm, left + 1 = rm := ⟨_, rfl⟩
    rw [hrm]
    have hl1 : (1 : Int) < (rm : Int) := by omega
    have HRM := Lib.hid hrm
    have HM := Lib.hid hM
    have HML := Lib.hid hml
    have HL := Lib.hid hL
    have HB := Lib.hid hB
    have HSUM := Lib.hid hsum
    have HPV := Lib.hid hpv
    have HLE := Lib.hid hle
    have HBC := Lib.hid hbc
    have HMM := Lib.hid hmm
    have HRET := Lib.hid hret
    clear hrm hM hml hL hB hsum hpv hle hF hend hbc hmm hret
    go_upto_if 53 with fail
    rename_i Q1 K1 a1
    have HJ : ∀ F' w'', NcA w D n (x + 5) left m l f1 (.bool pv) (.int .u64 (chB left : Nat)) (.int .i32 (rm : Nat)) (.int .i32 (chT left : Nat)) (.int .i32 (2 ^ (x + 5) - left : Nat)) F' w'' → K1 F' w'' := by
      rintro F' w'' ⟨v3, v7, v9, hF, ⟨m1, bs1, bc1, off1, out1, rfl, rfl, rfl, hM, hm, hoff, hbc, hB, hml, hbm, hle, hsum, hL⟩, hmm⟩
      refine a1 _ _ ?_
      rw [nc_frame hF, ← HRM.out]
      refine nc_t1 E _ _ _ _ _ _ _ _ _ _ _ _ _ _ _ _ _ _ _ _ _ _ _ _ _ _ _ _ _ _ _ _ _ _ _ _ _ _ _ _ _ _ _ _ _ _ _ _ _ _ _ _ _ _ _ _ _ _ _ _ _ _ _ _ _ _ _ _ _ _ _ _ _ _ _ _ _ _ _ _ _ _ _ _ _ _ _ _ _ _ _ _ _ _ _ _ _ _ _ _ _ _ _ _ _ _ _ _ _ _ _ _ _ _ _ _ _ _ _ _ _ _ _ _ _ _ _ _ _ _ _ _ _ _ _ _ _ _ _ _ _ _ _ _ _ _ _ _ _ _ _ _ _ _ _ _ _ _ _ _ _ _ _ _ _ _ _ _ _ _ _ _ _ _ _ _ _ _ _ _ _ _ _ _ _ _ _ _ _ _ _ _ _ _ _ _ _ _ _ _ _ _ _ _ _ _ _ _ _ _ _ _ _ _ _ _ _ _ _ _ _ _ _ _ _ _ _ _ _ _ _ _ _ _ _ _ _ _ _ _ _ _ _ _ _ _ _ _ _ _ _ _ _ _ _ _ _ _ _ _ _ _ _ _ _ _ _ _ _ _ _ _ _ _ _ _ _ _ _ _ _ _ _ _ _ _ _ _ _ _ _ _ _ _ _ _ _ _ _ _ _ _ _ _ _ _ _ _ _ _ _ _ _ _ _ _ _ _ _ _ _ _ _ _ _ _ _ _ _ _ _ hl0 hM hm hoff hbc hB hml hbm hle hsum hL ?_
      rintro F2 w2 ⟨v3, v4, v7, v8, v9, v10, v11, v12, hF2, hR2, hlt⟩
      refine ⟨⟨_, _, _, _, _, _, _, _, hF2, hR2⟩, ?_⟩
      rw [ncMu_of hF2]
      have hmm' : m ≤ m1 := hmm
      have hlt' : m1 < (intOf v3).toNat := hlt
      show 400 - (intOf v3).toNat < 400 - m
      omega
    cases pv with
    | false => exact nc_zf _ _ _ _ _ _ _ _ _ _ _ _ _ _ _ _ _ _ _ _ _ _ _ _ _ _ _ _ _ _ _ _ _ _ _ _ _ _ _ _ _ _ _ _ _ _ _ _ _ _ _ _ _ _ _ _ _ _ _ _ _ _ _ _ _ _ _ _ _ _ _ _ _ _ _ _ _ _ _ _ _ _ _ _ _ _ _ _ _ _ _ _ _ _ _ _ _ _ _ _ _ _ _ _ _ _ _ _ _ _ _ _ _ _ _ _ _ _ _ _ _ _ _ _ _ _ _ _ _ _ _ _ _ _ _ _ _ _ _ _ _ _ _ _ _ _ _ _ _ _ _ _ _ _ _ _ _ _ _ _ _ _ _ _ _ _ _ _ _ _ _ _ _ _ _ _ _ _ _ _ _ _ _ _ _ _ _ _ _ _ _ _ _ _ _ _ _ _ _ _ _ _ _ _ _ _ _ _ _ _ _ _ _ _ _ _ _ _ _ _ _ _ _ _ _ _ _ _ _ _ _ _ _ _ _ _ _ _ _ _ _ _ _ _ _ _ _ _ _ _ _ _ _ _ _ _ _ _ _ _ _ _ _ _ _ _ _ _ _ _ _ _ _ _ _ _ _ _ _ _ _ _ _ _ _ _ _ _ _ _ _ _ _ _ _ _ _ _ _ _ _ _ _ _ _ _ _ _ _ _ _ _ _ _ _ _ _ _ _ _ _ _ _ _ _ _ _ _ _ _ _ _ _ HM.out HML.out (by have := HMM.out; simp at this; omega) hoff HBC.out HB.out hbm HLE.out HSUM.out (fun R hR => (HL.out R hR).1 rfl) HJ
    | true => exact nc_zt E _ _ _ _ _ _ _ _ _ _ _ _ _ _ _ _ _ _ _ _ _ _ _ _ _ _ _ _ _ _ _ _ _ _ _ _ _ _ _ _ _ _ _ _ _ _ _ _ _ _ _ _ _ _ _ _ _ _ _ _ _ _ _ _ _ _ _ _ _ _ _ _ _ _ _ _ _ _ _ _ _ _ _ _ _ _ _ _ _ _ _ _ _ _ _ _ _ _ _ _ _ _ _ _ _ _ _ _ _ _ _ _ _ _ _ _ _ _ _ _ _ _ _ _ _ _ _ _ _ _ _ _ _ _ _ _ _ _ _ _ _ _ _ _ _ _ _ _ _ _ _ _ _ _ _ _ _ _ _ _ _ _ _ _ _ _ _ _ _ _ _ _ _ _ _ _ _ _ _ _ _ _ _ _ _ _ _ _ _ _ _ _ _ _ _ _ _ _ _ _ _ _ _ _ _ _ _ _ _ _ _ _ _ _ _ _ _ _ _ _ _ _ _ _ _ _ _ _ _ _ _ _ _ _ _ _ _ _ _ _ _ _ _ _ _ _ _ _ _ _ _ _ _ _ _ _ _ _ _ _ _ _ _ _ _ _ _ _ _ _ _ _ _ _ _ _ _ _ _ _ _ _ _ _ _ _ _ _ _ _ _ _ _ _ _ _ _ _ _ _ _ _ _ _ _ _ _ _ _ _ _ _ _ _ _ _ _ _ _ _ _ _ _ _ _ _ _ _ _ _ _ _ _ hl0 HM.out HML.out (by have := HMM.out; simp at this; omega) hoff HBC.out HB.out hbm HLE.out HSUM.out (fun R hR => (HL.out R hR).2 rfl) HRET.out HJ
end Go.Proofs.YthkklojjpgjiiaaFmt
namespace Go.Proofs.YthkklojjpgjiiaaFmt
open Go.RowKit Go.Extern.Stop Go.Stop Go.Extern

theorem nc_loop {F : Interp} {w : World} {D : Nat} {A : Option Addr} {n c x : Nat} {l : List UInt8} {f1 : Nat → Value} (E : NcE F w D A n c x l f1) (Q0 : Exit → Act → World → Prop)
    (hret : ∀ F w', NcBad w D l F w' → Q0 .ret F w') (hend : ∀ F w', NcEnd w D n (x + 5) l f1 F w' → Q0 (.exit 0) F w') (F0 : Act) (wr : World) (hI : NcW w D n (x + 5) l f1 F0 wr) :
    Code.wp Tryf.prog (Code.loop ncBody) Q0 F0 wr :=
  wp_loop (NcW w D n (x + 5) l f1) ncMu hI (fun F' w' hI => nc_round E Q0 hret hend F' w' hI)
set_option maxRecDepth 100000 in
theorem nc_bad_frame {w w' : World} {D : Nat} {l : List UInt8} {F : Act} (h : NcBad w D l F w') : ∃ b s, w'.cell? ⟨b, 0, none⟩ = some (.string s) ∧ F = ⟨#[F.tmps.getD 0 undef, F.tmps.getD 1 undef, Value.iface 107 (.pointer (some ⟨b, 0, none⟩)), F.tmps.getD 3 undef, F.tmps.getD 4 undef, F.tmps.getD 5 undef, F.tmps.getD 6 undef, F.tmps.getD 7 undef, F.tmps.getD 8 undef, F.tmps.getD 9 undef, F.tmps.getD 10 undef, F.tmps.getD 11 undef, F.tmps.getD 12 undef, F.tmps.getD 13 undef, F.tmps.getD 14 undef, F.tmps.getD 15 undef, F.tmps.getD 16 undef, F.tmps.getD 17 undef, F.tmps.getD 18 undef, F.tmps.getD 19 undef, F.tmps.getD 20 undef, F.tmps.getD 21 undef, F.tmps.getD 22 undef, F.tmps.getD 23 undef, F.tmps.getD 24 undef, F.tmps.getD 25 undef, F.tmps.getD 26 undef, F.tmps.getD 27 undef, F.tmps.getD 28 undef, F.tmps.getD 29 undef, F.tmps.getD 30 undef, F.tmps.getD 31 undef, F.tmps.getD 32 undef, F.tmps.getD 33 undef, F.tmps.getD 34 undef, F.tmps.getD 35 undef, F.tmps.getD 36 undef, F.tmps.getD 37 undef, F.tmps.getD 38 undef, F.tmps.getD 39 undef, F.tmps.getD 40 undef, F.tmps.getD 41 undef, F.tmps.getD 42 undef, F.tmps.getD 43 undef, F.tmps.getD 44 undef, F.tmps.getD 45 undef, F.tmps.getD 46 undef, F.tmps.getD 47 undef, F.tmps.getD 48 undef, F.tmps.getD 49 undef, F.tmps.getD 50 undef, F.tmps.getD 51 undef, F.tmps.getD 52 undef, F.tmps.getD 53 undef, F.tmps.getD 54 undef, F.tmps.getD 55 undef, F.tmps.getD 56 undef, F.tmps.getD 57 undef, F.tmps.getD 58 undef, F.tmps.getD 59 undef, F.tmps.getD 60 undef, F.tmps.getD 61 undef, F.tmps.getD 62 undef, F.tmps.getD 63 undef, F.tmps.getD 64 undef, F.tmps.getD 65 undef, F.tmps.getD 66 undef, F.tmps.getD 67 undef, F.tmps.getD 68 undef, F.tmps.getD 69 undef, F.tmps.getD 70 undef, F.tmps.getD 71 undef, F.tmps.getD 72 undef, F.tmps.getD 73 undef, F.tmps.getD 74 undef, F.tmps.getD 75 undef, F.tmps.getD 76 undef, F.tmps.getD 77 undef, F.tmps.getD 78 undef, F.tmps.getD 79 undef, F.tmps.getD 80 undef, F.tmps.getD 81 undef, F.tmps.getD 82 undef, F.tmps.getD 83 undef, F.tmps.getD 84 undef, F.tmps.getD 85 undef, F.tmps.getD 86 undef, F.tmps.getD 87 undef, F.tmps.getD 88 undef, F.tmps.getD 89 undef, F.tmps.getD 90 undef, F.tmps.getD 91 undef, F.tmps.getD 92 undef, F.tmps.getD 93 undef, F.tmps.getD 94 undef, F.tmps.getD 95 undef, F.tmps.getD 96 undef, F.tmps.getD 97 undef, F.tmps.getD 98 undef, F.tmps.getD 99 undef, F.tmps.getD 100 undef, F.tmps.getD 101 undef, F.tmps.getD 102 undef, F.tmps.getD 103 undef, F.tmps.getD 104 undef, F.tmps.getD 105 undef, F.tmps.getD 106 undef, F.tmps.getD 107 undef, F.tmps.getD 108 undef, F.tmps.getD 109 undef, F.tmps.getD 110 undef, F.tmps.getD 111 undef, F.tmps.getD 112 undef, F.tmps.getD 113 undef, F.tmps.getD 114 undef, F.tmps.getD 115 undef, F.tmps.getD 116 undef, F.tmps.getD 117 undef, F.tmps.getD 118 undef, F.tmps.getD 119 undef, F.tmps.getD 120 undef, F.tmps.getD 121 undef, F.tmps.getD 122 undef, F.tmps.getD 123 undef, F.tmps.getD 124 undef, F.tmps.getD 125 undef, F.tmps.getD 126 undef, F.tmps.getD 127 undef, F.tmps.getD 128 undef, F.tmps.getD 129 undef, F.tmps.getD 130 undef, F.tmps.getD 131 undef, F.tmps.getD 132 undef, F.tmps.getD 133 undef, F.tmps.getD 134 undef, F.tmps.getD 135 undef, F.tmps.getD 136 undef, F.tmps.getD 137 undef, F.tmps.getD 138 undef, F.tmps.getD 139 undef, F.tmps.getD 140 undef, F.tmps.getD 141 undef, F.tmps.getD 142 undef, F.tmps.getD 143 undef, F.tmps.getD 144 undef, F.tmps.getD 145 undef, F.tmps.getD 146 undef, F.tmps.getD 147 undef, F.tmps.getD 148 undef, F.tmps.getD 149 undef, F.tmps.getD 150 undef, F.tmps.getD 151 undef, F.tmps.getD 152 undef, F.tmps.getD 153 undef, F.tmps.getD 154 undef, F.tmps.getD 155 undef, F.tmps.getD 156 undef, F.tmps.getD 157 undef, F.tmps.getD 158 undef, F.tmps.getD 159 undef, F.tmps.getD 160 undef, F.tmps.getD 161 undef, F.tmps.getD 162 undef, F.tmps.getD 163 undef, F.tmps.getD 164 undef, F.tmps.getD 165 undef, F.tmps.getD 166 undef, F.tmps.getD 167 undef, F.tmps.getD 168 undef, F.tmps.getD 169 undef, F.tmps.getD 170 undef, F.tmps.getD 171 undef, F.tmps.getD 172 undef, F.tmps.getD 173 undef, F.tmps.getD 174 undef, F.tmps.getD 175 undef, F.tmps.getD 176 undef, F.tmps.getD 177 undef, F.tmps.getD 178 undef, F.tmps.getD 179 undef, F.tmps.getD 180 undef, F.tmps.getD 181 undef, F.tmps.getD 182 undef, F.tmps.getD 183 undef, F.tmps.getD 184 undef, F.tmps.getD 185 undef, F.tmps.getD 186 undef, F.tmps.getD 187 undef, F.tmps.getD 188 undef, F.tmps.getD 189 undef, F.tmps.getD 190 undef, F.tmps.getD 191 undef, F.tmps.getD 192 undef, F.tmps.getD 193 undef, F.tmps.getD 194 undef, F.tmps.getD 195 undef, F.tmps.getD 196 undef, F.tmps.getD 197 undef, F.tmps.getD 198 undef, F.tmps.getD 199 undef, F.tmps.getD 200 undef, F.tmps.getD 201 undef, F.tmps.getD 202 undef, F.tmps.getD 203 undef, F.tmps.getD 204 undef, F.tmps.getD 205 undef, F.tmps.getD 206 undef, F.tmps.getD 207 undef, F.tmps.getD 208 undef, F.tmps.getD 209 undef, F.tmps.getD 210 undef, F.tmps.getD 211 undef, F.tmps.getD 212 undef, F.tmps.getD 213 undef, F.tmps.getD 214 undef, F.tmps.getD 215 undef, F.tmps.getD 216 undef, F.tmps.getD 217 undef, F.tmps.getD 218 undef, F.tmps.getD 219 undef, F.tmps.getD 220 undef, F.tmps.getD 221 undef, F.tmps.getD 222 undef, F.tmps.getD 223 undef, F.tmps.getD 224 undef, F.tmps.getD 225 undef, F.tmps.getD 226 undef, F.tmps.getD 227 undef, F.tmps.getD 228 undef, F.tmps.getD 229 undef, F.tmps.getD 230 undef, F.tmps.getD 231 undef, F.tmps.getD 232 undef, F.tmps.getD 233 undef, F.tmps.getD 234 undef, F.tmps.getD 235 undef, F.tmps.getD 236 undef, F.tmps.getD 237 undef, F.tmps.getD 238 undef, F.tmps.getD 239 undef, F.tmps.getD 240 undef, F.tmps.getD 241 undef, F.tmps.getD 242 undef, F.tmps.getD 243 undef, F.tmps.getD 244 undef, F.tmps.getD 245 undef, F.tmps.getD 246 undef, F.tmps.getD 247 undef, F.tmps.getD 248 undef, F.tmps.getD 249 undef, F.tmps.getD 250 undef, F.tmps.getD 251 undef, F.tmps.getD 252 undef, F.tmps.getD 253 undef, F.tmps.getD 254 undef, F.tmps.getD 255 undef, F.tmps.getD 256 undef, F.tmps.getD 257 undef, F.tmps.getD 258 undef, F.tmps.getD 259 undef, F.tmps.getD 260 undef, F.tmps.getD 261 undef, F.tmps.getD 262 undef, F.tmps.getD 263 undef, F.tmps.getD 264 undef, F.tmps.getD 265 undef, F.tmps.getD 266 undef, F.tmps.getD 267 undef, F.tmps.getD 268 undef, F.tmps.getD 269 undef, F.tmps.getD 270 undef, F.tmps.getD 271 undef, F.tmps.getD 272 undef, F.tmps.getD 273 undef, F.tmps.getD 274 undef, F.tmps.getD 275 undef, F.tmps.getD 276 undef, F.tmps.getD 277 undef, F.tmps.getD 278 undef, F.tmps.getD 279 undef, F.tmps.getD 280 undef, F.tmps.getD 281 undef, F.tmps.getD 282 undef, F.tmps.getD 283 undef, F.tmps.getD 284 undef, F.tmps.getD 285 undef, F.tmps.getD 286 undef, F.tmps.getD 287 undef, F.tmps.getD 288 undef, F.tmps.getD 289 undef, F.tmps.getD 290 undef, F.tmps.getD 291 undef, F.tmps.getD 292 undef, F.tmps.getD 293 undef, F.tmps.getD 294 undef, F.tmps.getD 295 undef, F.tmps.getD 296 undef, F.tmps.getD 297 undef, F.tmps.getD 298 undef, F.tmps.getD 299 undef, F.tmps.getD 300 undef, F.tmps.getD 301 undef, F.tmps.getD 302 undef, F.tmps.getD 303 undef, F.tmps.getD 304 undef, F.tmps.getD 305 undef, F.tmps.getD 306 undef, F.tmps.getD 307 undef, F.tmps.getD 308 undef, F.tmps.getD 309 undef, F.tmps.getD 310 undef, F.tmps.getD 311 undef, F.tmps.getD 312 undef, F.tmps.getD 313 undef, F.tmps.getD 314 undef, F.tmps.getD 315 undef, F.tmps.getD 316 undef, F.tmps.getD 317 undef, F.tmps.getD 318 undef, F.tmps.getD 319 undef, F.tmps.getD 320 undef, F.tmps.getD 321 undef, F.tmps.getD 322 undef, F.tmps.getD 323 undef, F.tmps.getD 324 undef, F.tmps.getD 325 undef, F.tmps.getD 326 undef, F.tmps.getD 327 undef, F.tmps.getD 328 undef, F.tmps.getD 329 undef, F.tmps.getD 330 undef, F.tmps.getD 331 undef, F.tmps.getD 332 undef, F.tmps.getD 333 undef, F.tmps.getD 334 undef, F.tmps.getD 335 undef, F.tmps.getD 336 undef, F.tmps.getD 337 undef, F.tmps.getD 338 undef, F.tmps.getD 339 undef], []⟩ := by
  obtain ⟨hd, hs, b, s, h2, hc, _⟩ := h
  refine ⟨b, s, hc, ?_⟩
  have h := arr340 F.tmps hs
  rw [h2] at h
  exact act_ext h hd
set_option maxRecDepth 100000 in
theorem nc_good_frame {w w' : World} {D n lg : Nat} {l : List UInt8} {f1 : Nat → Value} {F : Act} (h : NcGood w D n lg l f1 F w') : F = ⟨#[F.tmps.getD 0 undef, F.tmps.getD 1 undef, Value.nilIface, F.tmps.getD 3 undef, F.tmps.getD 4 undef, F.tmps.getD 5 undef, F.tmps.getD 6 undef, F.tmps.getD 7 undef, F.tmps.getD 8 undef, F.tmps.getD 9 undef, F.tmps.getD 10 undef, F.tmps.getD 11 undef, F.tmps.getD 12 undef, F.tmps.getD 13 undef, F.tmps.getD 14 undef, F.tmps.getD 15 undef, F.tmps.getD 16 undef, F.tmps.getD 17 undef, F.tmps.getD 18 undef, F.tmps.getD 19 undef, F.tmps.getD 20 undef, F.tmps.getD 21 undef, F.tmps.getD 22 undef, F.tmps.getD 23 undef, F.tmps.getD 24 undef, F.tmps.getD 25 undef, F.tmps.getD 26 undef, F.tmps.getD 27 undef, F.tmps.getD 28 undef, F.tmps.getD 29 undef, F.tmps.getD 30 undef, F.tmps.getD 31 undef, F.tmps.getD 32 undef, F.tmps.getD 33 undef, F.tmps.getD 34 undef, F.tmps.getD 35 undef, F.tmps.getD 36 undef, F.tmps.getD 37 undef, F.tmps.getD 38 undef, F.tmps.getD 39 undef, F.tmps.getD 40 undef, F.tmps.getD 41 undef, F.tmps.getD 42 undef, F.tmps.getD 43 undef, F.tmps.getD 44 undef, F.tmps.getD 45 undef, F.tmps.getD 46 undef, F.tmps.getD 47 undef, F.tmps.getD 48 undef, F.tmps.getD 49 undef, F.tmps.getD 50 undef, F.tmps.getD 51 undef, F.tmps.getD 52 undef, F.tmps.getD 53 undef, F.tmps.getD 54 undef, F.tmps.getD 55 undef, F.tmps.getD 56 undef, F.tmps.getD 57 undef, F.tmps.getD 58 undef, F.tmps.getD 59 undef, F.tmps.getD 60 undef, F.tmps.getD 61 undef, F.tmps.getD 62 undef, F.tmps.getD 63 undef, F.tmps.getD 64 undef, F.tmps.getD 65 undef, F.tmps.getD 66 undef, F.tmps.getD 67 undef, F.tmps.getD 68 undef, F.tmps.getD 69 undef, F.tmps.getD 70 undef, F.tmps.getD 71 undef, F.tmps.getD 72 undef, F.tmps.getD 73 undef, F.tmps.getD 74 undef, F.tmps.getD 75 undef, F.tmps.getD 76 undef, F.tmps.getD 77 undef, F.tmps.getD 78 undef, F.tmps.getD 79 undef, F.tmps.getD 80 undef, F.tmps.getD 81 undef, F.tmps.getD 82 undef, F.tmps.getD 83 undef, F.tmps.getD 84 undef, F.tmps.getD 85 undef, F.tmps.getD 86 undef, F.tmps.getD 87 undef, F.tmps.getD 88 undef, F.tmps.getD 89 undef, F.tmps.getD 90 undef, F.tmps.getD 91 undef, F.tmps.getD 92 undef, F.tmps.getD 93 undef, F.tmps.getD 94 undef, F.tmps.getD 95 undef, F.tmps.getD 96 undef, F.tmps.getD 97 undef, F.tmps.getD 98 undef, F.tmps.getD 99 undef, F.tmps.getD 100 undef, F.tmps.getD 101 undef, F.tmps.getD 102 undef, F.tmps.getD 103 undef, F.tmps.getD 104 undef, F.tmps.getD 105 undef, F.tmps.getD 106 undef, F.tmps.getD 107 undef, F.tmps.getD 108 undef, F.tmps.getD 109 undef, F.tmps.getD 110 undef, F.tmps.getD 111 undef, F.tmps.getD 112 undef, F.tmps.getD 113 undef, F.tmps.getD 114 undef, F.tmps.getD 115 undef, F.tmps.getD 116 undef, F.tmps.getD 117 undef, F.tmps.getD 118 undef, F.tmps.getD 119 undef, F.tmps.getD 120 undef, F.tmps.getD 121 undef, F.tmps.getD 122 undef, F.tmps.getD 123 undef, F.tmps.getD 124 undef, F.tmps.getD 125 undef, F.tmps.getD 126 undef, F.tmps.getD 127 undef, F.tmps.getD 128 undef, F.tmps.getD 129 undef, F.tmps.getD 130 undef, F.tmps.getD 131 undef, F.tmps.getD 132 undef, F.tmps.getD 133 undef, F.tmps.getD 134 undef, F.tmps.getD 135 undef, F.tmps.getD 136 undef, F.tmps.getD 137 undef, F.tmps.getD 138 undef, F.tmps.getD 139 undef, F.tmps.getD 140 undef, F.tmps.getD 141 undef, F.tmps.getD 142 undef, F.tmps.getD 143 undef, F.tmps.getD 144 undef, F.tmps.getD 145 undef, F.tmps.getD 146 undef, F.tmps.getD 147 undef, F.tmps.getD 148 undef, F.tmps.getD 149 undef, F.tmps.getD 150 undef, F.tmps.getD 151 undef, F.tmps.getD 152 undef, F.tmps.getD 153 undef, F.tmps.getD 154 undef, F.tmps.getD 155 undef, F.tmps.getD 156 undef, F.tmps.getD 157 undef, F.tmps.getD 158 undef, F.tmps.getD 159 undef, F.tmps.getD 160 undef, F.tmps.getD 161 undef, F.tmps.getD 162 undef, F.tmps.getD 163 undef, F.tmps.getD 164 undef, F.tmps.getD 165 undef, F.tmps.getD 166 undef, F.tmps.getD 167 undef, F.tmps.getD 168 undef, F.tmps.getD 169 undef, F.tmps.getD 170 undef, F.tmps.getD 171 undef, F.tmps.getD 172 undef, F.tmps.getD 173 undef, F.tmps.getD 174 undef, F.tmps.getD 175 undef, F.tmps.getD 176 undef, F.tmps.getD 177 undef, F.tmps.getD 178 undef, F.tmps.getD 179 undef, F.tmps.getD 180 undef, F.tmps.getD 181 undef, F.tmps.getD 182 undef, F.tmps.getD 183 undef, F.tmps.getD 184 undef, F.tmps.getD 185 undef, F.tmps.getD 186 undef, F.tmps.getD 187 undef, F.tmps.getD 188 undef, F.tmps.getD 189 undef, F.tmps.getD 190 undef, F.tmps.getD 191 undef, F.tmps.getD 192 undef, F.tmps.getD 193 undef, F.tmps.getD 194 undef, F.tmps.getD 195 undef, F.tmps.getD 196 undef, F.tmps.getD 197 undef, F.tmps.getD 198 undef, F.tmps.getD 199 undef, F.tmps.getD 200 undef, F.tmps.getD 201 undef, F.tmps.getD 202 undef, F.tmps.getD 203 undef, F.tmps.getD 204 undef, F.tmps.getD 205 undef, F.tmps.getD 206 undef, F.tmps.getD 207 undef, F.tmps.getD 208 undef, F.tmps.getD 209 undef, F.tmps.getD 210 undef, F.tmps.getD 211 undef, F.tmps.getD 212 undef, F.tmps.getD 213 undef, F.tmps.getD 214 undef, F.tmps.getD 215 undef, F.tmps.getD 216 undef, F.tmps.getD 217 undef, F.tmps.getD 218 undef, F.tmps.getD 219 undef, F.tmps.getD 220 undef, F.tmps.getD 221 undef, F.tmps.getD 222 undef, F.tmps.getD 223 undef, F.tmps.getD 224 undef, F.tmps.getD 225 undef, F.tmps.getD 226 undef, F.tmps.getD 227 undef, F.tmps.getD 228 undef, F.tmps.getD 229 undef, F.tmps.getD 230 undef, F.tmps.getD 231 undef, F.tmps.getD 232 undef, F.tmps.getD 233 undef, F.tmps.getD 234 undef, F.tmps.getD 235 undef, F.tmps.getD 236 undef, F.tmps.getD 237 undef, F.tmps.getD 238 undef, F.tmps.getD 239 undef, F.tmps.getD 240 undef, F.tmps.getD 241 undef, F.tmps.getD 242 undef, F.tmps.getD 243 undef, F.tmps.getD 244 undef, F.tmps.getD 245 undef, F.tmps.getD 246 undef, F.tmps.getD 247 undef, F.tmps.getD 248 undef, F.tmps.getD 249 undef, F.tmps.getD 250 undef, F.tmps.getD 251 undef, F.tmps.getD 252 undef, F.tmps.getD 253 undef, F.tmps.getD 254 undef, F.tmps.getD 255 undef, F.tmps.getD 256 undef, F.tmps.getD 257 undef, F.tmps.getD 258 undef, F.tmps.getD 259 undef, F.tmps.getD 260 undef, F.tmps.getD 261 undef, F.tmps.getD 262 undef, F.tmps.getD 263 undef, F.tmps.getD 264 undef, F.tmps.getD 265 undef, F.tmps.getD 266 undef, F.tmps.getD 267 undef, F.tmps.getD 268 undef, F.tmps.getD 269 undef, F.tmps.getD 270 undef, F.tmps.getD 271 undef, F.tmps.getD 272 undef, F.tmps.getD 273 undef, F.tmps.getD 274 undef, F.tmps.getD 275 undef, F.tmps.getD 276 undef, F.tmps.getD 277 undef, F.tmps.getD 278 undef, F.tmps.getD 279 undef, F.tmps.getD 280 undef, F.tmps.getD 281 undef, F.tmps.getD 282 undef, F.tmps.getD 283 undef, F.tmps.getD 284 undef, F.tmps.getD 285 undef, F.tmps.getD 286 undef, F.tmps.getD 287 undef, F.tmps.getD 288 undef, F.tmps.getD 289 undef, F.tmps.getD 290 undef, F.tmps.getD 291 undef, F.tmps.getD 292 undef, F.tmps.getD 293 undef, F.tmps.getD 294 undef, F.tmps.getD 295 undef, F.tmps.getD 296 undef, F.tmps.getD 297 undef, F.tmps.getD 298 undef, F.tmps.getD 299 undef, F.tmps.getD 300 undef, F.tmps.getD 301 undef, F.tmps.getD 302 undef, F.tmps.getD 303 undef, F.tmps.getD 304 undef, F.tmps.getD 305 undef, F.tmps.getD 306 undef, F.tmps.getD 307 undef, F.tmps.getD 308 undef, F.tmps.getD 309 undef, F.tmps.getD 310 undef, F.tmps.getD 311 undef, F.tmps.getD 312 undef, F.tmps.getD 313 undef, F.tmps.getD 314 undef, F.tmps.getD 315 undef, F.tmps.getD 316 undef, F.tmps.getD 317 undef, F.tmps.getD 318 undef, F.tmps.getD 319 undef, F.tmps.getD 320 undef, F.tmps.getD 321 undef, F.tmps.getD 322 undef, F.tmps.getD 323 undef, F.tmps.getD 324 undef, F.tmps.getD 325 undef, F.tmps.getD 326 undef, F.tmps.getD 327 undef, F.tmps.getD 328 undef, F.tmps.getD 329 undef, F.tmps.getD 330 undef, F.tmps.getD 331 undef, F.tmps.getD 332 undef, F.tmps.getD 333 undef, F.tmps.getD 334 undef, F.tmps.getD 335 undef, F.tmps.getD 336 undef, F.tmps.getD 337 undef, F.tmps.getD 338 undef, F.tmps.getD 339 undef], []⟩ := by
  obtain ⟨hd, hs, h2, _⟩ := h
  have h := arr340 F.tmps hs
  rw [h2] at h
  exact act_ext h hd
set_option maxRecDepth 100000 in
set_option maxHeartbeats 6400000 in
theorem readNCount_any {w : World} {D : Nat} {A : Option Addr} {n c : Nat} {l : List UInt8} {f : Nat → Value} (F : Interp) (hF : F.answers w.tape) (hr : RowF w D 98 534 f) (h512 : f 512 = .slice A n c) (h513 : f 513 = .int .i64 (0 : Nat))
    (hs : Sl w D A n c l) (hn : n ≤ 127) (hlog : 4 ≤ n → numF l 0 4 ≤ 1) :
    Calls Tryf.prog 44 #[.pointer (some ⟨D, 0, none⟩)] w (NcPost w D n (numF l 0 4 + 5) f l) := by
  have hnl := hs.len
  have hDw : D < w.heap.size := hr.lt
  have q0 : w.cell? ⟨D, 512, none⟩ = some (.slice A n c) := hr.cellv _ (by omega) _ h512
  have q1 : w.cell? ⟨D, 513, none⟩ = some (.int .i64 (0 : Nat)) := hr.cellv _ (by omega) _ h513
  have KR := Lib.hid (remain_any A n c (0 : Nat) w (by omega) (by omega) (by omega))
  have HR := Lib.hid hr
  have HS := Lib.hid hs
  have H512 := Lib.hid h512
  have H513 := Lib.hid h513
  have HNL := Lib.hid hnl
  have HN := Lib.hid hn
  have HDW := Lib.hid hDw
  have HF := Lib.hid hF
  by_cases h4 : n < 4
  · have hd4 : decide ((n : Int) - 0 < 4) = true := decide_eq_true (by omega)
    have hd4' : (n : Int) < 4 := by omega
    have H4 := Lib.hid h4
    clear hs hr h512 h513 hnl hn hDw hlog hF h4
    go_enter Tryf.func44, Tryf.ntmps44
    go_wp2_with fail
    refine KR.out.mono ?_
    rintro e w1 ⟨rfl, hb1⟩
    have HB1 := Lib.hid hb1
    clear hb1
    go_wp2_with fail
    refine (errorsNew_any _ _).mono ?_
    rintro e w2 he
    obtain ⟨⟨b, s, rfl, hc⟩, hon⟩ := errE_of he
    have HC := Lib.hid hc
    have HON := Lib.hid hon
    clear he hc hon
    go_wp2_with fail
    go_ret
    exact .inl ⟨⟨b, s, rfl, HC.out⟩, (Only.of_below HB1.out (fun k hk _ => hk)).trans (HON.out.mono (fun _ h => h.elim)), fun R _ => .inr (.inr (.inl (by rw [HNL.out]; exact H4.out)))⟩
  · have hd4 : decide ((n : Int) - 0 < 4) = false := decide_eq_false (by omega)
    have hd4' : (4 : Int) ≤ (n : Int) := by omega
    obtain ⟨x, hx⟩ : ∃ x, numF l 0 4 = x := ⟨_, rfl⟩
    have hx1 : x ≤ 1 := by rw [← hx]; exact hlog (by omega)
    have HX := Lib.hid hx
    obtain ⟨W, hW⟩ : ∃ W, numF l (8 * 0) 32 = W := ⟨_, rfl⟩
    have hW32 : W < 4294967296 := by rw [← hW]; exact numF_lt _ _ _
    have hWx : W % 2 ^ 4 = x := by rw [← hW, ← hx]; exact numF_mod_le l 0 4 32 (by omega)
    have hm15 := and_u32 W 4 hW32 (by omega) 15 (by decide)
    rw [hWx] at hm15
    have HWW := Lib.hid hW
    rw [hx]
    have hlg15 : ¬ (15 : Int) < (x : Int) + 5 := by omega
    obtain ⟨P, hP⟩ : ∃ P : Nat, 2 ^ (x + 5) = P := ⟨_, rfl⟩
    have hP32 : (P = 32 ∧ x = 0) ∨ (P = 64 ∧ x = 1) := by
      rcases (show x = 0 ∨ x = 1 by omega) with e | e <;> subst e <;> simp at hP <;> omega
    clear hs hr h512 h513 hnl hn hDw hlog hF h4 hx hW hWx
    go_enter Tryf.func44, Tryf.ntmps44
    go_wp2_with fail
    refine KR.out.mono ?_
    rintro e w1 ⟨rfl, hb1⟩
    have hs1 := HS.out.below (hb1.mono (Nat.le_of_lt HDW.out))
    have hr1 := HR.out.below hb1 HDW.out
    have q0 : w1.cell? ⟨D, 512, none⟩ = some (.slice A n c) := hr1.cellv _ (by omega) _ H512.out
    have q1 : w1.cell? ⟨D, 513, none⟩ = some (.int .i64 (0 : Nat)) := hr1.cellv _ (by omega) _ H513.out
    have KU := Lib.hid (uint32_any hs1 (Nat.le_trans (Nat.le_of_lt HDW.out) hb1.size) 0 (by omega) (by have := HN.out; omega) (0 : Nat) rfl)
    rw [HWW.out] at KU
    have HB1 := Lib.hid hb1
    have HR1 := Lib.hid hr1
    clear hs1 hr1 hb1
    go_wp2_with fail
    refine KU.out.mono ?_
    rintro e w2 ⟨rfl, hb2⟩
    have hr2 := HR1.out.below hb2 HR1.out.lt
    have q0 : w2.cell? ⟨D, 512, none⟩ = some (.slice A n c) := hr2.cellv _ (by omega) _ H512.out
    have q1 : w2.cell? ⟨D, 513, none⟩ = some (.int .i64 (0 : Nat)) := hr2.cellv _ (by omega) _ H513.out
    have q2 : w2.cell? ⟨D, 529, none⟩ = some (f 529) := hr2.cell _ (by omega)
    have f2 : w2.frozen? ⟨D, 529, none⟩ = false := hr2.frozen _
    have HR2 := Lib.hid hr2
    have HB2 := Lib.hid hb2
    clear hr2 hb2
    go_wp2_with fail
    have hM0 : NcM w D (updV f 529 (.int .u8 (x + 5 : Nat))) 0 [] (w2.setCell ⟨D, 529, none⟩ (.int .u8 ((x : Int) + 5))) :=
      ⟨_, HR2.out.set_ 529 _, fun k _ _ => by rfl, by rw [updV_ne _ _ _ _ (by omega)]; exact H513.out, fun _ i hi => by simp at hi, (((Only.of_below HB1.out (fun k hk _ => hk)).trans (Only.of_below HB2.out (fun k hk _ => hk))) : Only (· = D) w w2).set_ (p := ⟨D, 529, none⟩) rfl _⟩
    have HM0 := Lib.hid hM0
    have HP := Lib.hid hP
    have HP32 := Lib.hid hP32
    clear hM0 hP hP32
    have HE : Hid (NcE F w D A n c x l (updV f 529 (.int .u8 (x + 5 : Nat)))) := Lib.hid ⟨HF.out, by rw [updV_ne _ _ _ _ (by omega)]; exact H512.out, HS.out, HNL.out, HN.out, HDW.out, by omega, HX.out, hx1⟩
    rename_i K1 a1
    refine nc_loop HE.out _ ?_ ?_ _ _ ⟨_, _, _, _, _, _, _, _, ⟨rfl, rfl, rfl, rfl, rfl, rfl, rfl, rfl, rfl, rfl, rfl, rfl, rfl⟩, ?_⟩
    · intro F' w' hB
      obtain ⟨b, s, hc, hF'⟩ := nc_bad_frame hB
      rw [hF']
      have HC := Lib.hid hc
      have HB := Lib.hid hB
      clear hc hB hF'
      go_wp2_with fail
      go_ret
      exact .inl ⟨⟨b, s, rfl, HC.out⟩, HB.out.2.2.choose_spec.choose_spec.2.2.1, HB.out.2.2.choose_spec.choose_spec.2.2.2⟩
    · intro F' w' hE
      refine a1 _ _ (nc_end HE.out (updV_same _ _ _) _ ?_ ?_ F' w' hE)
      · intro F' w' hB
        obtain ⟨b, s, hc, hF'⟩ := nc_bad_frame hB
        rw [hF']
        have HC := Lib.hid hc
        have HB := Lib.hid hB
        clear hc hB hF'
        go_wp2_with fail
        go_ret
        exact .inl ⟨⟨b, s, rfl, HC.out⟩, HB.out.2.2.choose_spec.choose_spec.2.2.1, HB.out.2.2.choose_spec.choose_spec.2.2.2⟩
      · intro F' w' hG
        rw [nc_good_frame hG]
        have HG := Lib.hid hG
        clear hG
        go_wp2_with fail
        go_ret
        obtain ⟨_, _, _, out, off, ⟨f3, h1, h2, h3, h4, h5⟩, g1, g2, g3, g4, g5, g6⟩ := HG.out
        refine .inr ⟨rfl, out, off, f3, h1, h5, fun k hk hk2 hk3 hk4 => ?_, h3, ?_, ?_, h4 g4, g1, g2, g3, g4, g5, g6⟩
        · rw [h2 k hk hk4, updV_ne _ _ _ _ hk2, updV_ne _ _ _ _ hk3]
        · rw [h2 528 (by omega) (by omega), updV_same]
        · rw [h2 529 (by omega) (by omega), updV_ne _ _ _ _ (by omega), updV_same]
    ·
      have hp := HP.out
      refine ⟨0, false, W / 2 ^ 4, 4, P, 0, [], rfl, rfl, ?_, ?_, rfl, ?_, ?_, ?_, HM0.out, rfl, by omega, fun _ => by omega, ?_, ?_, by omega, (fun x hx => by cases hx), ?_, (fun h => by cases h), fun R hR => ⟨fun _ => ?_, (fun h => by cases h)⟩⟩
      · exact congrArg (Value.int .u32) (by simp)
      · rcases HP32.out with ⟨rfl, rfl⟩ | ⟨rfl, rfl⟩ <;> exact congrArg (Value.int .u64) (by decide)
      · rcases HP32.out with ⟨rfl, rfl⟩ | ⟨rfl, rfl⟩ <;> exact congrArg (Value.int .i32) (by unfold wrap32; decide)
      · rcases HP32.out with ⟨rfl, rfl⟩ | ⟨rfl, rfl⟩ <;> exact congrArg (Value.int .i32) (by unfold wrap32; decide)
      · exact congrArg (Value.int .i32) (by rw [hp, Nat.sub_self]; rfl)
      · have := Bs.load l 0 4 (by rw [HNL.out]; omega) (fun _ => by omega)
        rw [HWW.out] at this
        exact this
      · rcases HP32.out with ⟨rfl, rfl⟩ | ⟨rfl, rfl⟩ <;> simp
      · simp [sumA, hp]
      · rcases hR with ⟨h, _⟩ | ⟨_, _, h⟩
        · rcases h with h | h
          · have := HNL.out; rw [h] at this; simp at this; omega
          · rw [HX.out] at h; omega
        · rw [HX.out, hp] at h
          exact .inr h
end Go.Proofs.YthkklojjpgjiiaaFmt
