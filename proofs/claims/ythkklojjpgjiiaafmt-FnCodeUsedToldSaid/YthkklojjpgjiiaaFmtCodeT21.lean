/-
  huff0's buildCTable: nodes by their fields, the loops taken out of the translation. Definitions and plain lemmas.
  huff0's buildCTable: the memory while codes are given. Definitions and plain lemmas.
  Parts of a block: an array in a struct is loaded, stored; copy of a slice of structs with two cells. Plain laws on the walk; conditions: those of each.
-/
import Derived.Test.YthkklojjpgjiiaaFmtCodeT19
import Derived.Test.YthkklojjpgjiiaaFmtCodeT20
import Derived.Laws.CopyRow
import Derived.Lib.SlBuf
namespace Go.Proofs.YthkklojjpgjiiaaFmt
open Go.RowKit

/-- nodes by their fields -/
def NQ (ct pa sy bt : Nat → Nat) (k : Nat) : Nat := nd (ct k) (pa k) (sy k) (bt k)
def NqB (ct pa sy bt : Nat → Nat) : Prop := ∀ k, ct k < 4294967296 ∧ pa k < 32768 ∧ sy k < 256 ∧ bt k < 256
section
variable {ct pa sy bt : Nat → Nat} {j v : Nat}
theorem NQ_ct (ct pa sy bt : Nat → Nat) (j v : Nat) : ∀ k, k < 513 → updV (ndV (NQ ct pa sy bt)) j (.int .u64 (nd v (pa j) (sy j) (bt j) : Nat)) k = ndV (NQ (updN ct j v) pa sy bt) k := fun k _ => by
  unfold updV ndV NQ updN
  by_cases e : k = j
  · rw [if_pos e, e, if_pos rfl]
  · rw [if_neg e, if_neg e]
theorem NQ_pa (ct pa sy bt : Nat → Nat) (j v : Nat) : ∀ k, k < 513 → updV (ndV (NQ ct pa sy bt)) j (.int .u64 (nd (ct j) v (sy j) (bt j) : Nat)) k = ndV (NQ ct (updN pa j v) sy bt) k := fun k _ => by
  unfold updV ndV NQ updN
  by_cases e : k = j
  · rw [if_pos e, e, if_pos rfl]
  · rw [if_neg e, if_neg e]
theorem NQ_bt (ct pa sy bt : Nat → Nat) (j v : Nat) : ∀ k, k < 513 → updV (ndV (NQ ct pa sy bt)) j (.int .u64 (nd (ct j) (pa j) (sy j) v : Nat)) k = ndV (NQ ct pa sy (updN bt j v)) k := fun k _ => by
  unfold updV ndV NQ updN
  by_cases e : k = j
  · rw [if_pos e, e, if_pos rfl]
  · rw [if_neg e, if_neg e]
theorem NqB.setc (h : NqB ct pa sy bt) (j : Nat) (hv : v < 4294967296) : NqB (updN ct j v) pa sy bt := fun k => by
  have := h k
  unfold updN
  split <;> omega
theorem NqB.setp (h : NqB ct pa sy bt) (j : Nat) (hv : v < 32768) : NqB ct (updN pa j v) sy bt := fun k => by
  have := h k
  unfold updN
  split <;> omega
theorem NqB.setb (h : NqB ct pa sy bt) (j : Nat) (hv : v < 256) : NqB ct pa sy (updN bt j v) := fun k => by
  have := h k
  unfold updN
  split <;> omega
end
/-- the memory while the tree is made -/
structure BtW (w : World) (H G : Nat) (f : Nat → Value) (ct pa sy bt : Nat → Nat) (wr : World) : Prop where
  h : RowF wr H 58 540 f
  g : RowF wr G 110 513 (ndV (NQ ct pa sy bt))
  only : Only (fun k => k = H ∨ k = G ∨ w.heap.size ≤ k) w wr
  nb : NqB ct pa sy bt
section
variable {w wr : World} {H G : Nat} {f : Nat → Value} {ct pa sy bt : Nat → Nat}
theorem BtW.cell (h : BtW w H G f ct pa sy bt wr) (k : Nat) (hk : k < 513) : wr.cell? ⟨G, k, none⟩ = some (.int .u64 (nd (ct k) (pa k) (sy k) (bt k) : Nat)) := h.g.cell k hk
theorem BtW.drewN (h : BtW w H G f ct pa sy bt wr) (q : Nat) : BtW w H G f ct pa sy bt (wr.drewN q) := ⟨h.h.drewN q, h.g.drewN q, h.only.drewN q, h.nb⟩
theorem BtW.setC (h : BtW w H G f ct pa sy bt wr) (hHG : H ≠ G) (j v : Nat) (hv : v < 4294967296) : BtW w H G f (updN ct j v) pa sy bt (wr.setCell ⟨G, j, none⟩ (.int .u64 (nd v (pa j) (sy j) (bt j) : Nat))) :=
  ⟨h.h.other _ (show G ≠ H from fun e => hHG e.symm), (h.g.set_ j _).congr (NQ_ct _ _ _ _ _ _), h.only.set_ (p := ⟨G, j, none⟩) (.inr (.inl rfl)) _, h.nb.setc j hv⟩
theorem BtW.setP (h : BtW w H G f ct pa sy bt wr) (hHG : H ≠ G) (j v : Nat) (hv : v < 32768) : BtW w H G f ct (updN pa j v) sy bt (wr.setCell ⟨G, j, none⟩ (.int .u64 (nd (ct j) v (sy j) (bt j) : Nat))) :=
  ⟨h.h.other _ (show G ≠ H from fun e => hHG e.symm), (h.g.set_ j _).congr (NQ_pa _ _ _ _ _ _), h.only.set_ (p := ⟨G, j, none⟩) (.inr (.inl rfl)) _, h.nb.setp j hv⟩
theorem BtW.setB (h : BtW w H G f ct pa sy bt wr) (hHG : H ≠ G) (j v : Nat) (hv : v < 256) : BtW w H G f ct pa sy (updN bt j v) (wr.setCell ⟨G, j, none⟩ (.int .u64 (nd (ct j) (pa j) (sy j) v : Nat))) :=
  ⟨h.h.other _ (show G ≠ H from fun e => hHG e.symm), (h.g.set_ j _).congr (NQ_bt _ _ _ _ _ _), h.only.set_ (p := ⟨G, j, none⟩) (.inr (.inl rfl)) _, h.nb.setb j hv⟩
/-- the calls at node k -/
theorem BtW.count (h : BtW w H G f ct pa sy bt wr) (k : Nat) (hk : k < 513) : Calls Tryf.prog 28 #[.pointer (some ⟨G, k, none⟩)] wr fun e w' => e = .returned (.int .u32 (ct k : Nat)) ∧ w' = wr :=
  ndCount_any (h.cell k hk) (h.nb k).1 (by have := h.nb k; omega) (h.nb k).2.2.1 (h.nb k).2.2.2
theorem BtW.parent (h : BtW w H G f ct pa sy bt wr) (k : Nat) (hk : k < 513) : Calls Tryf.prog 32 #[.pointer (some ⟨G, k, none⟩)] wr fun e w' => e = .returned (.int .u16 (pa k : Nat)) ∧ w' = wr :=
  ndParent_any (h.cell k hk) (h.nb k).1 (by have := h.nb k; omega) (h.nb k).2.2.1 (h.nb k).2.2.2
theorem BtW.nbBits (h : BtW w H G f ct pa sy bt wr) (k : Nat) (hk : k < 513) : Calls Tryf.prog 33 #[.pointer (some ⟨G, k, none⟩)] wr fun e w' => e = .returned (.int .u8 (bt k : Nat)) ∧ w' = wr :=
  ndNbBits_any (h.cell k hk) (h.nb k).1 (by have := h.nb k; omega) (h.nb k).2.2.1 (h.nb k).2.2.2
theorem BtW.setCount (h : BtW w H G f ct pa sy bt wr) (hHG : H ≠ G) (k v : Nat) (hk : k < 513) (hv : v < 4294967296) : Calls Tryf.prog 29 #[.pointer (some ⟨G, k, none⟩), .int .u32 (v : Nat)] wr fun e w' => e = .returned (.tuple #[]) ∧ BtW w H G f (updN ct k v) pa sy bt w' :=
  (ndSetCount_any (h.cell k hk) (h.g.frozen k) (h.nb k).1 (by have := h.nb k; omega) (h.nb k).2.2.1 (h.nb k).2.2.2 v hv).mono fun e w' ⟨h1, h2⟩ => ⟨h1, h2 ▸ h.setC hHG k v hv⟩
theorem BtW.setParent (h : BtW w H G f ct pa sy bt wr) (hHG : H ≠ G) (k v : Nat) (hk : k < 513) (hv : v < 32768) : Calls Tryf.prog 30 #[.pointer (some ⟨G, k, none⟩), .int .i16 (v : Nat)] wr fun e w' => e = .returned (.tuple #[]) ∧ BtW w H G f ct (updN pa k v) sy bt w' :=
  (ndSetParent_any (h.cell k hk) (h.g.frozen k) (h.nb k).1 (by have := h.nb k; omega) (h.nb k).2.2.1 (h.nb k).2.2.2 v hv).mono fun e w' ⟨h1, h2⟩ => ⟨h1, h2 ▸ h.setP hHG k v hv⟩
theorem BtW.setNbBits (h : BtW w H G f ct pa sy bt wr) (hHG : H ≠ G) (k v : Nat) (hk : k < 513) (hv : v < 256) : Calls Tryf.prog 31 #[.pointer (some ⟨G, k, none⟩), .int .u8 (v : Nat)] wr fun e w' => e = .returned (.tuple #[]) ∧ BtW w H G f ct pa sy (updN bt k v) w' :=
  (ndSetNbBits_any (h.cell k hk) (h.g.frozen k) (h.nb k).1 (by have := h.nb k; omega) (h.nb k).2.2.1 (h.nb k).2.2.2 v hv).mono fun e w' ⟨h1, h2⟩ => ⟨h1, h2 ▸ h.setB hHG k v hv⟩
end
theorem wrap16 (x : Int) (h1 : -32768 ≤ x) (h2 : x < 32768) : IntKind.i16.wrap x = x := by
  simp [IntKind.wrap, IntKind.bits, IntKind.signed]
  omega
noncomputable def btLoops : List Code := cuLoops ((Tryf.f19.body).getD .skip)
noncomputable def btL6 : Code := btLoops.getD 3 .skip
noncomputable def btL8 : Code := btLoops.getD 4 .skip
noncomputable def btL10 : Code := btLoops.getD 5 .skip
noncomputable def btL12 : Code := btLoops.getD 6 .skip
noncomputable def btL14 : Code := btLoops.getD 7 .skip
noncomputable def btL16 : Code := btLoops.getD 8 .skip
noncomputable def btL18 : Code := btLoops.getD 9 .skip
noncomputable def btB6 : Code := cuI btL6
noncomputable def btC6 : Code := cuI (cuR btB6)
noncomputable def btT6 : Code := cuR (cuR (cuR btC6))
noncomputable def btP2 : Code := cuR (cuR btC6)
set_option maxRecDepth 100000 in
theorem arr358 (a : Array Value) (h : a.size = 358) : a = #[a.getD 0 undef, a.getD 1 undef, a.getD 2 undef, a.getD 3 undef, a.getD 4 undef, a.getD 5 undef, a.getD 6 undef, a.getD 7 undef, a.getD 8 undef, a.getD 9 undef, a.getD 10 undef, a.getD 11 undef, a.getD 12 undef, a.getD 13 undef, a.getD 14 undef, a.getD 15 undef, a.getD 16 undef, a.getD 17 undef, a.getD 18 undef, a.getD 19 undef, a.getD 20 undef, a.getD 21 undef, a.getD 22 undef, a.getD 23 undef, a.getD 24 undef, a.getD 25 undef, a.getD 26 undef, a.getD 27 undef, a.getD 28 undef, a.getD 29 undef, a.getD 30 undef, a.getD 31 undef, a.getD 32 undef, a.getD 33 undef, a.getD 34 undef, a.getD 35 undef, a.getD 36 undef, a.getD 37 undef, a.getD 38 undef, a.getD 39 undef, a.getD 40 undef, a.getD 41 undef, a.getD 42 undef, a.getD 43 undef, a.getD 44 undef, a.getD 45 undef, a.getD 46 undef, a.getD 47 undef, a.getD 48 undef, a.getD 49 undef, a.getD 50 undef, a.getD 51 undef, a.getD 52 undef, a.getD 53 undef, a.getD 54 undef, a.getD 55 undef, a.getD 56 undef, a.getD 57 undef, a.getD 58 undef, a.getD 59 undef, a.getD 60 undef, a.getD 61 undef, a.getD 62 undef, a.getD 63 undef, a.getD 64 undef, a.getD 65 undef, a.getD 66 undef, a.getD 67 undef, a.getD 68 undef, a.getD 69 undef, a.getD 70 undef, a.getD 71 undef, a.getD 72 undef, a.getD 73 undef, a.getD 74 undef, a.getD 75 undef, a.getD 76 undef, a.getD 77 undef, a.getD 78 undef, a.getD 79 undef, a.getD 80 undef, a.getD 81 undef, a.getD 82 undef, a.getD 83 undef, a.getD 84 undef, a.getD 85 undef, a.getD 86 undef, a.getD 87 undef, a.getD 88 undef, a.getD 89 undef, a.getD 90 undef, a.getD 91 undef, a.getD 92 undef, a.getD 93 undef, a.getD 94 undef, a.getD 95 undef, a.getD 96 undef, a.getD 97 undef, a.getD 98 undef, a.getD 99 undef, a.getD 100 undef, a.getD 101 undef, a.getD 102 undef, a.getD 103 undef, a.getD 104 undef, a.getD 105 undef, a.getD 106 undef, a.getD 107 undef, a.getD 108 undef, a.getD 109 undef, a.getD 110 undef, a.getD 111 undef, a.getD 112 undef, a.getD 113 undef, a.getD 114 undef, a.getD 115 undef, a.getD 116 undef, a.getD 117 undef, a.getD 118 undef, a.getD 119 undef, a.getD 120 undef, a.getD 121 undef, a.getD 122 undef, a.getD 123 undef, a.getD 124 undef, a.getD 125 undef, a.getD 126 undef, a.getD 127 undef, a.getD 128 undef, a.getD 129 undef, a.getD 130 undef, a.getD 131 undef, a.getD 132 undef, a.getD 133 undef, a.getD 134 undef, a.getD 135 undef, a.getD 136 undef, a.getD 137 undef, a.getD 138 undef, a.getD 139 undef, a.getD 140 undef, a.getD 141 undef, a.getD 142 undef, a.getD 143 undef, a.getD 144 undef, a.getD 145 undef, a.getD 146 undef, a.getD 147 undef, a.getD 148 undef, a.getD 149 undef, a.getD 150 undef, a.getD 151 undef, a.getD 152 undef, a.getD 153 undef, a.getD 154 undef, a.getD 155 undef, a.getD 156 undef, a.getD 157 undef, a.getD 158 undef, a.getD 159 undef, a.getD 160 undef, a.getD 161 undef, a.getD 162 undef, a.getD 163 undef, a.getD 164 undef, a.getD 165 undef, a.getD 166 undef, a.getD 167 undef, a.getD 168 undef, a.getD 169 undef, a.getD 170 undef, a.getD 171 undef, a.getD 172 undef, a.getD 173 undef, a.getD 174 undef, a.getD 175 undef, a.getD 176 undef, a.getD 177 undef, a.getD 178 undef, a.getD 179 undef, a.getD 180 undef, a.getD 181 undef, a.getD 182 undef, a.getD 183 undef, a.getD 184 undef, a.getD 185 undef, a.getD 186 undef, a.getD 187 undef, a.getD 188 undef, a.getD 189 undef, a.getD 190 undef, a.getD 191 undef, a.getD 192 undef, a.getD 193 undef, a.getD 194 undef, a.getD 195 undef, a.getD 196 undef, a.getD 197 undef, a.getD 198 undef, a.getD 199 undef, a.getD 200 undef, a.getD 201 undef, a.getD 202 undef, a.getD 203 undef, a.getD 204 undef, a.getD 205 undef, a.getD 206 undef, a.getD 207 undef, a.getD 208 undef, a.getD 209 undef, a.getD 210 undef, a.getD 211 undef, a.getD 212 undef, a.getD 213 undef, a.getD 214 undef, a.getD 215 undef, a.getD 216 undef, a.getD 217 undef, a.getD 218 undef, a.getD 219 undef, a.getD 220 undef, a.getD 221 undef, a.getD 222 undef, a.getD 223 undef, a.getD 224 undef, a.getD 225 undef, a.getD 226 undef, a.getD 227 undef, a.getD 228 undef, a.getD 229 undef, a.getD 230 undef, a.getD 231 undef, a.getD 232 undef, a.getD 233 undef, a.getD 234 undef, a.getD 235 undef, a.getD 236 undef, a.getD 237 undef, a.getD 238 undef, a.getD 239 undef, a.getD 240 undef, a.getD 241 undef, a.getD 242 undef, a.getD 243 undef, a.getD 244 undef, a.getD 245 undef, a.getD 246 undef, a.getD 247 undef, a.getD 248 undef, a.getD 249 undef, a.getD 250 undef, a.getD 251 undef, a.getD 252 undef, a.getD 253 undef, a.getD 254 undef, a.getD 255 undef, a.getD 256 undef, a.getD 257 undef, a.getD 258 undef, a.getD 259 undef, a.getD 260 undef, a.getD 261 undef, a.getD 262 undef, a.getD 263 undef, a.getD 264 undef, a.getD 265 undef, a.getD 266 undef, a.getD 267 undef, a.getD 268 undef, a.getD 269 undef, a.getD 270 undef, a.getD 271 undef, a.getD 272 undef, a.getD 273 undef, a.getD 274 undef, a.getD 275 undef, a.getD 276 undef, a.getD 277 undef, a.getD 278 undef, a.getD 279 undef, a.getD 280 undef, a.getD 281 undef, a.getD 282 undef, a.getD 283 undef, a.getD 284 undef, a.getD 285 undef, a.getD 286 undef, a.getD 287 undef, a.getD 288 undef, a.getD 289 undef, a.getD 290 undef, a.getD 291 undef, a.getD 292 undef, a.getD 293 undef, a.getD 294 undef, a.getD 295 undef, a.getD 296 undef, a.getD 297 undef, a.getD 298 undef, a.getD 299 undef, a.getD 300 undef, a.getD 301 undef, a.getD 302 undef, a.getD 303 undef, a.getD 304 undef, a.getD 305 undef, a.getD 306 undef, a.getD 307 undef, a.getD 308 undef, a.getD 309 undef, a.getD 310 undef, a.getD 311 undef, a.getD 312 undef, a.getD 313 undef, a.getD 314 undef, a.getD 315 undef, a.getD 316 undef, a.getD 317 undef, a.getD 318 undef, a.getD 319 undef, a.getD 320 undef, a.getD 321 undef, a.getD 322 undef, a.getD 323 undef, a.getD 324 undef, a.getD 325 undef, a.getD 326 undef, a.getD 327 undef, a.getD 328 undef, a.getD 329 undef, a.getD 330 undef, a.getD 331 undef, a.getD 332 undef, a.getD 333 undef, a.getD 334 undef, a.getD 335 undef, a.getD 336 undef, a.getD 337 undef, a.getD 338 undef, a.getD 339 undef, a.getD 340 undef, a.getD 341 undef, a.getD 342 undef, a.getD 343 undef, a.getD 344 undef, a.getD 345 undef, a.getD 346 undef, a.getD 347 undef, a.getD 348 undef, a.getD 349 undef, a.getD 350 undef, a.getD 351 undef, a.getD 352 undef, a.getD 353 undef, a.getD 354 undef, a.getD 355 undef, a.getD 356 undef, a.getD 357 undef] := by
  have := arr_rangeC a 358 h
  exact this
def BtF (H G S N rt : Nat) (v6 v9 v11 : Value) (F : Act) : Prop := F.defers = [] ∧ F.tmps.size = 358 ∧ F.tmps.getD 0 undef = .pointer (some ⟨H, 0, none⟩) ∧ F.tmps.getD 4 undef = .int .i16 (S : Nat) ∧ F.tmps.getD 5 undef = .int .u16 (N : Nat) ∧ F.tmps.getD 6 undef = v6 ∧ F.tmps.getD 7 undef = .slice (some ⟨G, 1, none⟩) 512 512 ∧ F.tmps.getD 8 undef = .slice (some ⟨G, 0, none⟩) 513 513 ∧ F.tmps.getD 9 undef = v9 ∧ F.tmps.getD 10 undef = .int .i16 (rt : Nat) ∧ F.tmps.getD 11 undef = v11
set_option maxRecDepth 100000 in
theorem bt_frame {F : Act} {H G S N rt : Nat} {v6 v9 v11 : Value} (hfr : BtF H G S N rt v6 v9 v11 F) : F = ⟨#[.pointer (some ⟨H, 0, none⟩), F.tmps.getD 1 undef, F.tmps.getD 2 undef, F.tmps.getD 3 undef, .int .i16 (S : Nat), .int .u16 (N : Nat), v6, .slice (some ⟨G, 1, none⟩) 512 512, .slice (some ⟨G, 0, none⟩) 513 513, v9, .int .i16 (rt : Nat), v11, F.tmps.getD 12 undef, F.tmps.getD 13 undef, F.tmps.getD 14 undef, F.tmps.getD 15 undef, F.tmps.getD 16 undef, F.tmps.getD 17 undef, F.tmps.getD 18 undef, F.tmps.getD 19 undef, F.tmps.getD 20 undef, F.tmps.getD 21 undef, F.tmps.getD 22 undef, F.tmps.getD 23 undef, F.tmps.getD 24 undef, F.tmps.getD 25 undef, F.tmps.getD 26 undef, F.tmps.getD 27 undef, F.tmps.getD 28 undef, F.tmps.getD 29 undef, F.tmps.getD 30 undef, F.tmps.getD 31 undef, F.tmps.getD 32 undef, F.tmps.getD 33 undef, F.tmps.getD 34 undef, F.tmps.getD 35 undef, F.tmps.getD 36 undef, F.tmps.getD 37 undef, F.tmps.getD 38 undef, F.tmps.getD 39 undef, F.tmps.getD 40 undef, F.tmps.getD 41 undef, F.tmps.getD 42 undef, F.tmps.getD 43 undef, F.tmps.getD 44 undef, F.tmps.getD 45 undef, F.tmps.getD 46 undef, F.tmps.getD 47 undef, F.tmps.getD 48 undef, F.tmps.getD 49 undef, F.tmps.getD 50 undef, F.tmps.getD 51 undef, F.tmps.getD 52 undef, F.tmps.getD 53 undef, F.tmps.getD 54 undef, F.tmps.getD 55 undef, F.tmps.getD 56 undef, F.tmps.getD 57 undef, F.tmps.getD 58 undef, F.tmps.getD 59 undef, F.tmps.getD 60 undef, F.tmps.getD 61 undef, F.tmps.getD 62 undef, F.tmps.getD 63 undef, F.tmps.getD 64 undef, F.tmps.getD 65 undef, F.tmps.getD 66 undef, F.tmps.getD 67 undef, F.tmps.getD 68 undef, F.tmps.getD 69 undef, F.tmps.getD 70 undef, F.tmps.getD 71 undef, F.tmps.getD 72 undef, F.tmps.getD 73 undef, F.tmps.getD 74 undef, F.tmps.getD 75 undef, F.tmps.getD 76 undef, F.tmps.getD 77 undef, F.tmps.getD 78 undef, F.tmps.getD 79 undef, F.tmps.getD 80 undef, F.tmps.getD 81 undef, F.tmps.getD 82 undef, F.tmps.getD 83 undef, F.tmps.getD 84 undef, F.tmps.getD 85 undef, F.tmps.getD 86 undef, F.tmps.getD 87 undef, F.tmps.getD 88 undef, F.tmps.getD 89 undef, F.tmps.getD 90 undef, F.tmps.getD 91 undef, F.tmps.getD 92 undef, F.tmps.getD 93 undef, F.tmps.getD 94 undef, F.tmps.getD 95 undef, F.tmps.getD 96 undef, F.tmps.getD 97 undef, F.tmps.getD 98 undef, F.tmps.getD 99 undef, F.tmps.getD 100 undef, F.tmps.getD 101 undef, F.tmps.getD 102 undef, F.tmps.getD 103 undef, F.tmps.getD 104 undef, F.tmps.getD 105 undef, F.tmps.getD 106 undef, F.tmps.getD 107 undef, F.tmps.getD 108 undef, F.tmps.getD 109 undef, F.tmps.getD 110 undef, F.tmps.getD 111 undef, F.tmps.getD 112 undef, F.tmps.getD 113 undef, F.tmps.getD 114 undef, F.tmps.getD 115 undef, F.tmps.getD 116 undef, F.tmps.getD 117 undef, F.tmps.getD 118 undef, F.tmps.getD 119 undef, F.tmps.getD 120 undef, F.tmps.getD 121 undef, F.tmps.getD 122 undef, F.tmps.getD 123 undef, F.tmps.getD 124 undef, F.tmps.getD 125 undef, F.tmps.getD 126 undef, F.tmps.getD 127 undef, F.tmps.getD 128 undef, F.tmps.getD 129 undef, F.tmps.getD 130 undef, F.tmps.getD 131 undef, F.tmps.getD 132 undef, F.tmps.getD 133 undef, F.tmps.getD 134 undef, F.tmps.getD 135 undef, F.tmps.getD 136 undef, F.tmps.getD 137 undef, F.tmps.getD 138 undef, F.tmps.getD 139 undef, F.tmps.getD 140 undef, F.tmps.getD 141 undef, F.tmps.getD 142 undef, F.tmps.getD 143 undef, F.tmps.getD 144 undef, F.tmps.getD 145 undef, F.tmps.getD 146 undef, F.tmps.getD 147 undef, F.tmps.getD 148 undef, F.tmps.getD 149 undef, F.tmps.getD 150 undef, F.tmps.getD 151 undef, F.tmps.getD 152 undef, F.tmps.getD 153 undef, F.tmps.getD 154 undef, F.tmps.getD 155 undef, F.tmps.getD 156 undef, F.tmps.getD 157 undef, F.tmps.getD 158 undef, F.tmps.getD 159 undef, F.tmps.getD 160 undef, F.tmps.getD 161 undef, F.tmps.getD 162 undef, F.tmps.getD 163 undef, F.tmps.getD 164 undef, F.tmps.getD 165 undef, F.tmps.getD 166 undef, F.tmps.getD 167 undef, F.tmps.getD 168 undef, F.tmps.getD 169 undef, F.tmps.getD 170 undef, F.tmps.getD 171 undef, F.tmps.getD 172 undef, F.tmps.getD 173 undef, F.tmps.getD 174 undef, F.tmps.getD 175 undef, F.tmps.getD 176 undef, F.tmps.getD 177 undef, F.tmps.getD 178 undef, F.tmps.getD 179 undef, F.tmps.getD 180 undef, F.tmps.getD 181 undef, F.tmps.getD 182 undef, F.tmps.getD 183 undef, F.tmps.getD 184 undef, F.tmps.getD 185 undef, F.tmps.getD 186 undef, F.tmps.getD 187 undef, F.tmps.getD 188 undef, F.tmps.getD 189 undef, F.tmps.getD 190 undef, F.tmps.getD 191 undef, F.tmps.getD 192 undef, F.tmps.getD 193 undef, F.tmps.getD 194 undef, F.tmps.getD 195 undef, F.tmps.getD 196 undef, F.tmps.getD 197 undef, F.tmps.getD 198 undef, F.tmps.getD 199 undef, F.tmps.getD 200 undef, F.tmps.getD 201 undef, F.tmps.getD 202 undef, F.tmps.getD 203 undef, F.tmps.getD 204 undef, F.tmps.getD 205 undef, F.tmps.getD 206 undef, F.tmps.getD 207 undef, F.tmps.getD 208 undef, F.tmps.getD 209 undef, F.tmps.getD 210 undef, F.tmps.getD 211 undef, F.tmps.getD 212 undef, F.tmps.getD 213 undef, F.tmps.getD 214 undef, F.tmps.getD 215 undef, F.tmps.getD 216 undef, F.tmps.getD 217 undef, F.tmps.getD 218 undef, F.tmps.getD 219 undef, F.tmps.getD 220 undef, F.tmps.getD 221 undef, F.tmps.getD 222 undef, F.tmps.getD 223 undef, F.tmps.getD 224 undef, F.tmps.getD 225 undef, F.tmps.getD 226 undef, F.tmps.getD 227 undef, F.tmps.getD 228 undef, F.tmps.getD 229 undef, F.tmps.getD 230 undef, F.tmps.getD 231 undef, F.tmps.getD 232 undef, F.tmps.getD 233 undef, F.tmps.getD 234 undef, F.tmps.getD 235 undef, F.tmps.getD 236 undef, F.tmps.getD 237 undef, F.tmps.getD 238 undef, F.tmps.getD 239 undef, F.tmps.getD 240 undef, F.tmps.getD 241 undef, F.tmps.getD 242 undef, F.tmps.getD 243 undef, F.tmps.getD 244 undef, F.tmps.getD 245 undef, F.tmps.getD 246 undef, F.tmps.getD 247 undef, F.tmps.getD 248 undef, F.tmps.getD 249 undef, F.tmps.getD 250 undef, F.tmps.getD 251 undef, F.tmps.getD 252 undef, F.tmps.getD 253 undef, F.tmps.getD 254 undef, F.tmps.getD 255 undef, F.tmps.getD 256 undef, F.tmps.getD 257 undef, F.tmps.getD 258 undef, F.tmps.getD 259 undef, F.tmps.getD 260 undef, F.tmps.getD 261 undef, F.tmps.getD 262 undef, F.tmps.getD 263 undef, F.tmps.getD 264 undef, F.tmps.getD 265 undef, F.tmps.getD 266 undef, F.tmps.getD 267 undef, F.tmps.getD 268 undef, F.tmps.getD 269 undef, F.tmps.getD 270 undef, F.tmps.getD 271 undef, F.tmps.getD 272 undef, F.tmps.getD 273 undef, F.tmps.getD 274 undef, F.tmps.getD 275 undef, F.tmps.getD 276 undef, F.tmps.getD 277 undef, F.tmps.getD 278 undef, F.tmps.getD 279 undef, F.tmps.getD 280 undef, F.tmps.getD 281 undef, F.tmps.getD 282 undef, F.tmps.getD 283 undef, F.tmps.getD 284 undef, F.tmps.getD 285 undef, F.tmps.getD 286 undef, F.tmps.getD 287 undef, F.tmps.getD 288 undef, F.tmps.getD 289 undef, F.tmps.getD 290 undef, F.tmps.getD 291 undef, F.tmps.getD 292 undef, F.tmps.getD 293 undef, F.tmps.getD 294 undef, F.tmps.getD 295 undef, F.tmps.getD 296 undef, F.tmps.getD 297 undef, F.tmps.getD 298 undef, F.tmps.getD 299 undef, F.tmps.getD 300 undef, F.tmps.getD 301 undef, F.tmps.getD 302 undef, F.tmps.getD 303 undef, F.tmps.getD 304 undef, F.tmps.getD 305 undef, F.tmps.getD 306 undef, F.tmps.getD 307 undef, F.tmps.getD 308 undef, F.tmps.getD 309 undef, F.tmps.getD 310 undef, F.tmps.getD 311 undef, F.tmps.getD 312 undef, F.tmps.getD 313 undef, F.tmps.getD 314 undef, F.tmps.getD 315 undef, F.tmps.getD 316 undef, F.tmps.getD 317 undef, F.tmps.getD 318 undef, F.tmps.getD 319 undef, F.tmps.getD 320 undef, F.tmps.getD 321 undef, F.tmps.getD 322 undef, F.tmps.getD 323 undef, F.tmps.getD 324 undef, F.tmps.getD 325 undef, F.tmps.getD 326 undef, F.tmps.getD 327 undef, F.tmps.getD 328 undef, F.tmps.getD 329 undef, F.tmps.getD 330 undef, F.tmps.getD 331 undef, F.tmps.getD 332 undef, F.tmps.getD 333 undef, F.tmps.getD 334 undef, F.tmps.getD 335 undef, F.tmps.getD 336 undef, F.tmps.getD 337 undef, F.tmps.getD 338 undef, F.tmps.getD 339 undef, F.tmps.getD 340 undef, F.tmps.getD 341 undef, F.tmps.getD 342 undef, F.tmps.getD 343 undef, F.tmps.getD 344 undef, F.tmps.getD 345 undef, F.tmps.getD 346 undef, F.tmps.getD 347 undef, F.tmps.getD 348 undef, F.tmps.getD 349 undef, F.tmps.getD 350 undef, F.tmps.getD 351 undef, F.tmps.getD 352 undef, F.tmps.getD 353 undef, F.tmps.getD 354 undef, F.tmps.getD 355 undef, F.tmps.getD 356 undef, F.tmps.getD 357 undef], []⟩ := by
  obtain ⟨hd, hs, h0, h4, h5, h6, h7, h8, h9, h10, h11⟩ := hfr
  have hfq := arr358 F.tmps hs
  rw [h0, h4, h5, h6, h7, h8, h9, h10, h11] at hfq
  exact act_extC hfq hd

/-- the tree with k inner nodes made -/
def TreeI (w : World) (H G S N n rt : Nat) (f : Nat → Value) (cnt sy bt : Nat → Nat) (k : Nat) (F : Act) (w' : World) : Prop :=
  ∃ (a b v : Nat) (wt pl pi mx ct pa : Nat → Nat) (y : Int), BtF H G S N rt (.int .i16 (S + k : Nat)) (.int .i16 y) (.int .i16 (S + b : Nat)) F ∧ y = (n : Int) - 1 - (a : Int) ∧ b < k ∧ 1 ≤ wt 0 ∧ TI cnt n a b k 0 v 0 wt pl pi mx (fun _ => False) ∧ CtF cnt n S k wt ct ∧ PaF n S a b pl pi pa ∧ BtW w H G f ct pa sy bt w'
end Go.Proofs.YthkklojjpgjiiaaFmt
namespace Go.Proofs.YthkklojjpgjiiaaFmt
open Go.RowKit

/-- the table of codes -/
def cV (g : Nat → Int) (nb : Nat → Nat) (k : Nat) : Value := if k % 2 = 0 then .int .u16 (g (k / 2)) else .int .u8 (nb (k / 2) : Nat)
def updI (g : Nat → Int) (p : Nat) (v : Int) (k : Nat) : Int := if k = p then v else g k
def iV (g : Nat → Int) (k : Nat) : Value := .int .u16 (g k)
theorem iV_upd (g : Nat → Int) (p : Nat) (v : Int) (n : Nat) : ∀ k, k < n → updV (iV g) p (.int .u16 v) k = iV (updI g p v) k := fun k _ => by
  unfold updV iV updI
  by_cases e : k = p
  · rw [if_pos e, if_pos e]
  · rw [if_neg e, if_neg e]
theorem cV_val (g : Nat → Int) (nb : Nat → Nat) (p : Nat) (v : Int) : ∀ k, k < 512 → updV (cV g nb) (p * 2) (.int .u16 v) k = cV (updI g p v) nb k := fun k _ => by
  unfold updV cV updI
  by_cases e : k = p * 2
  · rw [if_pos e, if_pos (by omega), if_pos (by omega)]
  · rw [if_neg e]
    by_cases e2 : k % 2 = 0
    · rw [if_pos e2, if_pos e2, if_neg (by omega)]
    · rw [if_neg e2, if_neg e2]
theorem cV_bit (g : Nat → Int) (nb : Nat → Nat) (p v : Nat) : ∀ k, k < 512 → updV (cV g nb) (p * 2 + 1) (.int .u8 (v : Nat)) k = cV g (updN nb p v) k := fun k _ => by
  unfold updV cV updN
  by_cases e : k = p * 2 + 1
  · rw [if_pos e, if_neg (by omega), if_pos (by omega)]
  · rw [if_neg e]
    by_cases e2 : k % 2 = 0
    · rw [if_pos e2, if_pos e2]
    · rw [if_neg e2, if_neg e2, if_neg (by omega)]
theorem and8_15 (x : Nat) (hx : x < 256) : bits .and .u8 (x : Int) 15 = ((x % 16 : Nat) : Int) := by
  have h1 : (BitVec.ofInt 8 (x : Int)).toNat = x := by
    rw [BitVec.ofInt_natCast, BitVec.toNat_ofNat]; exact Nat.mod_eq_of_lt (by omega)
  have h2 : (BitVec.ofInt 8 (15 : Int)).toNat = 2 ^ 4 - 1 := by decide
  show IntKind.u8.wrap ((BitVec.ofInt 8 (x : Int) &&& BitVec.ofInt 8 (15 : Int)).toNat : Int) = _
  rw [BitVec.toNat_and, h1, h2, Nat.and_two_pow_sub_one_eq_mod]
  simp [IntKind.wrap, IntKind.bits, IntKind.signed]
  omega
/-- the memory while codes are given -/
structure EnW (w : World) (H G A B Ct : Nat) (f nvv : Nat → Value) (nb : Nat → Nat) (wr : World) : Prop where
  h : RowF wr H 58 540 f
  g : RowF wr G 110 513 nvv
  a : ∃ g, RowF wr A 118 12 (iV g)
  b : ∃ g, RowF wr B 119 16 (iV g)
  c : ∃ g, RowF wr Ct 78 512 (cV g nb)
  only : Only (fun k => k = H ∨ k = G ∨ w.heap.size ≤ k) w wr
/-- the blocks are others -/
structure EnD (w : World) (H G A B Ct : Nat) : Prop where
  h : H < w.heap.size
  g : G < w.heap.size
  hg : H ≠ G
  a : w.heap.size ≤ A
  b : w.heap.size ≤ B
  c : w.heap.size ≤ Ct
  ab : A ≠ B
  ac : A ≠ Ct
  bc : B ≠ Ct
section
variable {w wr : World} {H G A B Ct : Nat} {f nvv : Nat → Value} {nb nb' : Nat → Nat}
theorem EnW.setA (h : EnW w H G A B Ct f nvv nb wr) (d : EnD w H G A B Ct) (k : Nat) (v : Int) : EnW w H G A B Ct f nvv nb (wr.setCell ⟨A, k, none⟩ (.int .u16 v)) := by
  have d1 := d.h; have d2 := d.g; have d3 := d.a; have d4 := d.ab; have d5 := d.ac
  obtain ⟨g, hg⟩ := h.a
  obtain ⟨g2, hg2⟩ := h.b
  obtain ⟨g3, hg3⟩ := h.c
  exact ⟨h.h.other _ (show A ≠ H by omega), h.g.other _ (show A ≠ G by omega), ⟨_, (hg.set_ k _).congr (iV_upd g k v 12)⟩, ⟨g2, hg2.other _ (show A ≠ B from d4)⟩, ⟨g3, hg3.other _ (show A ≠ Ct from d5)⟩, h.only.set_ (p := ⟨A, k, none⟩) (.inr (.inr d3)) _⟩
theorem EnW.setB (h : EnW w H G A B Ct f nvv nb wr) (d : EnD w H G A B Ct) (k : Nat) (v : Int) : EnW w H G A B Ct f nvv nb (wr.setCell ⟨B, k, none⟩ (.int .u16 v)) := by
  have d1 := d.h; have d2 := d.g; have d3 := d.b; have d4 := d.ab; have d5 := d.bc
  obtain ⟨g, hg⟩ := h.a
  obtain ⟨g2, hg2⟩ := h.b
  obtain ⟨g3, hg3⟩ := h.c
  exact ⟨h.h.other _ (show B ≠ H by omega), h.g.other _ (show B ≠ G by omega), ⟨g, hg.other _ (show B ≠ A from fun e => d4 e.symm)⟩, ⟨_, (hg2.set_ k _).congr (iV_upd g2 k v 16)⟩, ⟨g3, hg3.other _ (show B ≠ Ct from d5)⟩, h.only.set_ (p := ⟨B, k, none⟩) (.inr (.inr d3)) _⟩
theorem EnW.setV (h : EnW w H G A B Ct f nvv nb wr) (d : EnD w H G A B Ct) (k : Nat) (v : Int) : EnW w H G A B Ct f nvv nb (wr.setCell ⟨Ct, k * 2, none⟩ (.int .u16 v)) := by
  have d1 := d.h; have d2 := d.g; have d3 := d.c; have d4 := d.ac; have d5 := d.bc
  obtain ⟨g, hg⟩ := h.a
  obtain ⟨g2, hg2⟩ := h.b
  obtain ⟨g3, hg3⟩ := h.c
  exact ⟨h.h.other _ (show Ct ≠ H by omega), h.g.other _ (show Ct ≠ G by omega), ⟨g, hg.other _ (show Ct ≠ A from fun e => d4 e.symm)⟩, ⟨g2, hg2.other _ (show Ct ≠ B from fun e => d5 e.symm)⟩, ⟨_, (hg3.set_ (k * 2) _).congr (cV_val g3 nb k v)⟩, h.only.set_ (p := ⟨Ct, k * 2, none⟩) (.inr (.inr d3)) _⟩
theorem EnW.setN (h : EnW w H G A B Ct f nvv nb wr) (d : EnD w H G A B Ct) (k v : Nat) : EnW w H G A B Ct f nvv (updN nb k v) (wr.setCell ⟨Ct, k * 2 + 1, none⟩ (.int .u8 (v : Nat))) := by
  have d1 := d.h; have d2 := d.g; have d3 := d.c; have d4 := d.ac; have d5 := d.bc
  obtain ⟨g, hg⟩ := h.a
  obtain ⟨g2, hg2⟩ := h.b
  obtain ⟨g3, hg3⟩ := h.c
  exact ⟨h.h.other _ (show Ct ≠ H by omega), h.g.other _ (show Ct ≠ G by omega), ⟨g, hg.other _ (show Ct ≠ A from fun e => d4 e.symm)⟩, ⟨g2, hg2.other _ (show Ct ≠ B from fun e => d5 e.symm)⟩, ⟨_, (hg3.set_ (k * 2 + 1) _).congr (cV_bit g3 nb k v)⟩, h.only.set_ (p := ⟨Ct, k * 2 + 1, none⟩) (.inr (.inr d3)) _⟩
theorem EnW.alloc (h : EnW w H G A B Ct f nvv nb wr) (o : Obj) : EnW w H G A B Ct f nvv nb (wr.alloc o) := by
  obtain ⟨g, hg⟩ := h.a
  obtain ⟨g2, hg2⟩ := h.b
  obtain ⟨g3, hg3⟩ := h.c
  exact ⟨h.h.alloc o, h.g.alloc o, ⟨g, hg.alloc o⟩, ⟨g2, hg2.alloc o⟩, ⟨g3, hg3.alloc o⟩, h.only.alloc o⟩
theorem EnW.drewN (h : EnW w H G A B Ct f nvv nb wr) (q : Nat) : EnW w H G A B Ct f nvv nb (wr.drewN q) := by
  obtain ⟨g, hg⟩ := h.a
  obtain ⟨g2, hg2⟩ := h.b
  obtain ⟨g3, hg3⟩ := h.c
  exact ⟨h.h.drewN q, h.g.drewN q, ⟨g, hg.drewN q⟩, ⟨g2, hg2.drewN q⟩, ⟨g3, hg3.drewN q⟩, h.only.drewN q⟩
end
def EnF (H G A B N M : Nat) (v26 : Value) (F : Act) : Prop := F.defers = [] ∧ F.tmps.size = 358 ∧ F.tmps.getD 0 undef = .pointer (some ⟨H, 0, none⟩) ∧ F.tmps.getD 5 undef = .int .u16 (N : Nat) ∧ F.tmps.getD 7 undef = .slice (some ⟨G, 1, none⟩) 512 512 ∧ F.tmps.getD 17 undef = .int .u8 (M : Nat) ∧ F.tmps.getD 18 undef = .pointer (some ⟨A, 0, none⟩) ∧ F.tmps.getD 19 undef = .pointer (some ⟨B, 0, none⟩) ∧ F.tmps.getD 26 undef = v26
set_option maxRecDepth 100000 in
theorem en_frame {F : Act} {H G A B N M : Nat} {v26 : Value} (hfr : EnF H G A B N M v26 F) : F = ⟨#[.pointer (some ⟨H, 0, none⟩), F.tmps.getD 1 undef, F.tmps.getD 2 undef, F.tmps.getD 3 undef, F.tmps.getD 4 undef, .int .u16 (N : Nat), F.tmps.getD 6 undef, .slice (some ⟨G, 1, none⟩) 512 512, F.tmps.getD 8 undef, F.tmps.getD 9 undef, F.tmps.getD 10 undef, F.tmps.getD 11 undef, F.tmps.getD 12 undef, F.tmps.getD 13 undef, F.tmps.getD 14 undef, F.tmps.getD 15 undef, F.tmps.getD 16 undef, .int .u8 (M : Nat), .pointer (some ⟨A, 0, none⟩), .pointer (some ⟨B, 0, none⟩), F.tmps.getD 20 undef, F.tmps.getD 21 undef, F.tmps.getD 22 undef, F.tmps.getD 23 undef, F.tmps.getD 24 undef, F.tmps.getD 25 undef, v26, F.tmps.getD 27 undef, F.tmps.getD 28 undef, F.tmps.getD 29 undef, F.tmps.getD 30 undef, F.tmps.getD 31 undef, F.tmps.getD 32 undef, F.tmps.getD 33 undef, F.tmps.getD 34 undef, F.tmps.getD 35 undef, F.tmps.getD 36 undef, F.tmps.getD 37 undef, F.tmps.getD 38 undef, F.tmps.getD 39 undef, F.tmps.getD 40 undef, F.tmps.getD 41 undef, F.tmps.getD 42 undef, F.tmps.getD 43 undef, F.tmps.getD 44 undef, F.tmps.getD 45 undef, F.tmps.getD 46 undef, F.tmps.getD 47 undef, F.tmps.getD 48 undef, F.tmps.getD 49 undef, F.tmps.getD 50 undef, F.tmps.getD 51 undef, F.tmps.getD 52 undef, F.tmps.getD 53 undef, F.tmps.getD 54 undef, F.tmps.getD 55 undef, F.tmps.getD 56 undef, F.tmps.getD 57 undef, F.tmps.getD 58 undef, F.tmps.getD 59 undef, F.tmps.getD 60 undef, F.tmps.getD 61 undef, F.tmps.getD 62 undef, F.tmps.getD 63 undef, F.tmps.getD 64 undef, F.tmps.getD 65 undef, F.tmps.getD 66 undef, F.tmps.getD 67 undef, F.tmps.getD 68 undef, F.tmps.getD 69 undef, F.tmps.getD 70 undef, F.tmps.getD 71 undef, F.tmps.getD 72 undef, F.tmps.getD 73 undef, F.tmps.getD 74 undef, F.tmps.getD 75 undef, F.tmps.getD 76 undef, F.tmps.getD 77 undef, F.tmps.getD 78 undef, F.tmps.getD 79 undef, F.tmps.getD 80 undef, F.tmps.getD 81 undef, F.tmps.getD 82 undef, F.tmps.getD 83 undef, F.tmps.getD 84 undef, F.tmps.getD 85 undef, F.tmps.getD 86 undef, F.tmps.getD 87 undef, F.tmps.getD 88 undef, F.tmps.getD 89 undef, F.tmps.getD 90 undef, F.tmps.getD 91 undef, F.tmps.getD 92 undef, F.tmps.getD 93 undef, F.tmps.getD 94 undef, F.tmps.getD 95 undef, F.tmps.getD 96 undef, F.tmps.getD 97 undef, F.tmps.getD 98 undef, F.tmps.getD 99 undef, F.tmps.getD 100 undef, F.tmps.getD 101 undef, F.tmps.getD 102 undef, F.tmps.getD 103 undef, F.tmps.getD 104 undef, F.tmps.getD 105 undef, F.tmps.getD 106 undef, F.tmps.getD 107 undef, F.tmps.getD 108 undef, F.tmps.getD 109 undef, F.tmps.getD 110 undef, F.tmps.getD 111 undef, F.tmps.getD 112 undef, F.tmps.getD 113 undef, F.tmps.getD 114 undef, F.tmps.getD 115 undef, F.tmps.getD 116 undef, F.tmps.getD 117 undef, F.tmps.getD 118 undef, F.tmps.getD 119 undef, F.tmps.getD 120 undef, F.tmps.getD 121 undef, F.tmps.getD 122 undef, F.tmps.getD 123 undef, F.tmps.getD 124 undef, F.tmps.getD 125 undef, F.tmps.getD 126 undef, F.tmps.getD 127 undef, F.tmps.getD 128 undef, F.tmps.getD 129 undef, F.tmps.getD 130 undef, F.tmps.getD 131 undef, F.tmps.getD 132 undef, F.tmps.getD 133 undef, F.tmps.getD 134 undef, F.tmps.getD 135 undef, F.tmps.getD 136 undef, F.tmps.getD 137 undef, F.tmps.getD 138 undef, F.tmps.getD 139 undef, F.tmps.getD 140 undef, F.tmps.getD 141 undef, F.tmps.getD 142 undef, F.tmps.getD 143 undef, F.tmps.getD 144 undef, F.tmps.getD 145 undef, F.tmps.getD 146 undef, F.tmps.getD 147 undef, F.tmps.getD 148 undef, F.tmps.getD 149 undef, F.tmps.getD 150 undef, F.tmps.getD 151 undef, F.tmps.getD 152 undef, F.tmps.getD 153 undef, F.tmps.getD 154 undef, F.tmps.getD 155 undef, F.tmps.getD 156 undef, F.tmps.getD 157 undef, F.tmps.getD 158 undef, F.tmps.getD 159 undef, F.tmps.getD 160 undef, F.tmps.getD 161 undef, F.tmps.getD 162 undef, F.tmps.getD 163 undef, F.tmps.getD 164 undef, F.tmps.getD 165 undef, F.tmps.getD 166 undef, F.tmps.getD 167 undef, F.tmps.getD 168 undef, F.tmps.getD 169 undef, F.tmps.getD 170 undef, F.tmps.getD 171 undef, F.tmps.getD 172 undef, F.tmps.getD 173 undef, F.tmps.getD 174 undef, F.tmps.getD 175 undef, F.tmps.getD 176 undef, F.tmps.getD 177 undef, F.tmps.getD 178 undef, F.tmps.getD 179 undef, F.tmps.getD 180 undef, F.tmps.getD 181 undef, F.tmps.getD 182 undef, F.tmps.getD 183 undef, F.tmps.getD 184 undef, F.tmps.getD 185 undef, F.tmps.getD 186 undef, F.tmps.getD 187 undef, F.tmps.getD 188 undef, F.tmps.getD 189 undef, F.tmps.getD 190 undef, F.tmps.getD 191 undef, F.tmps.getD 192 undef, F.tmps.getD 193 undef, F.tmps.getD 194 undef, F.tmps.getD 195 undef, F.tmps.getD 196 undef, F.tmps.getD 197 undef, F.tmps.getD 198 undef, F.tmps.getD 199 undef, F.tmps.getD 200 undef, F.tmps.getD 201 undef, F.tmps.getD 202 undef, F.tmps.getD 203 undef, F.tmps.getD 204 undef, F.tmps.getD 205 undef, F.tmps.getD 206 undef, F.tmps.getD 207 undef, F.tmps.getD 208 undef, F.tmps.getD 209 undef, F.tmps.getD 210 undef, F.tmps.getD 211 undef, F.tmps.getD 212 undef, F.tmps.getD 213 undef, F.tmps.getD 214 undef, F.tmps.getD 215 undef, F.tmps.getD 216 undef, F.tmps.getD 217 undef, F.tmps.getD 218 undef, F.tmps.getD 219 undef, F.tmps.getD 220 undef, F.tmps.getD 221 undef, F.tmps.getD 222 undef, F.tmps.getD 223 undef, F.tmps.getD 224 undef, F.tmps.getD 225 undef, F.tmps.getD 226 undef, F.tmps.getD 227 undef, F.tmps.getD 228 undef, F.tmps.getD 229 undef, F.tmps.getD 230 undef, F.tmps.getD 231 undef, F.tmps.getD 232 undef, F.tmps.getD 233 undef, F.tmps.getD 234 undef, F.tmps.getD 235 undef, F.tmps.getD 236 undef, F.tmps.getD 237 undef, F.tmps.getD 238 undef, F.tmps.getD 239 undef, F.tmps.getD 240 undef, F.tmps.getD 241 undef, F.tmps.getD 242 undef, F.tmps.getD 243 undef, F.tmps.getD 244 undef, F.tmps.getD 245 undef, F.tmps.getD 246 undef, F.tmps.getD 247 undef, F.tmps.getD 248 undef, F.tmps.getD 249 undef, F.tmps.getD 250 undef, F.tmps.getD 251 undef, F.tmps.getD 252 undef, F.tmps.getD 253 undef, F.tmps.getD 254 undef, F.tmps.getD 255 undef, F.tmps.getD 256 undef, F.tmps.getD 257 undef, F.tmps.getD 258 undef, F.tmps.getD 259 undef, F.tmps.getD 260 undef, F.tmps.getD 261 undef, F.tmps.getD 262 undef, F.tmps.getD 263 undef, F.tmps.getD 264 undef, F.tmps.getD 265 undef, F.tmps.getD 266 undef, F.tmps.getD 267 undef, F.tmps.getD 268 undef, F.tmps.getD 269 undef, F.tmps.getD 270 undef, F.tmps.getD 271 undef, F.tmps.getD 272 undef, F.tmps.getD 273 undef, F.tmps.getD 274 undef, F.tmps.getD 275 undef, F.tmps.getD 276 undef, F.tmps.getD 277 undef, F.tmps.getD 278 undef, F.tmps.getD 279 undef, F.tmps.getD 280 undef, F.tmps.getD 281 undef, F.tmps.getD 282 undef, F.tmps.getD 283 undef, F.tmps.getD 284 undef, F.tmps.getD 285 undef, F.tmps.getD 286 undef, F.tmps.getD 287 undef, F.tmps.getD 288 undef, F.tmps.getD 289 undef, F.tmps.getD 290 undef, F.tmps.getD 291 undef, F.tmps.getD 292 undef, F.tmps.getD 293 undef, F.tmps.getD 294 undef, F.tmps.getD 295 undef, F.tmps.getD 296 undef, F.tmps.getD 297 undef, F.tmps.getD 298 undef, F.tmps.getD 299 undef, F.tmps.getD 300 undef, F.tmps.getD 301 undef, F.tmps.getD 302 undef, F.tmps.getD 303 undef, F.tmps.getD 304 undef, F.tmps.getD 305 undef, F.tmps.getD 306 undef, F.tmps.getD 307 undef, F.tmps.getD 308 undef, F.tmps.getD 309 undef, F.tmps.getD 310 undef, F.tmps.getD 311 undef, F.tmps.getD 312 undef, F.tmps.getD 313 undef, F.tmps.getD 314 undef, F.tmps.getD 315 undef, F.tmps.getD 316 undef, F.tmps.getD 317 undef, F.tmps.getD 318 undef, F.tmps.getD 319 undef, F.tmps.getD 320 undef, F.tmps.getD 321 undef, F.tmps.getD 322 undef, F.tmps.getD 323 undef, F.tmps.getD 324 undef, F.tmps.getD 325 undef, F.tmps.getD 326 undef, F.tmps.getD 327 undef, F.tmps.getD 328 undef, F.tmps.getD 329 undef, F.tmps.getD 330 undef, F.tmps.getD 331 undef, F.tmps.getD 332 undef, F.tmps.getD 333 undef, F.tmps.getD 334 undef, F.tmps.getD 335 undef, F.tmps.getD 336 undef, F.tmps.getD 337 undef, F.tmps.getD 338 undef, F.tmps.getD 339 undef, F.tmps.getD 340 undef, F.tmps.getD 341 undef, F.tmps.getD 342 undef, F.tmps.getD 343 undef, F.tmps.getD 344 undef, F.tmps.getD 345 undef, F.tmps.getD 346 undef, F.tmps.getD 347 undef, F.tmps.getD 348 undef, F.tmps.getD 349 undef, F.tmps.getD 350 undef, F.tmps.getD 351 undef, F.tmps.getD 352 undef, F.tmps.getD 353 undef, F.tmps.getD 354 undef, F.tmps.getD 355 undef, F.tmps.getD 356 undef, F.tmps.getD 357 undef], []⟩ := by
  obtain ⟨hd, hs, h0, h5, h7, h17, h18, h19, h26⟩ := hfr
  have hfq := arr358 F.tmps hs
  rw [h0, h5, h7, h17, h18, h19, h26] at hfq
  exact act_extC hfq hd

end Go.Proofs.YthkklojjpgjiiaaFmt
namespace Go.Proofs.YthkklojjpgjiiaaFmt
open Go.RowKit

section
variable {P : Program}
theorem run_loadVar_part (w : World) (g o : Nat) (ty : TypeId) (cells : Array Value) (d : TypeDesc) (hc : ∀ j v, cells[j]? = some v → w.cell? ⟨g, o + j, none⟩ = some v)
    (hu : P.underlying ty = some d) (hd : (match d with | .struct _ | .array _ _ => true | _ => false) = true) (hi : (P.info? ty).map (·.size) = some cells.size) :
    (loadVar ty ⟨g, o, none⟩).run P w = .ok (.agg cells) w := by
  have hl : (loadCells ⟨g, o, none⟩ cells.toList.length).run P w = .ok cells.toList.toArray w :=
    run_loadCells_list (P := P) w ⟨g, o, none⟩ cells.toList (fun j v hv => by
      have hadd : (⟨g, o, none⟩ : Addr).add j = ⟨g, o + j, none⟩ := by unfold Addr.add; split <;> simp_all
      rw [hadd]
      exact hc j v (by simpa using hv))
  cases hq : P.info? ty with
  | none => simp [hq] at hi
  | some i =>
    have hs : i.size = cells.size := by simpa [hq] using hi
    have hagg : (isAgg ty).run P w = .ok true w := by
      unfold isAgg
      rw [Sem.run_bind, run_underlying hu w]
      cases d <;> simp_all
    simp only [Array.length_toList, Array.toArray_toList] at hl
    simp [loadVar, Sem.run_bind, hagg, sizeOf, typeInfo, hq, hs, hl]
theorem wpList_load_part {ops : Array Oper} {rest : List Oper} {o : Oper} {a : Act} {w : World} {Q : Exit → Act → World → Prop} (hgd : o.guard = none) (ty : TypeId) (x : Operand) (ho : o.op = .load ty x)
    (g : Nat) (hx : a.eval x = .pointer (some ⟨g, 0, none⟩)) (cells : Array Value) (d : TypeDesc) (hc : ∀ j v, cells[j]? = some v → w.cell? ⟨g, 0 + j, none⟩ = some v)
    (hu : P.underlying ty = some d) (hd : (match d with | .struct _ | .array _ _ => true | _ => false) = true) (hi : (P.info? ty).map (·.size) = some cells.size)
    (h : wpList P ops Q rest (a.put o.dst (.agg cells)) w) : wpList P ops Q (o :: rest) a w :=
  wpList_plain hgd fun _ hK => by
    unfold Oper.wp execOp
    simp only [ho, hx, Instr.loadAt, Instr.sureAddr, Sem.run_bind, Sem.run_pure, Result.andThen_ok, run_loadVar_part w g 0 ty cells d hc hu hd hi]
    exact hK _ _ h
theorem setRow_row {w : World} {g : Nat} {T : TypeId} {N : Nat} {f : Nat → Value} (hR : RowF w g T N f) (vs : List Value) (hn : vs.length ≤ N) (arr : Array Value) (ha : w.heap[g]? = some (.cells arr T (0, 0))) :
    RowF (w.setRow g (vs ++ arr.toList.drop vs.length).toArray) g T N fun k => if k < vs.length then vs.getD k undef else f k := by
  obtain ⟨arr2, h1, h2, h3⟩ := hR
  rw [ha] at h1
  cases h1
  refine ⟨_, setRow_heap w g arr _ T _ ha, by simp; omega, fun k hk => ?_⟩
  simp only [List.getElem?_toArray, List.getElem?_append]
  by_cases e : k < vs.length
  · rw [if_pos e, if_pos e, List.getD_eq_getElem?_getD, List.getElem?_eq_getElem e]
    rfl
  · rw [if_neg e, if_neg e, List.getElem?_drop, show vs.length + (k - vs.length) = k by omega]
    simpa using h3 k hk
theorem only_setRow {S : Nat → Prop} {w0 w : World} {g : Nat} (hO : Only S w0 w) (hS : S g) {T : TypeId} {N : Nat} {f f' : Nat → Value} (cs : Array Value) (hR : RowF w g T N f) (hR2 : RowF (w.setRow g cs) g T N f') : Only S w0 (w.setRow g cs) :=
  hO.trans ⟨rfl, rfl, rfl, by simp, fun k hk _ => setRow_other w g k cs (fun e => hk (e ▸ hS)), fun k _ T2 N2 ⟨f2, h2⟩ => by
    by_cases e : k = g
    · subst e
      obtain ⟨a1, b1, c1, _⟩ := hR
      obtain ⟨a2, b2, c2, d2⟩ := h2
      rw [b1] at b2
      cases b2
      obtain ⟨a3, b3, c3, d3⟩ := hR2
      exact ⟨f', a3, b3, by omega, fun j hj => d3 j (by omega)⟩
    · exact ⟨f2, h2.same (setRow_other w g k cs e)⟩⟩
theorem wpList_store_part {ops : Array Oper} {rest : List Oper} {o : Oper} {a : Act} {w w0 : World} {Q : Exit → Act → World → Prop} (hgd : o.guard = none) (ty : TypeId) (x y : Operand) (ho : o.op = .store ty x y)
    (g : Nat) (cells : Array Value) (hx : a.eval x = .pointer (some ⟨g, 0, none⟩)) (hy : a.eval y = .agg cells) {T : TypeId} {N : Nat} {f : Nat → Value} (hR : RowF w g T N f) (hi : (P.info? ty).map (·.size) = some cells.size) (hn : cells.size ≤ N)
    (h1 : ∀ v ∈ cells.toList, v.oneCell' = true) {S : Nat → Prop} (hO : Only S w0 w) (hS : S g)
    (h : ∀ w', Hid (RowF w' g T N fun k => if k < cells.size then cells.toList.getD k undef else f k) → Hid (Only S w0 w') → Hid (∀ k, k ≠ g → w'.heap[k]? = w.heap[k]?) → wpList P ops Q rest (a.put o.dst undef) w') : wpList P ops Q (o :: rest) a w := by
  obtain ⟨arr, ha, hs, hv⟩ := hR
  have hst := run_storeCells_at P g 0 T cells.toList 0 arr w ha (by simp; omega) h1
  simp only [Nat.zero_add, List.take_zero, List.nil_append, Array.length_toList] at hst
  have hrun : (storeVar ty ⟨g, 0, none⟩ (.agg cells)).run P w = .ok () (w.setRow g (cells.toList ++ arr.toList.drop cells.toList.length).toArray) := by
    cases hq : P.info? ty with
    | none => simp [hq] at hi
    | some i =>
      have hs2 : cells.size = i.size := by simp [hq] at hi; omega
      simp [storeVar, sizeOf, typeInfo, hq, Value.cells, hs2, hst]
  refine wpList_plain hgd fun _ hK => ?_
  unfold Oper.wp execOp
  simp only [ho, hx, hy, Instr.storeAt, Instr.sureAddr, Sem.run_bind, Sem.run_pure, Result.andThen_ok, hrun]
  have hR : RowF w g T N f := ⟨arr, ha, hs, hv⟩
  have hR2 := setRow_row hR cells.toList (by simpa using hn) arr ha
  refine hK _ _ (h _ (Lib.hid ?_) (Lib.hid (only_setRow hO hS _ hR hR2)) (Lib.hid fun k hk => setRow_other w g k _ hk))
  simpa using hR2
theorem run_copy_row2 (w : World) (dT sT ty elem : TypeId) (g dLen dCap : Nat) (a : Addr) (sLen sCap : Nat) (cur : Array Value) (t : TypeId) (cs : List Value)
    (hu : P.underlying dT = some (.slice elem)) (hs : (P.info? elem).map (·.size) = some 2)
    (hg : w.heap[g]? = some (.cells cur t (0, 0))) (hn : cs.length = Nat.min sLen dLen * 2)
    (hsrc : ∀ j v, cs[j]? = some v → w.cell? (a.add j) = some v) (hfit : cs.length ≤ cur.size) (h1 : ∀ v ∈ cs, v.oneCell' = true) :
    (Builtin.copy_ #[dT, sT] ty #[.slice (some ⟨g, 0, none⟩) dLen dCap, .slice (some a) sLen sCap]).run P w =
      .ok (goInt (Nat.min sLen dLen)) (w.setRow g (cs ++ cur.toList.drop cs.length).toArray) := by
  have hl := run_loadCells_list (P := P) w a cs hsrc
  have hst := run_storeCells_at P g 0 t cs 0 cur w hg (by simpa using hfit) h1
  simp only [Nat.zero_add, List.take_zero, List.nil_append] at hst
  cases hq : P.info? elem with
  | none => simp [hq] at hs
  | some i =>
    have hi : i.size = 2 := by simpa [hq] using hs
    simp [Builtin.copy_, run_underlying hu, Builtin.lenOf, Builtin.firstCells, sizeOf, typeInfo, hq, hi, ← hn, hl, hst]
end
end Go.Proofs.YthkklojjpgjiiaaFmt
