/-
  A slice of bytes that came in reads as a list of bytes. Condition: what the row's frame says of it.
  fse.decompress: the loops taken out of the translation, what is told of a frame. Definitions and plain lemmas.
  Appending to a slice that lies in another block's cells: in place while there is room, else to a new block. Plain lemmas; conditions: those of each.
  fse.decompress: what is told of the memory in its last loop. Plain lemmas; conditions: those of each.
  fse.decompress: the block of the bytes put out keeps its other cells. Definitions and plain lemmas.
-/
import Derived.Test.YthkklojjpgjiiaaFmtHuffT01
import Derived.Laws.World
import Derived.Test.YthkklojjpgjiiaaFmtHuffT32
import Derived.Lib.JoinLaws
import Derived.ArgAppend
import Derived.Deep.OwnRows
namespace Go.Proofs.YthkklojjpgjiiaaFmt
open Go.RowKit

theorem u8_of_wf {z : Int} (h : (Lit.int .u8 z).wf = true) : 0 ≤ z ∧ z ≤ 255 := by
  have e1 : IntKind.u8.min = 0 := rfl
  have e2 : IntKind.u8.max = 255 := rfl
  simpa [Lit.wf, e1, e2] using h

def toB (z : Int) : UInt8 := z.toNat.toUInt8
theorem toB_nat {z : Int} (h : 0 ≤ z ∧ z ≤ 255) : ((toB z).toNat : Int) = z := by
  unfold toB
  have : (z.toNat.toUInt8).toNat = z.toNat % 256 := by simp [Nat.toUInt8, UInt8.toNat_ofNat']
  rw [this]
  omega

theorem sl_of_row {w : World} {a : Option Addr} {len cap : Nat} {zs : List Int}
    (h : (a = none ∧ len = 0 ∧ cap = 0 ∧ zs = []) ∨
      ∃ x, a = some x ∧ len ≤ cap ∧ cap ≤ maxLen ∧ zs.length = cap ∧ (∀ i, i < zs.length → w.cell? (x.add i) = some (.int .u8 (zs.getD i 0))) ∧ ∀ n ∈ zs, (Lit.int .u8 n).wf = true) :
    ∃ l, Sl w w.heap.size a len cap l := by
  rcases h with ⟨rfl, rfl, rfl, rfl⟩ | ⟨x, rfl, hl, hm, hz, hc, hw⟩
  · exact ⟨[], Sl.nil _ _⟩
  · refine ⟨(zs.take len).map toB, by simp; omega, hl, hm, ?_⟩
    rcases Nat.eq_zero_or_pos len with e | e
    · exact .inl e
    · obtain ⟨g, o, s⟩ := x
      have h0 := hc 0 (by omega)
      have hs : s = none := by simpa [Addr.add] using World.cell?_spot h0
      subst hs
      have hb : g < w.heap.size := by simpa [Addr.add] using World.block_lt_of_cell? _ _ h0
      refine .inr ⟨g, o, rfl, hb, fun j hj => ?_⟩
      simp at hj
      have hj' : j < zs.length := by omega
      have := hc j hj'
      rw [add_some] at this
      rw [this]
      have hmem : zs[j] ∈ zs := List.getElem_mem hj'
      have hz := toB_nat (u8_of_wf (hw _ hmem))
      simp [List.getD_eq_getElem?_getD, List.getElem?_eq_getElem hj', hz]
end Go.Proofs.YthkklojjpgjiiaaFmt
namespace Go.Proofs.YthkklojjpgjiiaaFmt
open Go.RowKit Go.Extern.Stop Go.Stop Go.Extern

noncomputable def dlLoops : List Code := loopsOf ((Tryf.f46.body).getD .skip)
noncomputable def dlL1 : Code := dlLoops.getD 0 .skip
noncomputable def dlL2 : Code := dlLoops.getD 1 .skip
noncomputable def dlL3 : Code := dlLoops.getD 2 .skip
set_option maxRecDepth 100000 in
theorem arr265 (a : Array Value) (h : a.size = 265) : a = #[a.getD 0 undef, a.getD 1 undef, a.getD 2 undef, a.getD 3 undef, a.getD 4 undef, a.getD 5 undef, a.getD 6 undef, a.getD 7 undef, a.getD 8 undef, a.getD 9 undef, a.getD 10 undef, a.getD 11 undef, a.getD 12 undef, a.getD 13 undef, a.getD 14 undef, a.getD 15 undef, a.getD 16 undef, a.getD 17 undef, a.getD 18 undef, a.getD 19 undef, a.getD 20 undef, a.getD 21 undef, a.getD 22 undef, a.getD 23 undef, a.getD 24 undef, a.getD 25 undef, a.getD 26 undef, a.getD 27 undef, a.getD 28 undef, a.getD 29 undef, a.getD 30 undef, a.getD 31 undef, a.getD 32 undef, a.getD 33 undef, a.getD 34 undef, a.getD 35 undef, a.getD 36 undef, a.getD 37 undef, a.getD 38 undef, a.getD 39 undef, a.getD 40 undef, a.getD 41 undef, a.getD 42 undef, a.getD 43 undef, a.getD 44 undef, a.getD 45 undef, a.getD 46 undef, a.getD 47 undef, a.getD 48 undef, a.getD 49 undef, a.getD 50 undef, a.getD 51 undef, a.getD 52 undef, a.getD 53 undef, a.getD 54 undef, a.getD 55 undef, a.getD 56 undef, a.getD 57 undef, a.getD 58 undef, a.getD 59 undef, a.getD 60 undef, a.getD 61 undef, a.getD 62 undef, a.getD 63 undef, a.getD 64 undef, a.getD 65 undef, a.getD 66 undef, a.getD 67 undef, a.getD 68 undef, a.getD 69 undef, a.getD 70 undef, a.getD 71 undef, a.getD 72 undef, a.getD 73 undef, a.getD 74 undef, a.getD 75 undef, a.getD 76 undef, a.getD 77 undef, a.getD 78 undef, a.getD 79 undef, a.getD 80 undef, a.getD 81 undef, a.getD 82 undef, a.getD 83 undef, a.getD 84 undef, a.getD 85 undef, a.getD 86 undef, a.getD 87 undef, a.getD 88 undef, a.getD 89 undef, a.getD 90 undef, a.getD 91 undef, a.getD 92 undef, a.getD 93 undef, a.getD 94 undef, a.getD 95 undef, a.getD 96 undef, a.getD 97 undef, a.getD 98 undef, a.getD 99 undef, a.getD 100 undef, a.getD 101 undef, a.getD 102 undef, a.getD 103 undef, a.getD 104 undef, a.getD 105 undef, a.getD 106 undef, a.getD 107 undef, a.getD 108 undef, a.getD 109 undef, a.getD 110 undef, a.getD 111 undef, a.getD 112 undef, a.getD 113 undef, a.getD 114 undef, a.getD 115 undef, a.getD 116 undef, a.getD 117 undef, a.getD 118 undef, a.getD 119 undef, a.getD 120 undef, a.getD 121 undef, a.getD 122 undef, a.getD 123 undef, a.getD 124 undef, a.getD 125 undef, a.getD 126 undef, a.getD 127 undef, a.getD 128 undef, a.getD 129 undef, a.getD 130 undef, a.getD 131 undef, a.getD 132 undef, a.getD 133 undef, a.getD 134 undef, a.getD 135 undef, a.getD 136 undef, a.getD 137 undef, a.getD 138 undef, a.getD 139 undef, a.getD 140 undef, a.getD 141 undef, a.getD 142 undef, a.getD 143 undef, a.getD 144 undef, a.getD 145 undef, a.getD 146 undef, a.getD 147 undef, a.getD 148 undef, a.getD 149 undef, a.getD 150 undef, a.getD 151 undef, a.getD 152 undef, a.getD 153 undef, a.getD 154 undef, a.getD 155 undef, a.getD 156 undef, a.getD 157 undef, a.getD 158 undef, a.getD 159 undef, a.getD 160 undef, a.getD 161 undef, a.getD 162 undef, a.getD 163 undef, a.getD 164 undef, a.getD 165 undef, a.getD 166 undef, a.getD 167 undef, a.getD 168 undef, a.getD 169 undef, a.getD 170 undef, a.getD 171 undef, a.getD 172 undef, a.getD 173 undef, a.getD 174 undef, a.getD 175 undef, a.getD 176 undef, a.getD 177 undef, a.getD 178 undef, a.getD 179 undef, a.getD 180 undef, a.getD 181 undef, a.getD 182 undef, a.getD 183 undef, a.getD 184 undef, a.getD 185 undef, a.getD 186 undef, a.getD 187 undef, a.getD 188 undef, a.getD 189 undef, a.getD 190 undef, a.getD 191 undef, a.getD 192 undef, a.getD 193 undef, a.getD 194 undef, a.getD 195 undef, a.getD 196 undef, a.getD 197 undef, a.getD 198 undef, a.getD 199 undef, a.getD 200 undef, a.getD 201 undef, a.getD 202 undef, a.getD 203 undef, a.getD 204 undef, a.getD 205 undef, a.getD 206 undef, a.getD 207 undef, a.getD 208 undef, a.getD 209 undef, a.getD 210 undef, a.getD 211 undef, a.getD 212 undef, a.getD 213 undef, a.getD 214 undef, a.getD 215 undef, a.getD 216 undef, a.getD 217 undef, a.getD 218 undef, a.getD 219 undef, a.getD 220 undef, a.getD 221 undef, a.getD 222 undef, a.getD 223 undef, a.getD 224 undef, a.getD 225 undef, a.getD 226 undef, a.getD 227 undef, a.getD 228 undef, a.getD 229 undef, a.getD 230 undef, a.getD 231 undef, a.getD 232 undef, a.getD 233 undef, a.getD 234 undef, a.getD 235 undef, a.getD 236 undef, a.getD 237 undef, a.getD 238 undef, a.getD 239 undef, a.getD 240 undef, a.getD 241 undef, a.getD 242 undef, a.getD 243 undef, a.getD 244 undef, a.getD 245 undef, a.getD 246 undef, a.getD 247 undef, a.getD 248 undef, a.getD 249 undef, a.getD 250 undef, a.getD 251 undef, a.getD 252 undef, a.getD 253 undef, a.getD 254 undef, a.getD 255 undef, a.getD 256 undef, a.getD 257 undef, a.getD 258 undef, a.getD 259 undef, a.getD 260 undef, a.getD 261 undef, a.getD 262 undef, a.getD 263 undef, a.getD 264 undef] := by
  have := arr_range a 265 h
  exact this
def DlF (D U G1 G2 : Nat) (v8 : Value) (F : Act) : Prop := F.defers = [] ∧ F.tmps.size = 265 ∧ F.tmps.getD 0 undef = .pointer (some ⟨D, 0, none⟩) ∧ F.tmps.getD 3 undef = .pointer (some ⟨D, 514, none⟩) ∧ F.tmps.getD 5 undef = .pointer (some ⟨G1, 0, none⟩) ∧ F.tmps.getD 6 undef = .pointer (some ⟨G2, 0, none⟩) ∧ F.tmps.getD 7 undef = .slice (some ⟨U, 0, none⟩) 256 256 ∧ F.tmps.getD 8 undef = v8
set_option maxRecDepth 100000 in
theorem dl_frame {F : Act} {D U G1 G2 : Nat} {v8 : Value} (hfr : DlF D U G1 G2 v8 F) : F = ⟨#[.pointer (some ⟨D, 0, none⟩), F.tmps.getD 1 undef, F.tmps.getD 2 undef, .pointer (some ⟨D, 514, none⟩), F.tmps.getD 4 undef, .pointer (some ⟨G1, 0, none⟩), .pointer (some ⟨G2, 0, none⟩), .slice (some ⟨U, 0, none⟩) 256 256, v8, F.tmps.getD 9 undef, F.tmps.getD 10 undef, F.tmps.getD 11 undef, F.tmps.getD 12 undef, F.tmps.getD 13 undef, F.tmps.getD 14 undef, F.tmps.getD 15 undef, F.tmps.getD 16 undef, F.tmps.getD 17 undef, F.tmps.getD 18 undef, F.tmps.getD 19 undef, F.tmps.getD 20 undef, F.tmps.getD 21 undef, F.tmps.getD 22 undef, F.tmps.getD 23 undef, F.tmps.getD 24 undef, F.tmps.getD 25 undef, F.tmps.getD 26 undef, F.tmps.getD 27 undef, F.tmps.getD 28 undef, F.tmps.getD 29 undef, F.tmps.getD 30 undef, F.tmps.getD 31 undef, F.tmps.getD 32 undef, F.tmps.getD 33 undef, F.tmps.getD 34 undef, F.tmps.getD 35 undef, F.tmps.getD 36 undef, F.tmps.getD 37 undef, F.tmps.getD 38 undef, F.tmps.getD 39 undef, F.tmps.getD 40 undef, F.tmps.getD 41 undef, F.tmps.getD 42 undef, F.tmps.getD 43 undef, F.tmps.getD 44 undef, F.tmps.getD 45 undef, F.tmps.getD 46 undef, F.tmps.getD 47 undef, F.tmps.getD 48 undef, F.tmps.getD 49 undef, F.tmps.getD 50 undef, F.tmps.getD 51 undef, F.tmps.getD 52 undef, F.tmps.getD 53 undef, F.tmps.getD 54 undef, F.tmps.getD 55 undef, F.tmps.getD 56 undef, F.tmps.getD 57 undef, F.tmps.getD 58 undef, F.tmps.getD 59 undef, F.tmps.getD 60 undef, F.tmps.getD 61 undef, F.tmps.getD 62 undef, F.tmps.getD 63 undef, F.tmps.getD 64 undef, F.tmps.getD 65 undef, F.tmps.getD 66 undef, F.tmps.getD 67 undef, F.tmps.getD 68 undef, F.tmps.getD 69 undef, F.tmps.getD 70 undef, F.tmps.getD 71 undef, F.tmps.getD 72 undef, F.tmps.getD 73 undef, F.tmps.getD 74 undef, F.tmps.getD 75 undef, F.tmps.getD 76 undef, F.tmps.getD 77 undef, F.tmps.getD 78 undef, F.tmps.getD 79 undef, F.tmps.getD 80 undef, F.tmps.getD 81 undef, F.tmps.getD 82 undef, F.tmps.getD 83 undef, F.tmps.getD 84 undef, F.tmps.getD 85 undef, F.tmps.getD 86 undef, F.tmps.getD 87 undef, F.tmps.getD 88 undef, F.tmps.getD 89 undef, F.tmps.getD 90 undef, F.tmps.getD 91 undef, F.tmps.getD 92 undef, F.tmps.getD 93 undef, F.tmps.getD 94 undef, F.tmps.getD 95 undef, F.tmps.getD 96 undef, F.tmps.getD 97 undef, F.tmps.getD 98 undef, F.tmps.getD 99 undef, F.tmps.getD 100 undef, F.tmps.getD 101 undef, F.tmps.getD 102 undef, F.tmps.getD 103 undef, F.tmps.getD 104 undef, F.tmps.getD 105 undef, F.tmps.getD 106 undef, F.tmps.getD 107 undef, F.tmps.getD 108 undef, F.tmps.getD 109 undef, F.tmps.getD 110 undef, F.tmps.getD 111 undef, F.tmps.getD 112 undef, F.tmps.getD 113 undef, F.tmps.getD 114 undef, F.tmps.getD 115 undef, F.tmps.getD 116 undef, F.tmps.getD 117 undef, F.tmps.getD 118 undef, F.tmps.getD 119 undef, F.tmps.getD 120 undef, F.tmps.getD 121 undef, F.tmps.getD 122 undef, F.tmps.getD 123 undef, F.tmps.getD 124 undef, F.tmps.getD 125 undef, F.tmps.getD 126 undef, F.tmps.getD 127 undef, F.tmps.getD 128 undef, F.tmps.getD 129 undef, F.tmps.getD 130 undef, F.tmps.getD 131 undef, F.tmps.getD 132 undef, F.tmps.getD 133 undef, F.tmps.getD 134 undef, F.tmps.getD 135 undef, F.tmps.getD 136 undef, F.tmps.getD 137 undef, F.tmps.getD 138 undef, F.tmps.getD 139 undef, F.tmps.getD 140 undef, F.tmps.getD 141 undef, F.tmps.getD 142 undef, F.tmps.getD 143 undef, F.tmps.getD 144 undef, F.tmps.getD 145 undef, F.tmps.getD 146 undef, F.tmps.getD 147 undef, F.tmps.getD 148 undef, F.tmps.getD 149 undef, F.tmps.getD 150 undef, F.tmps.getD 151 undef, F.tmps.getD 152 undef, F.tmps.getD 153 undef, F.tmps.getD 154 undef, F.tmps.getD 155 undef, F.tmps.getD 156 undef, F.tmps.getD 157 undef, F.tmps.getD 158 undef, F.tmps.getD 159 undef, F.tmps.getD 160 undef, F.tmps.getD 161 undef, F.tmps.getD 162 undef, F.tmps.getD 163 undef, F.tmps.getD 164 undef, F.tmps.getD 165 undef, F.tmps.getD 166 undef, F.tmps.getD 167 undef, F.tmps.getD 168 undef, F.tmps.getD 169 undef, F.tmps.getD 170 undef, F.tmps.getD 171 undef, F.tmps.getD 172 undef, F.tmps.getD 173 undef, F.tmps.getD 174 undef, F.tmps.getD 175 undef, F.tmps.getD 176 undef, F.tmps.getD 177 undef, F.tmps.getD 178 undef, F.tmps.getD 179 undef, F.tmps.getD 180 undef, F.tmps.getD 181 undef, F.tmps.getD 182 undef, F.tmps.getD 183 undef, F.tmps.getD 184 undef, F.tmps.getD 185 undef, F.tmps.getD 186 undef, F.tmps.getD 187 undef, F.tmps.getD 188 undef, F.tmps.getD 189 undef, F.tmps.getD 190 undef, F.tmps.getD 191 undef, F.tmps.getD 192 undef, F.tmps.getD 193 undef, F.tmps.getD 194 undef, F.tmps.getD 195 undef, F.tmps.getD 196 undef, F.tmps.getD 197 undef, F.tmps.getD 198 undef, F.tmps.getD 199 undef, F.tmps.getD 200 undef, F.tmps.getD 201 undef, F.tmps.getD 202 undef, F.tmps.getD 203 undef, F.tmps.getD 204 undef, F.tmps.getD 205 undef, F.tmps.getD 206 undef, F.tmps.getD 207 undef, F.tmps.getD 208 undef, F.tmps.getD 209 undef, F.tmps.getD 210 undef, F.tmps.getD 211 undef, F.tmps.getD 212 undef, F.tmps.getD 213 undef, F.tmps.getD 214 undef, F.tmps.getD 215 undef, F.tmps.getD 216 undef, F.tmps.getD 217 undef, F.tmps.getD 218 undef, F.tmps.getD 219 undef, F.tmps.getD 220 undef, F.tmps.getD 221 undef, F.tmps.getD 222 undef, F.tmps.getD 223 undef, F.tmps.getD 224 undef, F.tmps.getD 225 undef, F.tmps.getD 226 undef, F.tmps.getD 227 undef, F.tmps.getD 228 undef, F.tmps.getD 229 undef, F.tmps.getD 230 undef, F.tmps.getD 231 undef, F.tmps.getD 232 undef, F.tmps.getD 233 undef, F.tmps.getD 234 undef, F.tmps.getD 235 undef, F.tmps.getD 236 undef, F.tmps.getD 237 undef, F.tmps.getD 238 undef, F.tmps.getD 239 undef, F.tmps.getD 240 undef, F.tmps.getD 241 undef, F.tmps.getD 242 undef, F.tmps.getD 243 undef, F.tmps.getD 244 undef, F.tmps.getD 245 undef, F.tmps.getD 246 undef, F.tmps.getD 247 undef, F.tmps.getD 248 undef, F.tmps.getD 249 undef, F.tmps.getD 250 undef, F.tmps.getD 251 undef, F.tmps.getD 252 undef, F.tmps.getD 253 undef, F.tmps.getD 254 undef, F.tmps.getD 255 undef, F.tmps.getD 256 undef, F.tmps.getD 257 undef, F.tmps.getD 258 undef, F.tmps.getD 259 undef, F.tmps.getD 260 undef, F.tmps.getD 261 undef, F.tmps.getD 262 undef, F.tmps.getD 263 undef, F.tmps.getD 264 undef], []⟩ := by
  obtain ⟨hd, hs, h0, h3, h5, h6, h7, h8⟩ := hfr
  have hfq := arr265 F.tmps hs
  rw [h0, h3, h5, h6, h7, h8] at hfq
  exact act_ext hfq hd
def DlR (v2 : Value) (F : Act) : Prop := F.defers = [] ∧ F.tmps.size = 265 ∧ F.tmps.getD 2 undef = v2
set_option maxRecDepth 100000 in
theorem dl_ret {F : Act} {v2 : Value} (hfr : DlR v2 F) : F = ⟨#[F.tmps.getD 0 undef, F.tmps.getD 1 undef, v2, F.tmps.getD 3 undef, F.tmps.getD 4 undef, F.tmps.getD 5 undef, F.tmps.getD 6 undef, F.tmps.getD 7 undef, F.tmps.getD 8 undef, F.tmps.getD 9 undef, F.tmps.getD 10 undef, F.tmps.getD 11 undef, F.tmps.getD 12 undef, F.tmps.getD 13 undef, F.tmps.getD 14 undef, F.tmps.getD 15 undef, F.tmps.getD 16 undef, F.tmps.getD 17 undef, F.tmps.getD 18 undef, F.tmps.getD 19 undef, F.tmps.getD 20 undef, F.tmps.getD 21 undef, F.tmps.getD 22 undef, F.tmps.getD 23 undef, F.tmps.getD 24 undef, F.tmps.getD 25 undef, F.tmps.getD 26 undef, F.tmps.getD 27 undef, F.tmps.getD 28 undef, F.tmps.getD 29 undef, F.tmps.getD 30 undef, F.tmps.getD 31 undef, F.tmps.getD 32 undef, F.tmps.getD 33 undef, F.tmps.getD 34 undef, F.tmps.getD 35 undef, F.tmps.getD 36 undef, F.tmps.getD 37 undef, F.tmps.getD 38 undef, F.tmps.getD 39 undef, F.tmps.getD 40 undef, F.tmps.getD 41 undef, F.tmps.getD 42 undef, F.tmps.getD 43 undef, F.tmps.getD 44 undef, F.tmps.getD 45 undef, F.tmps.getD 46 undef, F.tmps.getD 47 undef, F.tmps.getD 48 undef, F.tmps.getD 49 undef, F.tmps.getD 50 undef, F.tmps.getD 51 undef, F.tmps.getD 52 undef, F.tmps.getD 53 undef, F.tmps.getD 54 undef, F.tmps.getD 55 undef, F.tmps.getD 56 undef, F.tmps.getD 57 undef, F.tmps.getD 58 undef, F.tmps.getD 59 undef, F.tmps.getD 60 undef, F.tmps.getD 61 undef, F.tmps.getD 62 undef, F.tmps.getD 63 undef, F.tmps.getD 64 undef, F.tmps.getD 65 undef, F.tmps.getD 66 undef, F.tmps.getD 67 undef, F.tmps.getD 68 undef, F.tmps.getD 69 undef, F.tmps.getD 70 undef, F.tmps.getD 71 undef, F.tmps.getD 72 undef, F.tmps.getD 73 undef, F.tmps.getD 74 undef, F.tmps.getD 75 undef, F.tmps.getD 76 undef, F.tmps.getD 77 undef, F.tmps.getD 78 undef, F.tmps.getD 79 undef, F.tmps.getD 80 undef, F.tmps.getD 81 undef, F.tmps.getD 82 undef, F.tmps.getD 83 undef, F.tmps.getD 84 undef, F.tmps.getD 85 undef, F.tmps.getD 86 undef, F.tmps.getD 87 undef, F.tmps.getD 88 undef, F.tmps.getD 89 undef, F.tmps.getD 90 undef, F.tmps.getD 91 undef, F.tmps.getD 92 undef, F.tmps.getD 93 undef, F.tmps.getD 94 undef, F.tmps.getD 95 undef, F.tmps.getD 96 undef, F.tmps.getD 97 undef, F.tmps.getD 98 undef, F.tmps.getD 99 undef, F.tmps.getD 100 undef, F.tmps.getD 101 undef, F.tmps.getD 102 undef, F.tmps.getD 103 undef, F.tmps.getD 104 undef, F.tmps.getD 105 undef, F.tmps.getD 106 undef, F.tmps.getD 107 undef, F.tmps.getD 108 undef, F.tmps.getD 109 undef, F.tmps.getD 110 undef, F.tmps.getD 111 undef, F.tmps.getD 112 undef, F.tmps.getD 113 undef, F.tmps.getD 114 undef, F.tmps.getD 115 undef, F.tmps.getD 116 undef, F.tmps.getD 117 undef, F.tmps.getD 118 undef, F.tmps.getD 119 undef, F.tmps.getD 120 undef, F.tmps.getD 121 undef, F.tmps.getD 122 undef, F.tmps.getD 123 undef, F.tmps.getD 124 undef, F.tmps.getD 125 undef, F.tmps.getD 126 undef, F.tmps.getD 127 undef, F.tmps.getD 128 undef, F.tmps.getD 129 undef, F.tmps.getD 130 undef, F.tmps.getD 131 undef, F.tmps.getD 132 undef, F.tmps.getD 133 undef, F.tmps.getD 134 undef, F.tmps.getD 135 undef, F.tmps.getD 136 undef, F.tmps.getD 137 undef, F.tmps.getD 138 undef, F.tmps.getD 139 undef, F.tmps.getD 140 undef, F.tmps.getD 141 undef, F.tmps.getD 142 undef, F.tmps.getD 143 undef, F.tmps.getD 144 undef, F.tmps.getD 145 undef, F.tmps.getD 146 undef, F.tmps.getD 147 undef, F.tmps.getD 148 undef, F.tmps.getD 149 undef, F.tmps.getD 150 undef, F.tmps.getD 151 undef, F.tmps.getD 152 undef, F.tmps.getD 153 undef, F.tmps.getD 154 undef, F.tmps.getD 155 undef, F.tmps.getD 156 undef, F.tmps.getD 157 undef, F.tmps.getD 158 undef, F.tmps.getD 159 undef, F.tmps.getD 160 undef, F.tmps.getD 161 undef, F.tmps.getD 162 undef, F.tmps.getD 163 undef, F.tmps.getD 164 undef, F.tmps.getD 165 undef, F.tmps.getD 166 undef, F.tmps.getD 167 undef, F.tmps.getD 168 undef, F.tmps.getD 169 undef, F.tmps.getD 170 undef, F.tmps.getD 171 undef, F.tmps.getD 172 undef, F.tmps.getD 173 undef, F.tmps.getD 174 undef, F.tmps.getD 175 undef, F.tmps.getD 176 undef, F.tmps.getD 177 undef, F.tmps.getD 178 undef, F.tmps.getD 179 undef, F.tmps.getD 180 undef, F.tmps.getD 181 undef, F.tmps.getD 182 undef, F.tmps.getD 183 undef, F.tmps.getD 184 undef, F.tmps.getD 185 undef, F.tmps.getD 186 undef, F.tmps.getD 187 undef, F.tmps.getD 188 undef, F.tmps.getD 189 undef, F.tmps.getD 190 undef, F.tmps.getD 191 undef, F.tmps.getD 192 undef, F.tmps.getD 193 undef, F.tmps.getD 194 undef, F.tmps.getD 195 undef, F.tmps.getD 196 undef, F.tmps.getD 197 undef, F.tmps.getD 198 undef, F.tmps.getD 199 undef, F.tmps.getD 200 undef, F.tmps.getD 201 undef, F.tmps.getD 202 undef, F.tmps.getD 203 undef, F.tmps.getD 204 undef, F.tmps.getD 205 undef, F.tmps.getD 206 undef, F.tmps.getD 207 undef, F.tmps.getD 208 undef, F.tmps.getD 209 undef, F.tmps.getD 210 undef, F.tmps.getD 211 undef, F.tmps.getD 212 undef, F.tmps.getD 213 undef, F.tmps.getD 214 undef, F.tmps.getD 215 undef, F.tmps.getD 216 undef, F.tmps.getD 217 undef, F.tmps.getD 218 undef, F.tmps.getD 219 undef, F.tmps.getD 220 undef, F.tmps.getD 221 undef, F.tmps.getD 222 undef, F.tmps.getD 223 undef, F.tmps.getD 224 undef, F.tmps.getD 225 undef, F.tmps.getD 226 undef, F.tmps.getD 227 undef, F.tmps.getD 228 undef, F.tmps.getD 229 undef, F.tmps.getD 230 undef, F.tmps.getD 231 undef, F.tmps.getD 232 undef, F.tmps.getD 233 undef, F.tmps.getD 234 undef, F.tmps.getD 235 undef, F.tmps.getD 236 undef, F.tmps.getD 237 undef, F.tmps.getD 238 undef, F.tmps.getD 239 undef, F.tmps.getD 240 undef, F.tmps.getD 241 undef, F.tmps.getD 242 undef, F.tmps.getD 243 undef, F.tmps.getD 244 undef, F.tmps.getD 245 undef, F.tmps.getD 246 undef, F.tmps.getD 247 undef, F.tmps.getD 248 undef, F.tmps.getD 249 undef, F.tmps.getD 250 undef, F.tmps.getD 251 undef, F.tmps.getD 252 undef, F.tmps.getD 253 undef, F.tmps.getD 254 undef, F.tmps.getD 255 undef, F.tmps.getD 256 undef, F.tmps.getD 257 undef, F.tmps.getD 258 undef, F.tmps.getD 259 undef, F.tmps.getD 260 undef, F.tmps.getD 261 undef, F.tmps.getD 262 undef, F.tmps.getD 263 undef, F.tmps.getD 264 undef], []⟩ := by
  obtain ⟨hd, hs, h2⟩ := hfr
  have hfq := arr265 F.tmps hs
  rw [h2] at hfq
  exact act_ext hfq hd

theorem dl_any {F : Act} (hd : F.defers = []) (hs : F.tmps.size = 265) : DlR (F.tmps.getD 2 undef) F := ⟨hd, hs, rfl⟩
noncomputable def dlX1 : Code := cL (cR (cR (cR (cR (cR (cR (cR (cR (cL (cR (cL dlL1)))))))))))
noncomputable def dlX2 : Code := cL (cR (cR (cR (cR (cR (cR (cR (cR (cL (cR (cL dlL2)))))))))))
/-- an error is handed back -/
def DlErr (w0 : World) (D U H : Nat) (R : WRes) (F : Act) (w : World) : Prop :=
  F.defers = [] ∧ F.tmps.size = 265 ∧ ∃ b s, F.tmps.getD 2 undef = .iface 107 (.pointer (some ⟨b, 0, none⟩)) ∧ w.cell? ⟨b, 0, none⟩ = some (.string s) ∧ (R = .refused ∨ R = .open_) ∧ Only (fun k => k = D ∨ k = U ∨ k = H) w0 w
/-- between rounds of four symbols -/
def DlRel (w0 : World) (D U T S G1 G2 H : Nat) (Z : Option Obj) (A : Option Addr) (n c : Nat) (l : List UInt8) (f0 : Nat → Value) (sy bt bs : Nat → Nat) (R : WRes) (v8 : Value) (wr : World) : Prop :=
  ∃ (off rd a1 a2 : Nat) (out : List Int), v8 = .int .u8 (out.length : Nat) ∧ out.length ≤ 252 ∧ out.length % 4 = 0 ∧ St1 w0 D U T S G1 G2 H Z A n c l f0 sy bt bs R off rd a1 a2 out wr
end Go.Proofs.YthkklojjpgjiiaaFmt
namespace Go.Proofs.YthkklojjpgjiiaaFmt
open Go.RowKit

/-- cells k .. are laid anew -/
def updL (f : Nat → Value) : Nat → List Value → (Nat → Value)
  | _, [] => f
  | k, v :: vs => updL (updV f k v) (k + 1) vs
theorem updL_out : ∀ (vs : List Value) (f : Nat → Value) (k i : Nat), (i < k ∨ k + vs.length ≤ i) → updL f k vs i = f i
  | [], _, _, _, _ => rfl
  | v :: vs, f, k, i, h => by
    simp only [List.length_cons] at h
    unfold updL
    rw [updL_out vs _ _ _ (by omega), updV_ne _ _ _ _ (by omega)]
theorem updL_in : ∀ (vs : List Value) (f : Nat → Value) (k j : Nat) (v : Value), vs[j]? = some v → updL f k vs (k + j) = v
  | [], _, _, _, _, h => by simp at h
  | u :: vs, f, k, 0, v, h => by
    unfold updL
    rw [updL_out vs _ _ _ (by omega), Nat.add_zero, updV_same]
    simpa using h
  | u :: vs, f, k, j + 1, v, h => by
    unfold updL
    have := updL_in vs (updV f k u) (k + 1) j v (by simpa using h)
    rwa [show k + 1 + j = k + (j + 1) by omega] at this
theorem RowF.setCells {g : Nat} {T : TypeId} {N : Nat} : ∀ (vs : List Value) {w : World} {f : Nat → Value} (_ : RowF w g T N f) (k : Nat), RowF (w.setCells g k vs) g T N (updL f k vs)
  | [], _, _, h, _ => h
  | v :: vs, _, _, h, k => RowF.setCells vs (h.set_ k v) (k + 1)
theorem Only.setCells {S : Nat → Prop} {w0 : World} {g : Nat} (hg : S g) : ∀ (vs : List Value) {w : World} (_ : Only S w0 w) (k : Nat), Only S w0 (w.setCells g k vs)
  | [], _, h, _ => h
  | v :: vs, _, h, k => Only.setCells hg vs (h.set_ (p := ⟨g, k, none⟩) hg v) (k + 1)
theorem setCells_size {g : Nat} : ∀ (vs : List Value) (w : World) (k : Nat), (w.setCells g k vs).heap.size = w.heap.size
  | [], _, _ => rfl
  | v :: vs, w, k => by
    show ((w.setCell ⟨g, k, none⟩ v).setCells g (k + 1) vs).heap.size = _
    rw [setCells_size vs]
    exact setCell_size _ _

/-- numbers as cells -/
def u8s (l : List Int) : List Value := l.map (Value.int .u8)
/-- a slice of bytes in the cells oH .. of block H, with room for 256 -/
def OutA (w : World) (H oH NH : Nat) (TH : TypeId) (fh0 : Nat → Value) (v : Value) (out : List Int) : Prop :=
  v = .slice (some ⟨H, oH, none⟩) out.length 256 ∧ out.length ≤ 256 ∧ oH + 256 ≤ NH ∧ ∃ fh, RowF w H TH NH fh ∧ (∀ k, k < oH ∨ oH + 256 ≤ k → fh k = fh0 k) ∧ ∀ k, k < out.length → fh (oH + k) = .int .u8 (out.getD k 0)
theorem OutA.same {w w' : World} {H oH NH : Nat} {TH : TypeId} {fh0 : Nat → Value} {v : Value} {out : List Int} (h : OutA w H oH NH TH fh0 v out) (hs : w'.heap[H]? = w.heap[H]?) : OutA w' H oH NH TH fh0 v out := by
  obtain ⟨h1, h2, h3, fh, h4, h5⟩ := h
  exact ⟨h1, h2, h3, fh, h4.same hs, h5⟩
theorem wpList_out {w : World} {ops : Array Oper} {rest : List Oper} {o : Oper} {a : Act} {Q : Exit → Act → World → Prop} (hgd : o.guard = none) (s x : Operand)
    (ho : o.op = .call { callee := .builtin .append, args := #[s, x], argTypes := #[28, 28] })
    {H oH NH : Nat} {TH : TypeId} {fh0 : Nat → Value} {v : Value} {out : List Int} (hs : a.eval s = v) (hO : OutA w H oH NH TH fh0 v out) (ad : Addr) (m c : Nat) (news : List Int) (hx : a.eval x = .slice (some ad) m c) (hn : news.length = m) (hm : m ≤ 1000)
    (hc : ∀ k, k < m → w.cell? (ad.add k) = some (.int .u8 (news.getD k 0)))
    (hA : out.length + m ≤ 256 → ∀ w', OutA w' H oH NH TH fh0 (.slice (some ⟨H, oH, none⟩) (out.length + m) 256) (out ++ news) → Only (· = H) w w' → wpList Tryf.prog ops Q rest (a.put o.dst (.slice (some ⟨H, oH, none⟩) (out.length + m) 256)) w')
    (hB : 256 < out.length + m → ∀ g cap w', Only (fun _ => False) w w' → wpList Tryf.prog ops Q rest (a.put o.dst (.slice (some ⟨g, 0, none⟩) (out.length + m) cap)) w') :
    wpList Tryf.prog ops Q (o :: rest) a w := by
  obtain ⟨rfl, hl, hN, fh, hr, hk, hcell⟩ := hO
  have hnews : ∀ j u, (u8s news)[j]? = some u → w.cell? (ad.add j) = some u := by
    intro j u hu
    unfold u8s at hu
    rw [List.getElem?_map, Option.map_eq_some_iff] at hu
    obtain ⟨z, hz, rfl⟩ := hu
    have hj : j < news.length := (List.getElem?_eq_some_iff.1 hz).1
    rw [hc j (by omega), List.getD_eq_getElem?_getD, hz]
    rfl
  have hone : ∀ u ∈ u8s news, u.oneCell' = true := by
    intro u hu
    simp only [u8s, List.mem_map] at hu
    obtain ⟨z, _, rfl⟩ := hu
    rfl
  have hnl : (u8s news).length = m := by simp [u8s, hn]
  by_cases hroom : out.length + m ≤ 256
  · refine wpList_append_room1 w hgd s x 28 28 ho 5 (.int .u8 0) 1 Tryf.underlying28 info_u8 H oH out.length 256 hs _ hx m (u8s news) (Src.ofSlice _ Tryf.underlying28 ad m c _ (by rw [hnl, Nat.mul_one]) hnews hone) hroom ?_ ?_ ?_
    · intro j hj
      rw [hnl] at hj
      rw [hr.cell (oH + out.length + j) (by omega)]
      rfl
    · intro j hj
      exact hr.frozen _
    · refine hA hroom _ ⟨by simp [hn], by simp [hn]; omega, hN, _, hr.setCells (u8s news) (oH + out.length), fun k hk2 => ?_, fun k hk2 => ?_⟩ (Only.setCells (S := (· = H)) (g := H) rfl _ (Only.refl (· = H) w) _)
      · rw [updL_out _ _ _ _ (by rw [hnl]; omega)]
        exact hk k hk2
      · rw [List.length_append] at hk2
        by_cases h1 : k < out.length
        · rw [updL_out _ _ _ _ (by omega), hcell k h1, List.getD_eq_getElem?_getD, List.getD_eq_getElem?_getD, List.getElem?_append_left h1]
        · have h2 : (u8s news)[k - out.length]? = some (.int .u8 (news.getD (k - out.length) 0)) := by
            unfold u8s
            rw [List.getElem?_map, List.getElem?_eq_getElem (by omega), List.getD_eq_getElem?_getD, List.getElem?_eq_getElem (by omega)]
            rfl
          have h3 := updL_in (u8s news) fh (oH + out.length) _ _ h2
          rw [show oH + out.length + (k - out.length) = oH + k by omega] at h3
          rw [h3, List.getD_eq_getElem?_getD, List.getD_eq_getElem?_getD, List.getElem?_append_right (by omega)]
  · obtain ⟨i, hi, hz, hsz, hby⟩ := info_parts info_u8
    refine wpList_append_grows w hgd s x 28 ho 5 i (.int .u8 0) 1 1 Tryf.underlying28 hi hz hsz hby rfl (by omega) (some ⟨H, oH, none⟩) out.length 256 (u8s out) hs (fun e => by cases e) (by simp [u8s]) ?_ ad m c (u8s news) hx (by rw [hnl, Nat.mul_one]) hnews hone (by omega) (by unfold maxLen; omega) (by omega) ?_
    · rintro b e j u hu
      cases e
      unfold u8s at hu
      rw [List.getElem?_map, Option.map_eq_some_iff] at hu
      obtain ⟨z, hz2, rfl⟩ := hu
      have hj : j < out.length := (List.getElem?_eq_some_iff.1 hz2).1
      rw [add_some, hr.cell (oH + j) (by omega), hcell j hj, List.getD_eq_getElem?_getD, hz2]
      rfl
    · rintro v' w' ⟨_, ⟨_, h0⟩ | ⟨g, cap, cur, rfl, _⟩⟩ hg
      · omega
      · exact hB (by omega) g cap w' ⟨hg.os, hg.tape, hg.output, hg.size, fun k _ hk2 => hg.block k hk2 (by simp), fun k hk _ _ ⟨f, hf⟩ => ⟨f, hf.same (hg.block k hk (by simp))⟩⟩
/-- the same as one step of a region that draws its order -/
theorem step_out {w : World} {ops : Array Oper} {o : Oper} {a : Act} {K : Act → World → Prop} {Q : Exit → Act → World → Prop} {E : Prop} (hgd : o.guard = none) (s x : Operand)
    (ho : o.op = .call { callee := .builtin .append, args := #[s, x], argTypes := #[28, 28] })
    {H oH NH : Nat} {TH : TypeId} {fh0 : Nat → Value} {v : Value} {out : List Int} (hs : a.eval s = v) (hO : OutA w H oH NH TH fh0 v out) (ad : Addr) (m c : Nat) (news : List Int) (hx : a.eval x = .slice (some ad) m c) (hn : news.length = m)
    (hc : ∀ k, k < m → w.cell? (ad.add k) = some (.int .u8 (news.getD k 0))) (hroom : out.length + m ≤ 256)
    (hA : ∀ w', OutA w' H oH NH TH fh0 (.slice (some ⟨H, oH, none⟩) (out.length + m) 256) (out ++ news) → Only (· = H) w w' → w'.heap.size = w.heap.size → K (a.put o.dst (.slice (some ⟨H, oH, none⟩) (out.length + m) 256)) w') :
    if Region.wanted o (yielded ops a.tmps) = true then Oper.wp Tryf.prog o a w K Q else E := by
  have hw : Region.wanted o (yielded ops a.tmps) = true := by simp [Region.wanted, hgd]
  rw [if_pos hw]
  obtain ⟨rfl, hl, hN, fh, hr, hk, hcell⟩ := hO
  have hnews : ∀ j u, (u8s news)[j]? = some u → w.cell? (ad.add j) = some u := by
    intro j u hu
    unfold u8s at hu
    rw [List.getElem?_map, Option.map_eq_some_iff] at hu
    obtain ⟨z, hz, rfl⟩ := hu
    have hj : j < news.length := (List.getElem?_eq_some_iff.1 hz).1
    rw [hc j (by omega), List.getD_eq_getElem?_getD, hz]
    rfl
  have hone : ∀ u ∈ u8s news, u.oneCell' = true := by
    intro u hu
    simp only [u8s, List.mem_map] at hu
    obtain ⟨z, _, rfl⟩ := hu
    rfl
  have hnl : (u8s news).length = m := by simp [u8s, hn]
  obtain ⟨i, hi, hz, hsz, hby⟩ := info_parts info_u8
  have hrun := run_append_room_src (P := Tryf.prog) w 28 28 o.type 5 i Tryf.underlying28 hi H oH out.length 256 (.slice (some ad) m c) m (u8s news) (Src.ofSlice _ Tryf.underlying28 ad m c _ (by rw [hnl, hsz, Nat.mul_one]) hnews hone) hroom
    (by intro j hj; rw [hnl] at hj; rw [hsz, Nat.mul_one, hr.cell (oH + out.length + j) (by omega)]; rfl) (by intro j hj; exact hr.frozen _)
  rw [hsz, Nat.mul_one] at hrun
  unfold Oper.wp execOp
  simp only [ho, resolve, invoke, builtin, Sem.run_bind, Sem.run_pure, Result.andThen_ok, List.map_toArray, List.map_cons, List.map_nil, hs, hx, hrun]
  refine hA _ ⟨by simp [hn], by simp [hn]; omega, hN, _, hr.setCells (u8s news) (oH + out.length), fun k hk2 => ?_, fun k hk2 => ?_⟩ (Only.setCells (S := (· = H)) (g := H) rfl _ (Only.refl (· = H) w) _) (setCells_size _ _ _)
  · rw [updL_out _ _ _ _ (by rw [hnl]; omega)]
    exact hk k hk2
  · rw [List.length_append] at hk2
    by_cases h1 : k < out.length
    · rw [updL_out _ _ _ _ (by omega), hcell k h1, List.getD_eq_getElem?_getD, List.getD_eq_getElem?_getD, List.getElem?_append_left h1]
    · have h2 : (u8s news)[k - out.length]? = some (.int .u8 (news.getD (k - out.length) 0)) := by
        unfold u8s
        rw [List.getElem?_map, List.getElem?_eq_getElem (by omega), List.getD_eq_getElem?_getD, List.getElem?_eq_getElem (by omega)]
        rfl
      have h3 := updL_in (u8s news) fh (oH + out.length) _ _ h2
      rw [show oH + out.length + (k - out.length) = oH + k by omega] at h3
      rw [h3, List.getD_eq_getElem?_getD, List.getD_eq_getElem?_getD, List.getElem?_append_right (by omega)]
end Go.Proofs.YthkklojjpgjiiaaFmt
namespace Go.Proofs.YthkklojjpgjiiaaFmt
open Go.RowKit Go.Extern.Stop Go.Stop Go.Extern

theorem DcM.alloc {w0 wr : World} {D U T S G1 G2 H : Nat} {Z : Option Obj} {A : Option Addr} {n c : Nat} {l : List UInt8} {sy bt bs : Nat → Nat} {a1 a2 : Nat} {out : List Int} (E : DcE D U T S G1 G2 H sy bt bs) (h : DcM w0 D U T S G1 G2 H Z A n c l sy bt bs a1 a2 out wr) (o : Obj) : DcM w0 D U T S G1 G2 H Z A n c l sy bt bs a1 a2 out (wr.alloc o) := by
  obtain ⟨h1, h2, h3, ⟨tmp, h4, h5⟩, h6, h7, h8, h9⟩ := h
  have hlt := h1.lt
  have hH := E.hHD; have hD := E.hDT
  exact ⟨h1.alloc o, h2.alloc o, h3.alloc o, ⟨tmp, h4.alloc o, h5⟩, h6.alloc (by omega) o, h7, h8.alloc o, (Below.heap_alloc wr o H (by omega)).trans h9⟩
theorem DcM.noTmp {w0 wr : World} {D U T S G1 G2 H : Nat} {Z : Option Obj} {A : Option Addr} {n c : Nat} {l : List UInt8} {sy bt bs : Nat → Nat} {a1 a2 : Nat} {out : List Int} (h : DcM w0 D U T S G1 G2 H Z A n c l sy bt bs a1 a2 out wr) : DcM w0 D U T S G1 G2 H Z A n c l sy bt bs a1 a2 [] wr := by
  obtain ⟨h1, h2, h3, ⟨tmp, h4, h5⟩, h6⟩ := h
  exact ⟨h1, h2, h3, ⟨tmp, h4, fun k hk => absurd hk (Nat.not_lt_zero k)⟩, h6⟩
/-- the reader of bits, the states, the bytes put out -/
structure Fin (w0 : World) (D U T S G1 G2 H oH NH : Nat) (TH : TypeId) (fh0 : Nat → Value) (A : Option Addr) (n c : Nat) (l : List UInt8) (f0 : Nat → Value) (sy bt bs : Nat → Nat) (off rd a1 a2 : Nat) (out : List Int) (v : Value) (wr : World) : Prop where
  hb : BrIn wr D 98 534 514 A n c l (updV f0 526 v) off rd wr
  hm : ∃ Z, DcM w0 D U T S G1 G2 H Z A n c l sy bt bs a1 a2 [] wr
  ho : OutA wr H oH NH TH fh0 v out
  h1 : a1 < S
  h2 : a2 < S
section
variable {w0 wr w' : World} {D U T S G1 G2 H oH NH : Nat} {TH : TypeId} {fh0 : Nat → Value} {A : Option Addr} {n c off rd : Nat} {l : List UInt8} {f0 : Nat → Value} {sy bt bs : Nat → Nat} {a1 a2 : Nat} {out : List Int} {v : Value}
theorem Fin.drewN (h : Fin w0 D U T S G1 G2 H oH NH TH fh0 A n c l f0 sy bt bs off rd a1 a2 out v wr) (q : Nat) : Fin w0 D U T S G1 G2 H oH NH TH fh0 A n c l f0 sy bt bs off rd a1 a2 out v (wr.drewN q) := by
  obtain ⟨hb, ⟨Z, hm⟩, ho, h1, h2⟩ := h
  exact ⟨(hb.drewN q).base, ⟨Z, hm.drewN q⟩, ho, h1, h2⟩
theorem Fin.alloc (E : DcE D U T S G1 G2 H sy bt bs) (h : Fin w0 D U T S G1 G2 H oH NH TH fh0 A n c l f0 sy bt bs off rd a1 a2 out v wr) (o : Obj) : Fin w0 D U T S G1 G2 H oH NH TH fh0 A n c l f0 sy bt bs off rd a1 a2 out v (wr.alloc o) := by
  obtain ⟨hb, ⟨Z, hm⟩, ho, h1, h2⟩ := h
  have hlt := hm.1.lt
  have hH := E.hHD; have hD := E.hDT
  exact ⟨hb.allocN o, ⟨Z, hm.alloc E o⟩, ho.same (Below.heap_alloc wr o H (by omega)), h1, h2⟩
theorem Fin.c526 (h : Fin w0 D U T S G1 G2 H oH NH TH fh0 A n c l f0 sy bt bs off rd a1 a2 out v wr) : wr.cell? ⟨D, 526, none⟩ = some v := by
  obtain ⟨f, val, hr, hk, hs, _⟩ := h.hb
  exact hr.cellv 526 (by omega) _ (by rw [hk 526 (by omega) (by omega) (by omega), updV_same])
theorem Fin.lt (h : Fin w0 D U T S G1 G2 H oH NH TH fh0 A n c l f0 sy bt bs off rd a1 a2 out v wr) : D < wr.heap.size := by
  obtain ⟨f, val, hr, _⟩ := h.hb
  exact hr.lt
theorem Fin.z526 (h : Fin w0 D U T S G1 G2 H oH NH TH fh0 A n c l f0 sy bt bs off rd a1 a2 out v wr) : wr.frozen? ⟨D, 526, none⟩ = false := by
  obtain ⟨f, val, hr, _⟩ := h.hb
  exact hr.frozen 526
/-- bytes are appended -/
theorem Fin.app (E : DcE D U T S G1 G2 H sy bt bs) (h : Fin w0 D U T S G1 G2 H oH NH TH fh0 A n c l f0 sy bt bs off rd a1 a2 out v wr) {out' : List Int} {v' : Value} (hO : OutA w' H oH NH TH fh0 v' out') (hon : Only (· = H) wr w') :
    w'.cell? ⟨D, 526, none⟩ = some v ∧ w'.frozen? ⟨D, 526, none⟩ = false ∧ Fin w0 D U T S G1 G2 H oH NH TH fh0 A n c l f0 sy bt bs off rd a1 a2 out' v' (w'.setCell ⟨D, 526, none⟩ v') := by
  obtain ⟨⟨f, val, hr, hk, hs, hbo, _⟩, ⟨Z, m1, m2, m3, ⟨tmp, m4, m5⟩, m6, m7, m8, m9⟩, ho, h1, h2⟩ := h
  have hH := E.hHD; have hD := E.hDT; have hT := E.hTU; have hU := E.hU1; have h12 := E.h12
  have hr' := hon.row hr (by omega)
  refine ⟨hr'.cellv 526 (by omega) _ (by rw [hk 526 (by omega) (by omega) (by omega), updV_same]), hr'.frozen 526, ⟨_, val, (hr'.set_ 526 v'), fun k q1 q2 q3 => ?_, ?_, hbo, Only.refl _ _⟩, ⟨_, (hon.row m1 (by omega)).other _ (show D ≠ T by omega), (hon.row m2 (by omega)).other _ (show D ≠ G1 by omega), (hon.row m3 (by omega)).other _ (show D ≠ G2 by omega), ⟨tmp, (hon.row m4 (by omega)).other _ (show D ≠ U by omega), m5⟩, (m6.keep fun b o hb => World.cell?_of_block (hon.block b (by omega) (by have := m1.lt; omega))).setCell (by show H ≤ D; omega) _, m7, (m8.trans (hon.mono fun _ e => .inr (.inr e))).set_ (.inl rfl) _, rfl⟩, hO.same (setCell_heap _ (show H ≠ D by omega)), h1, h2⟩
  · unfold updV
    by_cases e : k = 526
    · rw [if_pos e, if_pos e]
    · rw [if_neg e, if_neg e, hk k q1 q2 q3, updV_ne _ _ _ _ e]
  · obtain ⟨s1, s2, s3, s4⟩ := hs
    exact ⟨by rw [updV_ne _ _ _ _ (by omega)]; exact s1, by rw [updV_ne _ _ _ _ (by omega)]; exact s2, by rw [updV_ne _ _ _ _ (by omega)]; exact s3, by rw [updV_ne _ _ _ _ (by omega)]; exact s4⟩
theorem Fin.next1 (E : DcE D U T S G1 G2 H sy bt bs) (h : Fin w0 D U T S G1 G2 H oH NH TH fh0 A n c l f0 sy bt bs off rd a1 a2 out v wr) (hrd : bt a1 ≤ 64 - rd) :
    Calls Tryf.prog 68 #[.pointer (some ⟨G1, 0, none⟩)] wr fun e w' => e = .returned (.int .u8 (sy a1 : Nat)) ∧ Fin w0 D U T S G1 G2 H oH NH TH fh0 A n c l f0 sy bt bs off (rd + bt a1) (bs a1 + numF l (leftB off rd - bt a1) (bt a1)) a2 out v w' := by
  obtain ⟨hb, ⟨Z, hm⟩, ho, h1, h2⟩ := h
  refine (dcN1 E hb hm h1 hrd).mono ?_
  rintro e w' ⟨rfl, hn, hb', hm'⟩
  exact ⟨rfl, hb', ⟨Z, hm'⟩, ho.same (hm'.2.2.2.2.2.2.2.trans hm.2.2.2.2.2.2.2.symm), hn, h2⟩
theorem Fin.next2 (E : DcE D U T S G1 G2 H sy bt bs) (h : Fin w0 D U T S G1 G2 H oH NH TH fh0 A n c l f0 sy bt bs off rd a1 a2 out v wr) (hrd : bt a2 ≤ 64 - rd) :
    Calls Tryf.prog 68 #[.pointer (some ⟨G2, 0, none⟩)] wr fun e w' => e = .returned (.int .u8 (sy a2 : Nat)) ∧ Fin w0 D U T S G1 G2 H oH NH TH fh0 A n c l f0 sy bt bs off (rd + bt a2) a1 (bs a2 + numF l (leftB off rd - bt a2) (bt a2)) out v w' := by
  obtain ⟨hb, ⟨Z, hm⟩, ho, h1, h2⟩ := h
  refine (dcN2 E hb hm h2 hrd).mono ?_
  rintro e w' ⟨rfl, hn, hb', hm'⟩
  exact ⟨rfl, hb', ⟨Z, hm'⟩, ho.same (hm'.2.2.2.2.2.2.2.trans hm.2.2.2.2.2.2.2.symm), h1, hn⟩
theorem Fin.final1 (h : Fin w0 D U T S G1 G2 H oH NH TH fh0 A n c l f0 sy bt bs off rd a1 a2 out v wr) :
    Calls Tryf.prog 70 #[.pointer (some ⟨G1, 0, none⟩)] wr fun e w' => e = .returned (.int .u8 (sy a1 : Nat)) ∧ Fin w0 D U T S G1 G2 H oH NH TH fh0 A n c l f0 sy bt bs off rd a1 a2 out v w' := by
  obtain ⟨Z, hm⟩ := h.hm
  refine (dcFinal_any hm.2.1 hm.1 h.h1).mono ?_
  rintro e w' ⟨rfl, q, rfl⟩
  exact ⟨rfl, h.drewN q⟩
theorem Fin.final2 (h : Fin w0 D U T S G1 G2 H oH NH TH fh0 A n c l f0 sy bt bs off rd a1 a2 out v wr) :
    Calls Tryf.prog 70 #[.pointer (some ⟨G2, 0, none⟩)] wr fun e w' => e = .returned (.int .u8 (sy a2 : Nat)) ∧ Fin w0 D U T S G1 G2 H oH NH TH fh0 A n c l f0 sy bt bs off rd a1 a2 out v w' := by
  obtain ⟨Z, hm⟩ := h.hm
  refine (dcFinal_any hm.2.2.1 hm.1 h.h2).mono ?_
  rintro e w' ⟨rfl, q, rfl⟩
  exact ⟨rfl, h.drewN q⟩
end
end Go.Proofs.YthkklojjpgjiiaaFmt
namespace Go.Proofs.YthkklojjpgjiiaaFmt
open Go.RowKit

/-- block H is as it was but for the cells oH .. oH + 255 -/
def HKeep (H oH NH : Nat) (TH : TypeId) (fh0 : Nat → Value) (w : World) : Prop := ∃ fh, RowF w H TH NH fh ∧ ∀ k, k < oH ∨ oH + 256 ≤ k → fh k = fh0 k
theorem OutA.keepH {w : World} {H oH NH : Nat} {TH : TypeId} {fh0 : Nat → Value} {v : Value} {out : List Int} (h : OutA w H oH NH TH fh0 v out) : HKeep H oH NH TH fh0 w := by
  obtain ⟨_, _, _, fh, hr, hk, _⟩ := h
  exact ⟨fh, hr, hk⟩
theorem HKeep.only {w w' : World} {H oH NH : Nat} {TH : TypeId} {fh0 : Nat → Value} (h : HKeep H oH NH TH fh0 w) {S : Nat → Prop} (ho : Only S w w') (hS : ¬ S H) : HKeep H oH NH TH fh0 w' := by
  obtain ⟨fh, hr, hk⟩ := h
  exact ⟨fh, ho.row hr hS, hk⟩
/-- an error is handed back, block H keeps its other cells -/
def DlErrK (w0 : World) (D U H oH NH : Nat) (TH : TypeId) (fh0 : Nat → Value) (R : WRes) (F : Act) (w : World) : Prop := DlErr w0 D U H R F w ∧ HKeep H oH NH TH fh0 w
end Go.Proofs.YthkklojjpgjiiaaFmt
