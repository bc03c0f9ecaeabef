/-
  huff0's setMaxHeight: nodes with their lengths, the table of last positions, the loops taken out of the translation. Definitions and plain lemmas.
-/
import Derived.Test.YthkklojjpgjiiaaFmtCodeT04
import Derived.Test.YthkklojjpgjiiaaFmtCodeT18
namespace Go.Proofs.YthkklojjpgjiiaaFmt
open Go.RowKit

/-- n nodes with counts, parents, symbols, lengths; the others hold z -/
def NV (z : Nat → Nat) (n : Nat) (c pa sy l : Nat → Nat) (k : Nat) : Nat := if 1 ≤ k ∧ k ≤ n then nd (c (k - 1)) (pa (k - 1)) (sy (k - 1)) (l (k - 1)) else z k
/-- the nodes' fields fit -/
def NdB (n : Nat) (c pa sy : Nat → Nat) : Prop := ∀ p, p < n → c p < 65536 ∧ pa p < 32768 ∧ sy p < 256
section
variable {z c pa sy l l' : Nat → Nat} {n p : Nat}
theorem NV_at (hp : p < n) : ndV (NV z n c pa sy l) (1 + p) = .int .u64 (nd (c p) (pa p) (sy p) (l p) : Nat) := by
  unfold ndV NV
  rw [if_pos (by omega), show 1 + p - 1 = p by omega]
theorem NV_set (hp : p < n) (v : Nat) : ∀ k, k < 513 → updV (ndV (NV z n c pa sy l)) (1 + p) (.int .u64 (nd (c p) (pa p) (sy p) v : Nat)) k = ndV (NV z n c pa sy (updN l p v)) k := fun k _ => by
  unfold updV ndV NV updN
  by_cases e : k = 1 + p
  · subst e
    rw [if_pos rfl, if_pos (by omega), show 1 + p - 1 = p by omega, if_pos rfl]
  · rw [if_neg e]
    by_cases e2 : 1 ≤ k ∧ k ≤ n
    · rw [if_pos e2, if_pos e2, if_neg (by omega)]
    · rw [if_neg e2, if_neg e2]
theorem NV_congr (h : ∀ p, p < n → l p = l' p) : ∀ k, k < 513 → ndV (NV z n c pa sy l) k = ndV (NV z n c pa sy l') k := fun k _ => by
  unfold ndV NV
  by_cases e2 : 1 ≤ k ∧ k ≤ n
  · rw [if_pos e2, if_pos e2, h _ (by omega)]
  · rw [if_neg e2, if_neg e2]
end
/-- a position, or none -/
def rnkN : Option Nat → Nat
  | none => 4042322160
  | some p => p
def rkV (r : Nat → Option Nat) (k : Nat) : Value := .int .u32 (rnkN (r k) : Nat)
def updO (r : Nat → Option Nat) (b : Nat) (o : Option Nat) (k : Nat) : Option Nat := if k = b then o else r k
theorem rkV_upd (r : Nat → Option Nat) (b : Nat) (o : Option Nat) : ∀ k, k < 13 → updV (rkV r) b (.int .u32 (rnkN o : Nat)) k = rkV (updO r b o) k := fun k _ => by
  unfold updV rkV updO
  by_cases e : k = b
  · rw [if_pos e, if_pos e]
  · rw [if_neg e, if_neg e]
/-- what stands at a rank that was looked at -/
def RRok (r : Nat → Option Nat) (b' p : Nat) (rr : Option Nat) : Prop := (r b' = none ∧ rr = some p) ∨ ∃ q, r b' = some q ∧ rr = some q
theorem payR_eq {r : Nat → Option Nat} {l : Nat → Nat} {M b b' p : Nat} {rr o : Option Nat} (hb : b = b' + 1) (hrr : RRok r b' p rr) (ho : o = if p = 0 then none else if l (p - 1) + b = M then some (p - 1) else none) :
    ∀ j, j < 13 → rkV (updO (updO r b' rr) b o) j = rkV (payR r l M b p) j := fun j _ => by
  unfold rkV updO payR
  congr 2
  by_cases e : j = b
  · rw [if_pos e, if_pos e, ho]
  · rw [if_neg e, if_neg e]
    by_cases e2 : j = b'
    · rw [if_pos e2, if_pos (by omega), show b - 1 = b' by omega]
      rcases hrr with ⟨h1, h2⟩ | ⟨q, h1, h2⟩
      · rw [h1, h2]
      · rw [h1, h2]
    · rw [if_neg e2, if_neg (by omega)]
theorem updO_twice (r : Nat → Option Nat) (b : Nat) (o o2 : Option Nat) : ∀ j, j < 13 → rkV (updO (updO r b o) b o2) j = rkV (updO r b o2) j := fun j _ => by
  unfold rkV updO
  congr 2
  by_cases e : j = b
  · rw [if_pos e, if_pos e]
  · rw [if_neg e, if_neg e, if_neg e]
theorem updO_self {r : Nat → Option Nat} {b : Nat} {o : Option Nat} (h : r b = o) : ∀ j, j < 13 → rkV r j = rkV (updO r b o) j := fun j _ => by
  unfold rkV updO
  by_cases e : j = b
  · rw [if_pos e, e, h]
  · rw [if_neg e]
/-- the memory while lengths are cut and paid back -/
structure MhW (w : World) (H G R : Nat) (f nvv rv : Nat → Value) (wr : World) : Prop where
  h : RowF wr H 58 540 f
  g : RowF wr G 110 513 nvv
  r : RowF wr R 149 13 rv
  only : Only (fun k => k = G ∨ w.heap.size ≤ k) w wr
section
variable {w wr : World} {H G R : Nat} {f rv rv' nvv nvv' : Nat → Value}
theorem MhW.setR (h : MhW w H G R f nvv rv wr) (hR : w.heap.size ≤ R) (hH : H < R) (hG : G < R) (k : Nat) (v : Value) (he : ∀ j, j < 13 → updV rv k v j = rv' j) : MhW w H G R f nvv rv' (wr.setCell ⟨R, k, none⟩ v) :=
  ⟨h.h.other _ (show R ≠ H by omega), h.g.other _ (show R ≠ G by omega), (h.r.set_ k v).congr he, h.only.set_ (p := ⟨R, k, none⟩) (.inr hR) v⟩
theorem MhW.setG (h : MhW w H G R f nvv rv wr) (hG : G < R) (hHG : H ≠ G) (k : Nat) (v : Value) (he : ∀ j, j < 513 → updV nvv k v j = nvv' j) : MhW w H G R f nvv' rv (wr.setCell ⟨G, k, none⟩ v) :=
  ⟨h.h.other _ (show G ≠ H by omega), (h.g.set_ k v).congr he, h.r.other _ (show G ≠ R by omega), h.only.set_ (p := ⟨G, k, none⟩) (.inl rfl) v⟩
theorem MhW.cgR (h : MhW w H G R f nvv rv wr) (he : ∀ j, j < 13 → rv j = rv' j) : MhW w H G R f nvv rv' wr := ⟨h.h, h.g, h.r.congr he, h.only⟩
theorem MhW.drewN (h : MhW w H G R f nvv rv wr) (q : Nat) : MhW w H G R f nvv rv (wr.drewN q) := ⟨h.h.drewN q, h.g.drewN q, h.r.drewN q, h.only.drewN q⟩
end
theorem wrap_sub (T b : Nat) (hT : T < 256) (hb : b ≤ 11) : wrap64 ((T : Int) - wrap64 ((2 : Int) ^ (b - 1))) = (T : Int) - ((2 ^ (b - 1) : Nat) : Int) := by
  have h1 : (2 : Nat) ^ (b - 1) ≤ 1024 := Nat.le_trans (Nat.pow_le_pow_right (by omega) (show b - 1 ≤ 10 by omega)) (by decide)
  have h2 : (2 : Int) ^ (b - 1) = ((2 ^ (b - 1) : Nat) : Int) := by push_cast; rfl
  rw [h2]
  generalize 2 ^ (b - 1) = P at *
  unfold wrap64
  omega
/-- lengths cut behind position i -/
def cutF (M : Nat) (l : Nat → Nat) (i j : Nat) : Nat := if i < j then min (l j) M else l j
theorem wrap_pow (d : Nat) (hd : d ≤ 48) : wrap64 ((2 : Int) ^ d) = ((2 ^ d : Nat) : Int) := by
  have h1 : (2 : Nat) ^ d ≤ 281474976710656 := Nat.le_trans (Nat.pow_le_pow_right (by omega) hd) (by decide)
  have h2 : (2 : Int) ^ d = ((2 ^ d : Nat) : Int) := by push_cast; rfl
  rw [h2]
  generalize 2 ^ d = P at *
  unfold wrap64
  omega
theorem wrap_nat (C : Nat) (x : Int) (hx : x = (C : Nat)) (hC : C < 9223372036854775808) : wrap64 x = (C : Nat) := by
  subst hx
  unfold wrap64
  omega
theorem wrap_diff {B Ee D : Nat} (hB : B ≤ 8796093022208) (h : Ee ≤ B) (hD : B - Ee = D) : wrap64 ((B : Int) - (Ee : Int)) = (D : Nat) := wrap_nat D _ (by omega) (by omega)
theorem wrap_sum {Cc D C2 B : Nat} (hB : B ≤ 8796093022208) (hC : Cc ≤ 256 * B) (hD : D ≤ B) (h : Cc + D = C2) : wrap64 ((Cc : Int) + (D : Int)) = (C2 : Nat) := wrap_nat C2 _ (by omega) (by omega)
def rk0 (i k : Nat) : Value := .int .u32 (if k < i then 4042322160 else 0 : Nat)
/-- all loops that stand in no other, in order -/
def cuLoops : Code → List Code
  | .loop c => [.loop c]
  | .seq a b => cuLoops a ++ cuLoops b
  | .block _ c => cuLoops c
  | .scope c => cuLoops c
  | .cond _ a b => cuLoops a ++ cuLoops b
  | _ => []
theorem arr_rangeC (a : Array Value) (n : Nat) (h : a.size = n) : a = ((List.range n).map fun i => a.getD i undef).toArray := by
  subst h
  apply Array.ext
  · simp
  · intro i h1 h2
    simp [Array.getD, h1]
theorem act_extC {F : Act} {t : Array Value} (h : F.tmps = t) (hd : F.defers = []) : F = ⟨t, []⟩ := by cases F; cases hd; cases h; rfl
noncomputable def mhLoops : List Code := cuLoops ((Tryf.f34.body).getD .skip)
noncomputable def mhL8 : Code := mhLoops.getD 4 .skip
noncomputable def mhL14 : Code := mhLoops.getD 5 .skip
def cuI : Code → Code
  | .block _ c => c
  | .loop c => c
  | c => c
def cuR : Code → Code
  | .seq _ b => b
  | c => c
noncomputable def mhB8 : Code := cuI mhL8
noncomputable def mhW2 : Code := cuR (cuR (cuR (cuR (cuR (cuR (cuR (cuR (cuR (cuR (cuR ((Tryf.f34.body).getD .skip)))))))))))
noncomputable def mhT8 : Code := cuR (cuR (cuR (cuI (cuR mhB8))))
noncomputable def mhS8 : Code := cuR (cuR mhT8)
noncomputable def mhU8 : Code := cuR mhS8
/-- the state between rounds of paying back -/
def MhP (w : World) (H G R n M : Nat) (f : Nat → Value) (z c pa sy : Nat → Nat) (i : Nat) (F : Act) (wr : World) : Prop :=
  (∃ (T : Nat) (l : Nat → Nat) (r : Nat → Option Nat), F.tmps.getD 8 undef = .int .i64 (T : Nat) ∧ PayI n M T i l r ∧ MhW w H G R f (ndV (NV z n c pa sy l)) (rkV r) wr) ∨ (∃ (E : Nat) (y : Int) (l : Nat → Nat) (r : Nat → Option Nat), 1 ≤ E ∧ F.tmps.getD 8 undef = .int .i64 y ∧ y = -(E : Int) ∧ i < n ∧ OvI n M E i l (r 1) ∧ MhW w H G R f (ndV (NV z n c pa sy l)) (rkV r) wr)
set_option maxRecDepth 100000 in
theorem arr256 (a : Array Value) (h : a.size = 256) : a = #[a.getD 0 undef, a.getD 1 undef, a.getD 2 undef, a.getD 3 undef, a.getD 4 undef, a.getD 5 undef, a.getD 6 undef, a.getD 7 undef, a.getD 8 undef, a.getD 9 undef, a.getD 10 undef, a.getD 11 undef, a.getD 12 undef, a.getD 13 undef, a.getD 14 undef, a.getD 15 undef, a.getD 16 undef, a.getD 17 undef, a.getD 18 undef, a.getD 19 undef, a.getD 20 undef, a.getD 21 undef, a.getD 22 undef, a.getD 23 undef, a.getD 24 undef, a.getD 25 undef, a.getD 26 undef, a.getD 27 undef, a.getD 28 undef, a.getD 29 undef, a.getD 30 undef, a.getD 31 undef, a.getD 32 undef, a.getD 33 undef, a.getD 34 undef, a.getD 35 undef, a.getD 36 undef, a.getD 37 undef, a.getD 38 undef, a.getD 39 undef, a.getD 40 undef, a.getD 41 undef, a.getD 42 undef, a.getD 43 undef, a.getD 44 undef, a.getD 45 undef, a.getD 46 undef, a.getD 47 undef, a.getD 48 undef, a.getD 49 undef, a.getD 50 undef, a.getD 51 undef, a.getD 52 undef, a.getD 53 undef, a.getD 54 undef, a.getD 55 undef, a.getD 56 undef, a.getD 57 undef, a.getD 58 undef, a.getD 59 undef, a.getD 60 undef, a.getD 61 undef, a.getD 62 undef, a.getD 63 undef, a.getD 64 undef, a.getD 65 undef, a.getD 66 undef, a.getD 67 undef, a.getD 68 undef, a.getD 69 undef, a.getD 70 undef, a.getD 71 undef, a.getD 72 undef, a.getD 73 undef, a.getD 74 undef, a.getD 75 undef, a.getD 76 undef, a.getD 77 undef, a.getD 78 undef, a.getD 79 undef, a.getD 80 undef, a.getD 81 undef, a.getD 82 undef, a.getD 83 undef, a.getD 84 undef, a.getD 85 undef, a.getD 86 undef, a.getD 87 undef, a.getD 88 undef, a.getD 89 undef, a.getD 90 undef, a.getD 91 undef, a.getD 92 undef, a.getD 93 undef, a.getD 94 undef, a.getD 95 undef, a.getD 96 undef, a.getD 97 undef, a.getD 98 undef, a.getD 99 undef, a.getD 100 undef, a.getD 101 undef, a.getD 102 undef, a.getD 103 undef, a.getD 104 undef, a.getD 105 undef, a.getD 106 undef, a.getD 107 undef, a.getD 108 undef, a.getD 109 undef, a.getD 110 undef, a.getD 111 undef, a.getD 112 undef, a.getD 113 undef, a.getD 114 undef, a.getD 115 undef, a.getD 116 undef, a.getD 117 undef, a.getD 118 undef, a.getD 119 undef, a.getD 120 undef, a.getD 121 undef, a.getD 122 undef, a.getD 123 undef, a.getD 124 undef, a.getD 125 undef, a.getD 126 undef, a.getD 127 undef, a.getD 128 undef, a.getD 129 undef, a.getD 130 undef, a.getD 131 undef, a.getD 132 undef, a.getD 133 undef, a.getD 134 undef, a.getD 135 undef, a.getD 136 undef, a.getD 137 undef, a.getD 138 undef, a.getD 139 undef, a.getD 140 undef, a.getD 141 undef, a.getD 142 undef, a.getD 143 undef, a.getD 144 undef, a.getD 145 undef, a.getD 146 undef, a.getD 147 undef, a.getD 148 undef, a.getD 149 undef, a.getD 150 undef, a.getD 151 undef, a.getD 152 undef, a.getD 153 undef, a.getD 154 undef, a.getD 155 undef, a.getD 156 undef, a.getD 157 undef, a.getD 158 undef, a.getD 159 undef, a.getD 160 undef, a.getD 161 undef, a.getD 162 undef, a.getD 163 undef, a.getD 164 undef, a.getD 165 undef, a.getD 166 undef, a.getD 167 undef, a.getD 168 undef, a.getD 169 undef, a.getD 170 undef, a.getD 171 undef, a.getD 172 undef, a.getD 173 undef, a.getD 174 undef, a.getD 175 undef, a.getD 176 undef, a.getD 177 undef, a.getD 178 undef, a.getD 179 undef, a.getD 180 undef, a.getD 181 undef, a.getD 182 undef, a.getD 183 undef, a.getD 184 undef, a.getD 185 undef, a.getD 186 undef, a.getD 187 undef, a.getD 188 undef, a.getD 189 undef, a.getD 190 undef, a.getD 191 undef, a.getD 192 undef, a.getD 193 undef, a.getD 194 undef, a.getD 195 undef, a.getD 196 undef, a.getD 197 undef, a.getD 198 undef, a.getD 199 undef, a.getD 200 undef, a.getD 201 undef, a.getD 202 undef, a.getD 203 undef, a.getD 204 undef, a.getD 205 undef, a.getD 206 undef, a.getD 207 undef, a.getD 208 undef, a.getD 209 undef, a.getD 210 undef, a.getD 211 undef, a.getD 212 undef, a.getD 213 undef, a.getD 214 undef, a.getD 215 undef, a.getD 216 undef, a.getD 217 undef, a.getD 218 undef, a.getD 219 undef, a.getD 220 undef, a.getD 221 undef, a.getD 222 undef, a.getD 223 undef, a.getD 224 undef, a.getD 225 undef, a.getD 226 undef, a.getD 227 undef, a.getD 228 undef, a.getD 229 undef, a.getD 230 undef, a.getD 231 undef, a.getD 232 undef, a.getD 233 undef, a.getD 234 undef, a.getD 235 undef, a.getD 236 undef, a.getD 237 undef, a.getD 238 undef, a.getD 239 undef, a.getD 240 undef, a.getD 241 undef, a.getD 242 undef, a.getD 243 undef, a.getD 244 undef, a.getD 245 undef, a.getD 246 undef, a.getD 247 undef, a.getD 248 undef, a.getD 249 undef, a.getD 250 undef, a.getD 251 undef, a.getD 252 undef, a.getD 253 undef, a.getD 254 undef, a.getD 255 undef] := by
  have := arr_rangeC a 256 h
  exact this
def MhF (M G R : Nat) (v8 v10 : Value) (F : Act) : Prop := F.defers = [] ∧ F.tmps.size = 256 ∧ F.tmps.getD 5 undef = .int .u8 (M : Nat) ∧ F.tmps.getD 6 undef = .slice (some ⟨G, 1, none⟩) 512 512 ∧ F.tmps.getD 8 undef = v8 ∧ F.tmps.getD 10 undef = v10 ∧ F.tmps.getD 11 undef = .pointer (some ⟨R, 0, none⟩)
set_option maxRecDepth 100000 in
theorem mh_frame {F : Act} {M G R : Nat} {v8 v10 : Value} (hfr : MhF M G R v8 v10 F) : F = ⟨#[F.tmps.getD 0 undef, F.tmps.getD 1 undef, F.tmps.getD 2 undef, F.tmps.getD 3 undef, F.tmps.getD 4 undef, .int .u8 (M : Nat), .slice (some ⟨G, 1, none⟩) 512 512, F.tmps.getD 7 undef, v8, F.tmps.getD 9 undef, v10, .pointer (some ⟨R, 0, none⟩), F.tmps.getD 12 undef, F.tmps.getD 13 undef, F.tmps.getD 14 undef, F.tmps.getD 15 undef, F.tmps.getD 16 undef, F.tmps.getD 17 undef, F.tmps.getD 18 undef, F.tmps.getD 19 undef, F.tmps.getD 20 undef, F.tmps.getD 21 undef, F.tmps.getD 22 undef, F.tmps.getD 23 undef, F.tmps.getD 24 undef, F.tmps.getD 25 undef, F.tmps.getD 26 undef, F.tmps.getD 27 undef, F.tmps.getD 28 undef, F.tmps.getD 29 undef, F.tmps.getD 30 undef, F.tmps.getD 31 undef, F.tmps.getD 32 undef, F.tmps.getD 33 undef, F.tmps.getD 34 undef, F.tmps.getD 35 undef, F.tmps.getD 36 undef, F.tmps.getD 37 undef, F.tmps.getD 38 undef, F.tmps.getD 39 undef, F.tmps.getD 40 undef, F.tmps.getD 41 undef, F.tmps.getD 42 undef, F.tmps.getD 43 undef, F.tmps.getD 44 undef, F.tmps.getD 45 undef, F.tmps.getD 46 undef, F.tmps.getD 47 undef, F.tmps.getD 48 undef, F.tmps.getD 49 undef, F.tmps.getD 50 undef, F.tmps.getD 51 undef, F.tmps.getD 52 undef, F.tmps.getD 53 undef, F.tmps.getD 54 undef, F.tmps.getD 55 undef, F.tmps.getD 56 undef, F.tmps.getD 57 undef, F.tmps.getD 58 undef, F.tmps.getD 59 undef, F.tmps.getD 60 undef, F.tmps.getD 61 undef, F.tmps.getD 62 undef, F.tmps.getD 63 undef, F.tmps.getD 64 undef, F.tmps.getD 65 undef, F.tmps.getD 66 undef, F.tmps.getD 67 undef, F.tmps.getD 68 undef, F.tmps.getD 69 undef, F.tmps.getD 70 undef, F.tmps.getD 71 undef, F.tmps.getD 72 undef, F.tmps.getD 73 undef, F.tmps.getD 74 undef, F.tmps.getD 75 undef, F.tmps.getD 76 undef, F.tmps.getD 77 undef, F.tmps.getD 78 undef, F.tmps.getD 79 undef, F.tmps.getD 80 undef, F.tmps.getD 81 undef, F.tmps.getD 82 undef, F.tmps.getD 83 undef, F.tmps.getD 84 undef, F.tmps.getD 85 undef, F.tmps.getD 86 undef, F.tmps.getD 87 undef, F.tmps.getD 88 undef, F.tmps.getD 89 undef, F.tmps.getD 90 undef, F.tmps.getD 91 undef, F.tmps.getD 92 undef, F.tmps.getD 93 undef, F.tmps.getD 94 undef, F.tmps.getD 95 undef, F.tmps.getD 96 undef, F.tmps.getD 97 undef, F.tmps.getD 98 undef, F.tmps.getD 99 undef, F.tmps.getD 100 undef, F.tmps.getD 101 undef, F.tmps.getD 102 undef, F.tmps.getD 103 undef, F.tmps.getD 104 undef, F.tmps.getD 105 undef, F.tmps.getD 106 undef, F.tmps.getD 107 undef, F.tmps.getD 108 undef, F.tmps.getD 109 undef, F.tmps.getD 110 undef, F.tmps.getD 111 undef, F.tmps.getD 112 undef, F.tmps.getD 113 undef, F.tmps.getD 114 undef, F.tmps.getD 115 undef, F.tmps.getD 116 undef, F.tmps.getD 117 undef, F.tmps.getD 118 undef, F.tmps.getD 119 undef, F.tmps.getD 120 undef, F.tmps.getD 121 undef, F.tmps.getD 122 undef, F.tmps.getD 123 undef, F.tmps.getD 124 undef, F.tmps.getD 125 undef, F.tmps.getD 126 undef, F.tmps.getD 127 undef, F.tmps.getD 128 undef, F.tmps.getD 129 undef, F.tmps.getD 130 undef, F.tmps.getD 131 undef, F.tmps.getD 132 undef, F.tmps.getD 133 undef, F.tmps.getD 134 undef, F.tmps.getD 135 undef, F.tmps.getD 136 undef, F.tmps.getD 137 undef, F.tmps.getD 138 undef, F.tmps.getD 139 undef, F.tmps.getD 140 undef, F.tmps.getD 141 undef, F.tmps.getD 142 undef, F.tmps.getD 143 undef, F.tmps.getD 144 undef, F.tmps.getD 145 undef, F.tmps.getD 146 undef, F.tmps.getD 147 undef, F.tmps.getD 148 undef, F.tmps.getD 149 undef, F.tmps.getD 150 undef, F.tmps.getD 151 undef, F.tmps.getD 152 undef, F.tmps.getD 153 undef, F.tmps.getD 154 undef, F.tmps.getD 155 undef, F.tmps.getD 156 undef, F.tmps.getD 157 undef, F.tmps.getD 158 undef, F.tmps.getD 159 undef, F.tmps.getD 160 undef, F.tmps.getD 161 undef, F.tmps.getD 162 undef, F.tmps.getD 163 undef, F.tmps.getD 164 undef, F.tmps.getD 165 undef, F.tmps.getD 166 undef, F.tmps.getD 167 undef, F.tmps.getD 168 undef, F.tmps.getD 169 undef, F.tmps.getD 170 undef, F.tmps.getD 171 undef, F.tmps.getD 172 undef, F.tmps.getD 173 undef, F.tmps.getD 174 undef, F.tmps.getD 175 undef, F.tmps.getD 176 undef, F.tmps.getD 177 undef, F.tmps.getD 178 undef, F.tmps.getD 179 undef, F.tmps.getD 180 undef, F.tmps.getD 181 undef, F.tmps.getD 182 undef, F.tmps.getD 183 undef, F.tmps.getD 184 undef, F.tmps.getD 185 undef, F.tmps.getD 186 undef, F.tmps.getD 187 undef, F.tmps.getD 188 undef, F.tmps.getD 189 undef, F.tmps.getD 190 undef, F.tmps.getD 191 undef, F.tmps.getD 192 undef, F.tmps.getD 193 undef, F.tmps.getD 194 undef, F.tmps.getD 195 undef, F.tmps.getD 196 undef, F.tmps.getD 197 undef, F.tmps.getD 198 undef, F.tmps.getD 199 undef, F.tmps.getD 200 undef, F.tmps.getD 201 undef, F.tmps.getD 202 undef, F.tmps.getD 203 undef, F.tmps.getD 204 undef, F.tmps.getD 205 undef, F.tmps.getD 206 undef, F.tmps.getD 207 undef, F.tmps.getD 208 undef, F.tmps.getD 209 undef, F.tmps.getD 210 undef, F.tmps.getD 211 undef, F.tmps.getD 212 undef, F.tmps.getD 213 undef, F.tmps.getD 214 undef, F.tmps.getD 215 undef, F.tmps.getD 216 undef, F.tmps.getD 217 undef, F.tmps.getD 218 undef, F.tmps.getD 219 undef, F.tmps.getD 220 undef, F.tmps.getD 221 undef, F.tmps.getD 222 undef, F.tmps.getD 223 undef, F.tmps.getD 224 undef, F.tmps.getD 225 undef, F.tmps.getD 226 undef, F.tmps.getD 227 undef, F.tmps.getD 228 undef, F.tmps.getD 229 undef, F.tmps.getD 230 undef, F.tmps.getD 231 undef, F.tmps.getD 232 undef, F.tmps.getD 233 undef, F.tmps.getD 234 undef, F.tmps.getD 235 undef, F.tmps.getD 236 undef, F.tmps.getD 237 undef, F.tmps.getD 238 undef, F.tmps.getD 239 undef, F.tmps.getD 240 undef, F.tmps.getD 241 undef, F.tmps.getD 242 undef, F.tmps.getD 243 undef, F.tmps.getD 244 undef, F.tmps.getD 245 undef, F.tmps.getD 246 undef, F.tmps.getD 247 undef, F.tmps.getD 248 undef, F.tmps.getD 249 undef, F.tmps.getD 250 undef, F.tmps.getD 251 undef, F.tmps.getD 252 undef, F.tmps.getD 253 undef, F.tmps.getD 254 undef, F.tmps.getD 255 undef], []⟩ := by
  obtain ⟨hd, hs, h5, h6, h8, h10, h11⟩ := hfr
  have hfq := arr256 F.tmps hs
  rw [h5, h6, h8, h10, h11] at hfq
  exact act_extC hfq hd
def MhR (v4 : Value) (F : Act) : Prop := F.defers = [] ∧ F.tmps.size = 256 ∧ F.tmps.getD 4 undef = v4
set_option maxRecDepth 100000 in
theorem mh_ret {F : Act} {v4 : Value} (hfr : MhR v4 F) : F = ⟨#[F.tmps.getD 0 undef, F.tmps.getD 1 undef, F.tmps.getD 2 undef, F.tmps.getD 3 undef, v4, F.tmps.getD 5 undef, F.tmps.getD 6 undef, F.tmps.getD 7 undef, F.tmps.getD 8 undef, F.tmps.getD 9 undef, F.tmps.getD 10 undef, F.tmps.getD 11 undef, F.tmps.getD 12 undef, F.tmps.getD 13 undef, F.tmps.getD 14 undef, F.tmps.getD 15 undef, F.tmps.getD 16 undef, F.tmps.getD 17 undef, F.tmps.getD 18 undef, F.tmps.getD 19 undef, F.tmps.getD 20 undef, F.tmps.getD 21 undef, F.tmps.getD 22 undef, F.tmps.getD 23 undef, F.tmps.getD 24 undef, F.tmps.getD 25 undef, F.tmps.getD 26 undef, F.tmps.getD 27 undef, F.tmps.getD 28 undef, F.tmps.getD 29 undef, F.tmps.getD 30 undef, F.tmps.getD 31 undef, F.tmps.getD 32 undef, F.tmps.getD 33 undef, F.tmps.getD 34 undef, F.tmps.getD 35 undef, F.tmps.getD 36 undef, F.tmps.getD 37 undef, F.tmps.getD 38 undef, F.tmps.getD 39 undef, F.tmps.getD 40 undef, F.tmps.getD 41 undef, F.tmps.getD 42 undef, F.tmps.getD 43 undef, F.tmps.getD 44 undef, F.tmps.getD 45 undef, F.tmps.getD 46 undef, F.tmps.getD 47 undef, F.tmps.getD 48 undef, F.tmps.getD 49 undef, F.tmps.getD 50 undef, F.tmps.getD 51 undef, F.tmps.getD 52 undef, F.tmps.getD 53 undef, F.tmps.getD 54 undef, F.tmps.getD 55 undef, F.tmps.getD 56 undef, F.tmps.getD 57 undef, F.tmps.getD 58 undef, F.tmps.getD 59 undef, F.tmps.getD 60 undef, F.tmps.getD 61 undef, F.tmps.getD 62 undef, F.tmps.getD 63 undef, F.tmps.getD 64 undef, F.tmps.getD 65 undef, F.tmps.getD 66 undef, F.tmps.getD 67 undef, F.tmps.getD 68 undef, F.tmps.getD 69 undef, F.tmps.getD 70 undef, F.tmps.getD 71 undef, F.tmps.getD 72 undef, F.tmps.getD 73 undef, F.tmps.getD 74 undef, F.tmps.getD 75 undef, F.tmps.getD 76 undef, F.tmps.getD 77 undef, F.tmps.getD 78 undef, F.tmps.getD 79 undef, F.tmps.getD 80 undef, F.tmps.getD 81 undef, F.tmps.getD 82 undef, F.tmps.getD 83 undef, F.tmps.getD 84 undef, F.tmps.getD 85 undef, F.tmps.getD 86 undef, F.tmps.getD 87 undef, F.tmps.getD 88 undef, F.tmps.getD 89 undef, F.tmps.getD 90 undef, F.tmps.getD 91 undef, F.tmps.getD 92 undef, F.tmps.getD 93 undef, F.tmps.getD 94 undef, F.tmps.getD 95 undef, F.tmps.getD 96 undef, F.tmps.getD 97 undef, F.tmps.getD 98 undef, F.tmps.getD 99 undef, F.tmps.getD 100 undef, F.tmps.getD 101 undef, F.tmps.getD 102 undef, F.tmps.getD 103 undef, F.tmps.getD 104 undef, F.tmps.getD 105 undef, F.tmps.getD 106 undef, F.tmps.getD 107 undef, F.tmps.getD 108 undef, F.tmps.getD 109 undef, F.tmps.getD 110 undef, F.tmps.getD 111 undef, F.tmps.getD 112 undef, F.tmps.getD 113 undef, F.tmps.getD 114 undef, F.tmps.getD 115 undef, F.tmps.getD 116 undef, F.tmps.getD 117 undef, F.tmps.getD 118 undef, F.tmps.getD 119 undef, F.tmps.getD 120 undef, F.tmps.getD 121 undef, F.tmps.getD 122 undef, F.tmps.getD 123 undef, F.tmps.getD 124 undef, F.tmps.getD 125 undef, F.tmps.getD 126 undef, F.tmps.getD 127 undef, F.tmps.getD 128 undef, F.tmps.getD 129 undef, F.tmps.getD 130 undef, F.tmps.getD 131 undef, F.tmps.getD 132 undef, F.tmps.getD 133 undef, F.tmps.getD 134 undef, F.tmps.getD 135 undef, F.tmps.getD 136 undef, F.tmps.getD 137 undef, F.tmps.getD 138 undef, F.tmps.getD 139 undef, F.tmps.getD 140 undef, F.tmps.getD 141 undef, F.tmps.getD 142 undef, F.tmps.getD 143 undef, F.tmps.getD 144 undef, F.tmps.getD 145 undef, F.tmps.getD 146 undef, F.tmps.getD 147 undef, F.tmps.getD 148 undef, F.tmps.getD 149 undef, F.tmps.getD 150 undef, F.tmps.getD 151 undef, F.tmps.getD 152 undef, F.tmps.getD 153 undef, F.tmps.getD 154 undef, F.tmps.getD 155 undef, F.tmps.getD 156 undef, F.tmps.getD 157 undef, F.tmps.getD 158 undef, F.tmps.getD 159 undef, F.tmps.getD 160 undef, F.tmps.getD 161 undef, F.tmps.getD 162 undef, F.tmps.getD 163 undef, F.tmps.getD 164 undef, F.tmps.getD 165 undef, F.tmps.getD 166 undef, F.tmps.getD 167 undef, F.tmps.getD 168 undef, F.tmps.getD 169 undef, F.tmps.getD 170 undef, F.tmps.getD 171 undef, F.tmps.getD 172 undef, F.tmps.getD 173 undef, F.tmps.getD 174 undef, F.tmps.getD 175 undef, F.tmps.getD 176 undef, F.tmps.getD 177 undef, F.tmps.getD 178 undef, F.tmps.getD 179 undef, F.tmps.getD 180 undef, F.tmps.getD 181 undef, F.tmps.getD 182 undef, F.tmps.getD 183 undef, F.tmps.getD 184 undef, F.tmps.getD 185 undef, F.tmps.getD 186 undef, F.tmps.getD 187 undef, F.tmps.getD 188 undef, F.tmps.getD 189 undef, F.tmps.getD 190 undef, F.tmps.getD 191 undef, F.tmps.getD 192 undef, F.tmps.getD 193 undef, F.tmps.getD 194 undef, F.tmps.getD 195 undef, F.tmps.getD 196 undef, F.tmps.getD 197 undef, F.tmps.getD 198 undef, F.tmps.getD 199 undef, F.tmps.getD 200 undef, F.tmps.getD 201 undef, F.tmps.getD 202 undef, F.tmps.getD 203 undef, F.tmps.getD 204 undef, F.tmps.getD 205 undef, F.tmps.getD 206 undef, F.tmps.getD 207 undef, F.tmps.getD 208 undef, F.tmps.getD 209 undef, F.tmps.getD 210 undef, F.tmps.getD 211 undef, F.tmps.getD 212 undef, F.tmps.getD 213 undef, F.tmps.getD 214 undef, F.tmps.getD 215 undef, F.tmps.getD 216 undef, F.tmps.getD 217 undef, F.tmps.getD 218 undef, F.tmps.getD 219 undef, F.tmps.getD 220 undef, F.tmps.getD 221 undef, F.tmps.getD 222 undef, F.tmps.getD 223 undef, F.tmps.getD 224 undef, F.tmps.getD 225 undef, F.tmps.getD 226 undef, F.tmps.getD 227 undef, F.tmps.getD 228 undef, F.tmps.getD 229 undef, F.tmps.getD 230 undef, F.tmps.getD 231 undef, F.tmps.getD 232 undef, F.tmps.getD 233 undef, F.tmps.getD 234 undef, F.tmps.getD 235 undef, F.tmps.getD 236 undef, F.tmps.getD 237 undef, F.tmps.getD 238 undef, F.tmps.getD 239 undef, F.tmps.getD 240 undef, F.tmps.getD 241 undef, F.tmps.getD 242 undef, F.tmps.getD 243 undef, F.tmps.getD 244 undef, F.tmps.getD 245 undef, F.tmps.getD 246 undef, F.tmps.getD 247 undef, F.tmps.getD 248 undef, F.tmps.getD 249 undef, F.tmps.getD 250 undef, F.tmps.getD 251 undef, F.tmps.getD 252 undef, F.tmps.getD 253 undef, F.tmps.getD 254 undef, F.tmps.getD 255 undef], []⟩ := by
  obtain ⟨hd, hs, h4⟩ := hfr
  have hfq := arr256 F.tmps hs
  rw [h4] at hfq
  exact act_extC hfq hd

end Go.Proofs.YthkklojjpgjiiaaFmt
