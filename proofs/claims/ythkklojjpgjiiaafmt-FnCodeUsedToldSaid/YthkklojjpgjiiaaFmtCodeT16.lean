/-
  DERIVED: THE SHELF's CONTRACTS AT THIS DUMP, IN PLAIN WORDS (tools/lay-plain.mjs out of 'TryfShelf.lean', which tools/lay-shelf.mjs wrote): THE SAME DECLARATIONS UNDER THE SAME NAMES: 'import', 'namespace', 'open', 'def', 'theorem' AND NOTHING ELSE: no command of the shelf's: FOR A HAND-IN. Each laying: the table of numbers ('.._ren') and one theorem, a field a fact of the dump's own or the kernel's comparison; each contract: ONE APPLICATION.
  Weights that are encoded: the reading of the stream as a relation, plain. Conditions: those of each.
  highBits, highBit32, tableStep; and the bit reader's numbers, plain. Conditions: those of each.
-/
import Derived.Shelf.Small.Bits
import Derived.Ground.MnProg
import Derived.Shelf.Bin.LEUint64
import Derived.Shelf.Bin.ReadersZ
import Derived.Test.YthkklojjpgjiiaaFmtProg
import Derived.Test.YthkklojjpgjiiaaFmtCodeT15
import Derived.Test.YthkklojjpgjiiaaFmtCodeT12
namespace Go.Proofs
open Go.Shelf
def Tryf.lays128_ren : Go.Shelf.Ren := ⟨fun | 128 => 47 | n => n, fun | 51 => 39 | 3 => 3 | 4 => 4 | 46 => 75 | 5 => 5 | 9 => 9 | n => n, fun | n => n⟩
theorem Tryf.lays128 : Go.Proofs.Lays.n128 Tryf.prog Tryf.lays128_ren := {
  mixed := by kernel_rfl
  f128 := Tryf.func47.trans (congrArg some (by kernel_rfl))
  t3 := Tryf.underlying3
  a3 := Tryf.isAgg3
  z3 := Tryf.sizeOf3
  v3 := Tryf.zeroValue3
  t4 := Tryf.underlying4
  a4 := Tryf.isAgg4
  z4 := Tryf.sizeOf4
  v4 := Tryf.zeroValue4
  t5 := Tryf.underlying5
  a5 := Tryf.isAgg5
  z5 := Tryf.sizeOf5
  v5 := Tryf.zeroValue5
  t9 := Tryf.underlying9
  a9 := Tryf.isAgg9
  z9 := Tryf.sizeOf9
  v9 := Tryf.zeroValue9
  t46 := Tryf.underlying75
  a46 := Tryf.isAgg75
  z46 := Tryf.sizeOf75
  v46 := Tryf.zeroValue75
  t51 := Tryf.underlying39
  a51 := Tryf.isAgg39
  z51 := Tryf.sizeOf39
  v51 := Tryf.zeroValue39 }
/-- bits.Len32: "Len32 returns the minimum number of bits required to represent x; the result is 0 for x == 0.": IT RETURNS 'Lib.bitLen x'; the world is as it was. ('h0', 'h1': x is a uint32.) (LAID: no walk: one application.) -/
theorem Tryf.bits_Len32 (x : Int) (w : World) (h0 : 0 ≤ x) (h1 : x ≤ 4294967295) :
    Calls Tryf.prog 47 #[.int .u32 x] w fun e w' => e = .returned (.int .i64 (Lib.bitLen x.toNat)) ∧ w' = w := Any.bits_Len32 Tryf.lays128 x w h0 h1
def Tryf.laysBin33_ren : Go.Shelf.Ren := ⟨fun | 33 => 77 | n => n, fun | 25 => 172 | 22 => 28 | 33 => 88 | 0 => 0 | 5 => 5 | 45 => 75 | n => n, fun | n => n⟩
theorem Tryf.laysBin33 : Go.Proofs.LaysBin.n33 Tryf.prog Tryf.laysBin33_ren := {
  mixed := by kernel_rfl
  f33 := Tryf.func77.trans (congrArg some (by kernel_rfl))
  t0 := Tryf.underlying0
  a0 := Tryf.isAgg0
  z0 := Tryf.sizeOf0
  v0 := Tryf.zeroValue0
  i0 := by kernel_rfl
  t5 := Tryf.underlying5
  a5 := Tryf.isAgg5
  z5 := Tryf.sizeOf5
  v5 := Tryf.zeroValue5
  i5 := by kernel_rfl
  t22 := Tryf.underlying28
  a22 := Tryf.isAgg28
  z22 := Tryf.sizeOf28
  v22 := Tryf.zeroValue28
  i22 := by kernel_rfl
  t25 := Tryf.underlying172
  a25 := Tryf.isAgg172
  z25 := Tryf.sizeOf172
  v25 := Tryf.zeroValue172
  i25 := by kernel_rfl
  t33 := Tryf.underlying88
  a33 := Tryf.isAgg88
  z33 := Tryf.sizeOf88
  v33 := Tryf.zeroValue88
  i33 := by kernel_rfl
  t45 := Tryf.underlying75
  a45 := Tryf.isAgg75
  z45 := Tryf.sizeOf75
  v45 := Tryf.zeroValue75
  i45 := by kernel_rfl }
open Go.RowKit in
/-- binary.LittleEndian.Uint64: "Uint64 returns the uint64 representation of b[0:8].": THE NUMBER THAT THE FIRST 8 BYTES SPELL, the least byte first ('Lib.leNat'). Of what was there nothing has turned (the receiver, an empty struct, is laid in a new block without cells; the statement's order is drawn). (LAID: no walk: one application.) -/
theorem Tryf.binary_LE_Uint64 (g o n c : Nat) (b0 b1 b2 b3 b4 b5 b6 b7 : UInt8) (w : World) (hn : 8 ≤ n) (c0 : w.cell? ⟨g, o, none⟩ = some (.int .u8 b0.toNat)) (c1 : w.cell? ⟨g, o + 1, none⟩ = some (.int .u8 b1.toNat)) (c2 : w.cell? ⟨g, o + 2, none⟩ = some (.int .u8 b2.toNat)) (c3 : w.cell? ⟨g, o + 3, none⟩ = some (.int .u8 b3.toNat)) (c4 : w.cell? ⟨g, o + 4, none⟩ = some (.int .u8 b4.toNat)) (c5 : w.cell? ⟨g, o + 5, none⟩ = some (.int .u8 b5.toNat)) (c6 : w.cell? ⟨g, o + 6, none⟩ = some (.int .u8 b6.toNat)) (c7 : w.cell? ⟨g, o + 7, none⟩ = some (.int .u8 b7.toNat)) :
    Calls Tryf.prog 77 #[.agg #[], .slice (some ⟨g, o, none⟩) n c] w fun e w' => e = .returned (.int .u64 (Lib.leNat [b0, b1, b2, b3, b4, b5, b6, b7])) ∧ Below w.heap.size w w' := Any.binary_LE_Uint64 Tryf.laysBin33 g o n c b0 b1 b2 b3 b4 b5 b6 b7 w hn c0 c1 c2 c3 c4 c5 c6 c7
open Go.RowKit in
/-- binary.LittleEndian.Uint64, ITS PREMISES 'open_ints'' CONCLUSION TO THE LETTER: a slice at WHATEVER address a, the numbers zs that its cells hold: THE NUMBER THAT THE FIRST 8 SPELL ('Lib.leZ'). (LAID: no walk: one application.) -/
theorem Tryf.binary_LE_Uint64_z (a : Addr) (n c : Nat) (zs : List Int) (w : World) (hn : 8 ≤ n) (hl : 8 ≤ zs.length) (hcell : ∀ i, i < zs.length → w.cell? (a.add i) = some (.int .u8 (zs.getD i 0))) (hw : ∀ z ∈ zs, (Lit.int .u8 z).wf = true) :
    Calls Tryf.prog 77 #[.agg #[], .slice (some a) n c] w fun e w' => e = .returned (.int .u64 (Lib.leZ (zs.take 8))) ∧ Below w.heap.size w w' := Any.binary_LE_Uint64_z Tryf.laysBin33 a n c zs w hn hl hcell hw
end Go.Proofs
namespace Go.Proofs.YthkklojjpgjiiaaFmt
open Go.RowKit

theorem wpList_append_i2 (w : World) {ops : Array Oper} {rest : List Oper} {o : Oper} {a : Act} {Q : Exit → Act → World → Prop} (hgd : o.guard = none) (s x : Operand)
    (ho : o.op = .call { callee := .builtin .append, args := #[s, x], argTypes := #[29, 29] })
    (base : Nat) (v : Value) (l : List Int) (hs : a.eval s = v) (hown : OwnI w base v l) (g : Nat) (hx : a.eval x = .slice (some ⟨g, 0, none⟩) 1 1) (c : Int) (hc : w.cell? ⟨g, 0, none⟩ = some (.int .i64 c))
    (hl : l.length ≤ 100000000) (hbase : base ≤ w.heap.size)
    (h : ∀ v' w', OwnI w' base v' (l ++ [c]) → w.grownBy w' v.ownBlock → (v'.ownBlock = v.ownBlock ∨ v'.ownBlock = some w.heap.size) → wpList Tryf.prog ops Q rest (a.put o.dst v') w') : wpList Tryf.prog ops Q (o :: rest) a w := by
  obtain ⟨i, hi, hz, hsz, hby⟩ := info_parts info_int
  refine wpList_append_own_at w hgd s x 29 ho base 3 i (.int .i64 0) 1 8 Tryf.underlying29 hi hz hsz hby rfl (by decide) v l.length (l.map (Value.int .i64)) hs hown ⟨g, 0, none⟩ 1 1 [.int .i64 c] hx rfl ?_ ?_ ?_ ?_ hbase ?_
  · intro j u hj
    match j, hj with
    | 0, hj => simp at hj; subst hj; simpa [Addr.add] using hc
  · intro u hu; simp at hu; subst hu; rfl
  · unfold maxLen; omega
  · omega
  · intro v' w' h2 h3 _ h5
    refine h v' w' ?_ h3 h5
    unfold OwnI
    rw [List.length_append, List.map_append]
    exact h2

theorem bitI_nat (l : List UInt8) (i : Nat) : bitI l (i : Int) = bitAt l i := by
  unfold bitI
  rw [if_pos (by omega), Int.toNat_natCast]
/-- bits read backwards are the number that stands there -/
theorem numB_eq (l : List UInt8) (L : Nat) : ∀ k, k ≤ L → numB l (L : Int) k = numF l (L - k) k
  | 0, _ => rfl
  | k + 1, h => by
    have ih := numB_eq l L k (by omega)
    have e := numF_add l (L - (k + 1)) 1 k
    rw [show 1 + k = k + 1 by omega, show L - (k + 1) + 1 = L - k by omega] at e
    rw [numB, ih, e, show (L : Int) - ((k + 1 : Nat) : Int) = ((L - (k + 1) : Nat) : Int) by omega, bitI_nat]
    have : numF l (L - (k + 1)) 1 = bitAt l (L - (k + 1)) := by simp [numF]
    rw [this]
    omega

inductive WRes
  | open_ : WRes
  | refused : WRes
  | good : List Int → WRes

/-- the symbols of two states in turn, so many bits being left -/
inductive SR (sy bt bs : Nat → Nat) (l : List UInt8) : Nat → Nat → Nat → List Int → WRes → Prop
  | full {L a b : Nat} {out : List Int} (h : 255 < out.length) : SR sy bt bs l L a b out .refused
  | next {L a b : Nat} {out : List Int} {R : WRes} (h : out.length ≤ 255) (hb : bt a ≤ L) (hr : SR sy bt bs l (L - bt a) b (bs a + numF l (L - bt a) (bt a)) (out ++ [(sy a : Int)]) R) : SR sy bt bs l L a b out R
  | over {L a b : Nat} {out : List Int} (h : out.length ≤ 255) (hb : L < bt a) (hL : 0 < L) : SR sy bt bs l L a b out .open_
  | end_ {a b : Nat} {out : List Int} (h : out.length ≤ 255) (hb : 0 < bt a) (h2 : out.length + 2 ≤ 255) : SR sy bt bs l 0 a b out (.good (out ++ [(sy a : Int), (sy b : Int)]))
  | long {a b : Nat} {out : List Int} (h : out.length ≤ 255) (hb : 0 < bt a) (h2 : 255 < out.length + 2) : SR sy bt bs l 0 a b out .refused

/-- the weights of a description that is encoded -/
inductive EncR (l : List UInt8) : WRes → Prop
  | bad (h : TopR l none) : EncR l .refused
  | noEnd {cs : List Int} {i : Nat} (h : TopR l (some (cs, i))) (h2 : l.drop ((i + 7) / 8) = [] ∨ lastB (l.drop ((i + 7) / 8)) = 0) : EncR l .refused
  | loops {cs : List Int} {i : Nat} (h : TopR l (some (cs, i))) (h2 : LoopsF cs (numF l 0 4 + 5)) : EncR l .open_
  | short {cs : List Int} {i : Nat} (h : TopR l (some (cs, i))) (h2 : backL (l.drop ((i + 7) / 8)) < 2 * (numF l 0 4 + 5)) : EncR l .open_
  | run {cs : List Int} {i lg L S : Nat} {r : List UInt8} {R : WRes} (h : TopR l (some (cs, i))) (hlg : numF l 0 4 + 5 = lg) (hS : 2 ^ lg = S) (hr : l.drop ((i + 7) / 8) = r) (hne : r ≠ []) (hlast : lastB r ≠ 0) (hnl : ¬ LoopsF cs lg) (hL : backL r = L) (hlong : 2 * lg ≤ L)
      (hs : SR (symF cs S) (bitsF cs lg) (baseF cs lg) r (L - 2 * lg) (numF r (L - lg) lg) (numF r (L - 2 * lg) lg) [] R) : EncR l R

/-- a good description's chances -/
theorem TopR.valid {l : List UInt8} {cs : List Int} {i : Nat} (h : TopR l (some (cs, i))) : Least cs ∧ sumA cs = 2 ^ (numF l 0 4 + 5) ∧ cs.length ≤ 256 ∧ i ≤ 8 * l.length ∧ numF l 0 4 ≤ 1 ∧ l ≠ [] := by
  rcases h with ⟨_, h⟩ | ⟨h1, h2, h3⟩
  · cases h
  · obtain ⟨a, b, c, d⟩ := h3.valid cs i rfl (fun x hx => by cases hx)
    refine ⟨a, ?_, c, d, h2, h1⟩
    rw [b]
    simp [sumA]
theorem lg_cases (x : Nat) (h : x ≤ 1) : x + 5 = 5 ∧ 2 ^ (x + 5) = 32 ∨ x + 5 = 6 ∧ 2 ^ (x + 5) = 64 := by
  rcases (show x = 0 ∨ x = 1 by omega) with rfl | rfl
  · exact .inl ⟨rfl, rfl⟩
  · exact .inr ⟨rfl, rfl⟩
theorem sumA_pos_len (cs : List Int) (h : 0 < sumA cs) : 1 ≤ cs.length := by
  cases cs with
  | nil => simp [sumA] at h
  | cons a b => simp
/-- the next state is a state -/
theorem next_lt (cs : List Int) (lg S i v : Nat) (hlg : lg = 5 ∧ S = 32 ∨ lg = 6 ∧ S = 64) (hl : Least cs) (hs : sumA cs = S) (hlen : cs.length ≤ 256) (hi : i < S) (hv : v < 2 ^ bitsF cs lg i) : baseF cs lg i + v < S ∧ bitsF cs lg i ≤ lg ∧ baseF cs lg i < S := by
  have hSp : 2 ^ lg = S := by rcases hlg with ⟨rfl, rfl⟩ | ⟨rfl, rfl⟩ <;> rfl
  have how := own_facts cs S hl hs (by omega) hlen i hi
  obtain ⟨o, ho⟩ : ∃ o, ownF cs S i = o := ⟨_, rfl⟩
  rw [ho] at how
  have hll := Nat.log2_self_le (n := o) (by omega)
  have hlu := Nat.lt_log2_self (n := o)
  have hlo : o.log2 ≤ lg := by
    have h1 : 2 ^ o.log2 < 2 ^ (lg + 1) := by rw [Nat.pow_succ, hSp]; omega
    have := (Nat.pow_lt_pow_iff_right (a := 2) (by omega)).1 h1
    omega
  have hb : bitsF cs lg i = lg - o.log2 := by unfold bitsF; rw [hSp, ho]
  have hbs : baseF cs lg i = o * 2 ^ (lg - o.log2) - S := by unfold baseF; rw [hb, hSp, ho]
  have hbd : S ≤ o * 2 ^ (lg - o.log2) := by have := (base_bd o o.log2 lg hll hlu hlo).1; rwa [hSp] at this
  have hup : (o + 1) * 2 ^ (lg - o.log2) ≤ 2 * S := by
    have e : 2 ^ (o.log2 + 1) * 2 ^ (lg - o.log2) = 2 * S := by
      rw [← Nat.pow_add, show o.log2 + 1 + (lg - o.log2) = lg + 1 by omega, Nat.pow_succ, hSp]; omega
    rw [← e]
    exact Nat.mul_le_mul_right _ hlu
  rw [Nat.add_mul, Nat.one_mul] at hup
  rw [hb] at hv
  rw [hbs, hb]
  generalize o * 2 ^ (lg - o.log2) = z at *
  generalize 2 ^ (lg - o.log2) = y at *
  refine ⟨?_, ?_, ?_⟩ <;> omega
end Go.Proofs.YthkklojjpgjiiaaFmt
namespace Go.Proofs.YthkklojjpgjiiaaFmt
open Go.RowKit

theorem bitLen_log (x : Nat) (h0 : x ≠ 0) (h : x < 2 ^ 64) : Lib.bitLen x = x.log2 + 1 := by
  have h1 := Nat.log2_self_le h0
  have h2 := Nat.lt_log2_self (n := x)
  rw [Lib.bitLen_shift x.log2 x h1 h]
  have h3 : x / 2 ^ x.log2 = 1 := by
    refine Nat.div_eq_of_lt_le (by omega) ?_
    rw [Nat.pow_succ] at h2
    omega
  rw [h3]
  rfl
set_option maxHeartbeats 800000 in
theorem highBits_any (x : Nat) (w : World) (h0 : x ≠ 0) (h : x ≤ 1000000) (xi : Int) (hxi : xi = x) :
    Calls Tryf.prog 62 #[.int .u32 xi] w fun e w' => e = .returned (.int .u32 (x.log2 : Nat)) ∧ w = w' := by
  subst hxi
  have hL := bitLen_log x h0 (by omega)
  have hl : x.log2 < 64 := (Nat.log2_lt h0).2 (by omega)
  obtain ⟨k, hk⟩ : ∃ k, x.log2 = k := ⟨_, rfl⟩
  rw [hk] at hL hl ⊢
  have KB := Tryf.bits_Len32 (x : Nat) w (by omega) (by omega)
  rw [Int.toNat_natCast, hL] at KB
  have HKB := Lib.hid KB
  clear KB hL hk h0
  go_enter Tryf.func62, Tryf.ntmps62
  go_wp2_with fail
  refine HKB.out.mono ?_
  rintro e w1 ⟨rfl, rfl⟩
  go_wp2_with fail
  go_ret
  exact ⟨congrArg (fun z => Ending.returned (Value.int .u32 z)) (by omega), rfl⟩
set_option maxHeartbeats 800000 in
theorem highBit32_any (x : Nat) (w : World) (h0 : x ≠ 0) (h : x ≤ 1000000) (xi : Int) (hxi : xi = x) :
    Calls Tryf.prog 25 #[.int .u32 xi] w fun e w' => e = .returned (.int .u32 (x.log2 : Nat)) ∧ w = w' := by
  subst hxi
  have hL := bitLen_log x h0 (by omega)
  have hl : x.log2 < 64 := (Nat.log2_lt h0).2 (by omega)
  obtain ⟨k, hk⟩ : ∃ k, x.log2 = k := ⟨_, rfl⟩
  rw [hk] at hL hl ⊢
  have KB := Tryf.bits_Len32 (x : Nat) w (by omega) (by omega)
  rw [Int.toNat_natCast, hL] at KB
  have HKB := Lib.hid KB
  clear KB hL hk h0
  go_enter Tryf.func25, Tryf.ntmps25
  go_wp2_with fail
  refine HKB.out.mono ?_
  rintro e w1 ⟨rfl, rfl⟩
  go_wp2_with fail
  go_ret
  exact ⟨congrArg (fun z => Ending.returned (Value.int .u32 z)) (by omega), rfl⟩
set_option maxHeartbeats 800000 in
theorem tableStep_any (S : Nat) (w : World) (hS : S = 32 ∨ S = 64) :
    Calls Tryf.prog 61 #[.int .u32 (S : Nat)] w fun e w' => e = .returned (.int .u32 (stepOf S : Nat)) ∧ w = w' := by
  rcases hS with rfl | rfl
  · go_enter Tryf.func61, Tryf.ntmps61
    go_wp2_with fail
    go_ret
    exact ⟨rfl, rfl⟩
  · go_enter Tryf.func61, Tryf.ntmps61
    go_wp2_with fail
    go_ret
    exact ⟨rfl, rfl⟩

/-- a bit reader's numbers: the value's low bits are those from 'off' on that are not yet read -/
def BrOk (l : List UInt8) (off val rd : Nat) : Prop := off ≤ l.length ∧ rd ≤ 64 ∧ val < 2 ^ 64 ∧ val % 2 ^ (64 - rd) = numF l (8 * off) (64 - rd)
/-- how many bits are left -/
def leftB (off rd : Nat) : Nat := 8 * off + (64 - rd)
theorem get_val (l : List UInt8) (off val rd n : Nat) (h : BrOk l off val rd) (h2 : n ≤ 64 - rd) : (val * 2 ^ rd) % 2 ^ 64 / 2 ^ (64 - n) = numF l (leftB off rd - n) n := by
  obtain ⟨_, hr, _, hv⟩ := h
  have e1 : (2 : Nat) ^ 64 = 2 ^ (64 - rd) * 2 ^ rd := by rw [← Nat.pow_add]; congr 1; omega
  rw [e1, Nat.mul_mod_mul_right, hv]
  have e2 : (2 : Nat) ^ (64 - n) = 2 ^ rd * 2 ^ (64 - rd - n) := by rw [← Nat.pow_add]; congr 1; omega
  rw [e2, ← Nat.div_div_eq_div_mul, Nat.mul_div_cancel _ (Nat.two_pow_pos rd)]
  obtain ⟨a, ha⟩ : ∃ a, 64 - rd = a + n := ⟨64 - rd - n, by omega⟩
  rw [ha, Nat.add_sub_cancel, numF_div]
  congr 1
  unfold leftB
  omega
theorem BrOk.after {l : List UInt8} {off val rd n : Nat} (h : BrOk l off val rd) (h2 : n ≤ 64 - rd) : BrOk l off val (rd + n) := by
  obtain ⟨h0, hr, hv, he⟩ := h
  refine ⟨h0, by omega, hv, ?_⟩
  obtain ⟨a, ha⟩ : ∃ a, 64 - rd = a + n := ⟨64 - rd - n, by omega⟩
  rw [show 64 - (rd + n) = a by omega]
  rw [ha] at he
  have : val % 2 ^ (a + n) % 2 ^ a = val % 2 ^ a := Nat.mod_mod_of_dvd _ (Nat.pow_dvd_pow 2 (by omega))
  rw [← this, he, numF_mod]
theorem mod_split (y z P Q : Nat) (hy : y < P) : (y + P * z) % (P * Q) = y + P * (z % Q) := by
  rw [Nat.mod_mul, Nat.add_mul_mod_self_left, Nat.mod_eq_of_lt hy, Nat.add_mul_div_left _ _ (by omega), Nat.div_eq_of_lt hy, Nat.zero_add]
/-- some bits more -/
theorem BrOk.fillN {l : List UInt8} {off val rd k : Nat} (hk : k ≤ 32) (h : BrOk l off val rd) (h32 : k ≤ rd) (off' : Nat) (h4 : 8 * off' + k = 8 * off) : BrOk l off' ((val * 2 ^ k) % 2 ^ 64 + numF l (8 * off') k) (rd - k) := by
  obtain ⟨h0, hr, hv, he⟩ := h
  have hlow := numF_lt l (8 * off') k
  have e1 : (val * 2 ^ k) % 2 ^ 64 = (val % 2 ^ (64 - k)) * 2 ^ k := by
    rw [show (2 : Nat) ^ 64 = 2 ^ (64 - k) * 2 ^ k by rw [← Nat.pow_add]; congr 1; omega, Nat.mul_mod_mul_right]
  have hm : val % 2 ^ (64 - k) < 2 ^ (64 - k) := Nat.mod_lt _ (Nat.two_pow_pos _)
  have hb : (val % 2 ^ (64 - k)) * 2 ^ k + numF l (8 * off') k < 2 ^ 64 := by
    have e3 : (2 : Nat) ^ 64 = 2 ^ (64 - k) * 2 ^ k := by rw [← Nat.pow_add]; congr 1; omega
    rw [e3]
    refine Nat.lt_of_lt_of_le (Nat.add_lt_add_left hlow _) ?_
    rw [show val % 2 ^ (64 - k) * 2 ^ k + 2 ^ k = (val % 2 ^ (64 - k) + 1) * 2 ^ k by rw [Nat.add_mul, Nat.one_mul]]
    exact Nat.mul_le_mul_right _ hm
  refine ⟨by omega, by omega, by rw [e1]; exact hb, ?_⟩
  have e2 : 64 - (rd - k) = k + (64 - rd) := by omega
  rw [e2, numF_add, h4, ← he, e1, Nat.pow_add, Nat.add_comm (_ * 2 ^ k), Nat.mul_comm _ (2 ^ k), mod_split _ _ _ _ hlow]
  have hd : (val % 2 ^ (64 - k)) % 2 ^ (64 - rd) = val % 2 ^ (64 - rd) := Nat.mod_mod_of_dvd _ (Nat.pow_dvd_pow 2 (by omega))
  rw [hd]
theorem BrOk.start (l : List UInt8) (h : 8 ≤ l.length) : BrOk l (l.length - 8) (numF l (8 * (l.length - 8)) 64) 0 :=
  ⟨by omega, by omega, numF_lt _ _ _, by rw [Nat.sub_zero, Nat.mod_eq_of_lt (numF_lt _ _ _)]⟩
theorem BrOk.empty (l : List UInt8) : BrOk l l.length 0 64 := ⟨Nat.le_refl _, Nat.le_refl _, by decide, by simp [numF]⟩
end Go.Proofs.YthkklojjpgjiiaaFmt
