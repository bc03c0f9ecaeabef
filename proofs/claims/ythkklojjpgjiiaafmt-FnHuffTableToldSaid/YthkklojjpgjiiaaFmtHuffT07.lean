/-
  spec.zTable.loops: whether a state leads to itself without a bit. Conditions: those of the theorem.
  Weights that are encoded: the reading of the stream as a relation, plain. Conditions: those of each.
  highBits, highBit32, tableStep; and the bit reader's numbers, plain. Conditions: those of each.
  (*fse.bitReader).getBitsFast, getBits, finished, close. Conditions: those of each.
-/
import Derived.Test.YthkklojjpgjiiaaFmtHuffT06
import Derived.Test.YthkklojjpgjiiaaFmtHuffT04
import Derived.Test.YthkklojjpgjiiaaFmtHuffT05
import Derived.Deep.QuietTactic
import Derived.BigQuiet
namespace Go.Proofs.YthkklojjpgjiiaaFmt
open Go.RowKit

def LoopsPost (w : World) (b c : Nat → Nat) (S : Nat) (e : Ending) (w' : World) : Prop :=
  ((∃ i, i < S ∧ b i = 0 ∧ c i = i) ∧ e = .returned (.bool true) ∨ (∀ i, i < S → ¬ (b i = 0 ∧ c i = i)) ∧ e = .returned (.bool false)) ∧ Below w.heap.size w w'
theorem stV_at (a b c : Nat → Nat) (i : Nat) : stV a b c (i * 3) = .int .i64 (a i : Nat) ∧ stV a b c (i * 3 + 1) = .int .i64 (b i : Nat) ∧ stV a b c (i * 3 + 2) = .int .i64 (c i : Nat) := by
  unfold stV
  refine ⟨?_, ?_, ?_⟩
  · rw [if_pos (by omega), show i * 3 / 3 = i by omega]
  · rw [if_neg (by omega), if_pos (by omega), show (i * 3 + 1) / 3 = i by omega]
  · rw [if_neg (by omega), if_neg (by omega), show (i * 3 + 2) / 3 = i by omega]

set_option maxRecDepth 100000 in
set_option maxHeartbeats 1600000 in
theorem loops_any {w : World} {T S : Nat} {a b c : Nat → Nat} (lg : Int) (hT : RowF w T 135 (3 * S) (stV a b c)) (hS : S ≤ 64) :
    Calls Tryf.prog 39 #[.agg #[.int .i64 lg, .slice (some ⟨T, 0, none⟩) S S]] w (LoopsPost w b c S) := by
  have hlt := hT.lt
  have HT := Lib.hid hT
  have hb1 : Below w.heap.size w (w.alloc (.cells #[.int .i64 lg, .slice (some ⟨T, 0, none⟩) S S] 127)) := below_new _ _
  have HB1 := Lib.hid hb1
  clear hT hb1
  go_enter Tryf.func39, Tryf.ntmps39
  go_wp2_with fail
  go_loopw [8] (fun iv wr => ∃ i : Nat, i ≤ S ∧ iv = .int .i64 (i : Nat) ∧ (∀ j, j < i → ¬ (b j = 0 ∧ c j = j)) ∧ Below w.heap.size w wr) (fun iv _ => S - (intOf iv).toNat)
  case atStart => exact ⟨0, Nat.zero_le _, rfl, fun j hj => by omega, HB1.out⟩
  case round =>
    obtain ⟨i, hi, rfl, hno, hB⟩ := hrel
    have HNO := Lib.hid hno
    have HB := Lib.hid hB
    have HTr := Lib.hid (HT.out.below hB hlt)
    clear hno hB
    by_cases hiS : i < S
    · have hv := stV_at a b c i
      have c0 : wr.cell? ⟨T, i * 3, none⟩ = some (.int .i64 (a i : Nat)) := HTr.out.cellv _ (by omega) _ hv.1
      have c1 : wr.cell? ⟨T, i * 3 + 1, none⟩ = some (.int .i64 (b i : Nat)) := HTr.out.cellv _ (by omega) _ hv.2.1
      have c2 : wr.cell? ⟨T, i * 3 + 2, none⟩ = some (.int .i64 (c i : Nat)) := HTr.out.cellv _ (by omega) _ hv.2.2
      obtain ⟨x, hx⟩ : ∃ x, b i = x := ⟨_, rfl⟩
      obtain ⟨y, hy⟩ : ∃ y, c i = y := ⟨_, rfl⟩
      rw [hx] at c1
      rw [hy] at c2
      have HX := Lib.hid hx
      have HY := Lib.hid hy
      clear hv hx hy
      by_cases h0 : x = 0
      · subst h0
        by_cases h1 : y = i
        · subst h1
          go_wp2_with fail
          go_ret
          exact ⟨.inl ⟨⟨y, hiS, HX.out, HY.out⟩, rfl⟩, HB.out.trans ((below_new wr _).mono HB.out.size)⟩
        · have hne : ((y : Int) == (i : Int)) = false := beq_eq_false_iff_ne.2 (by omega)
          have hnat : (y == i) = false := by simpa using h1
          have H1 := Lib.hid h1
          clear h1
          go_wp2_with fail
          refine ⟨⟨i + 1, by omega, by go_num, fun j hj => ?_, HB.out.trans ((below_new wr _).mono HB.out.size)⟩, by simp [intOf]; omega⟩
          rcases Nat.lt_or_eq_of_le (Nat.le_of_lt_succ hj) with h | h
          · exact HNO.out j h
          · subst h; intro h2; exact H1.out (by rw [← HY.out]; exact h2.2)
      · have hne : ((x : Int) == 0) = false := by simpa using h0
        have H0 := Lib.hid h0
        clear h0
        go_wp2_with fail
        refine ⟨⟨i + 1, by omega, by go_num, fun j hj => ?_, HB.out.trans ((below_new wr _).mono HB.out.size)⟩, by simp [intOf]; omega⟩
        rcases Nat.lt_or_eq_of_le (Nat.le_of_lt_succ hj) with h | h
        · exact HNO.out j h
        · subst h; intro h2; exact H0.out (by rw [← HX.out]; exact h2.1)
    · obtain rfl : S = i := by omega
      go_wp2_with fail
      go_ret
      exact ⟨.inr ⟨HNO.out, rfl⟩, HB.out⟩
end Go.Proofs.YthkklojjpgjiiaaFmt
namespace Go.Proofs.YthkklojjpgjiiaaFmt
open Go.RowKit

theorem wpList_append_i2 (w : World) {ops : Array Oper} {rest : List Oper} {o : Oper} {a : Act} {Q : Exit → Act → World → Prop} (hgd : o.guard = none) (s x : Operand)
    (ho : o.op = .call { callee := .builtin .append, args := #[s, x], argTypes := #[29, 29] })
    (base : Nat) (v : Value) (l : List Int) (hs : a.eval s = v) (hown : OwnI w base v l) (g : Nat) (hx : a.eval x = .slice (some ⟨g, 0, none⟩) 1 1) (c : Int) (hc : w.cell? ⟨g, 0, none⟩ = some (.int .i64 c))
    (hl : l.length ≤ 100000000) (hbase : base ≤ w.heap.size)
    (h : ∀ v' w', OwnI w' base v' (l ++ [c]) → w.grownBy w' v.ownBlock → (v'.ownBlock = v.ownBlock ∨ v'.ownBlock = some w.heap.size) → wpList Tryf.prog ops Q rest (a.put o.dst v') w') : wpList Tryf.prog ops Q (o :: rest) a w := by
  obtain ⟨i, hi, hz, hsz, hby⟩ := info_parts info_int
  refine wpList_append_own_at w hgd s x 29 ho base 3 i (.int .i64 0) 1 8 Tryf.underlying29 hi hz hsz hby rfl (by decide) v l.length (l.map (Value.int .i64)) hs hown ⟨g, 0, none⟩ 1 1 [.int .i64 c] hx rfl ?_ ?_ ?_ ?_ hbase ?_
  · intro j u hj
    match j, hj with
    | 0, hj => simp at hj; subst hj; simpa [Addr.add] using hc
  · intro u hu; simp at hu; subst hu; rfl
  · unfold maxLen; omega
  · omega
  · intro v' w' h2 h3 _ h5
    refine h v' w' ?_ h3 h5
    unfold OwnI
    rw [List.length_append, List.map_append]
    exact h2

theorem bitI_nat (l : List UInt8) (i : Nat) : bitI l (i : Int) = bitAt l i := by
  unfold bitI
  rw [if_pos (by omega), Int.toNat_natCast]
/-- bits read backwards are the number that stands there -/
theorem numB_eq (l : List UInt8) (L : Nat) : ∀ k, k ≤ L → numB l (L : Int) k = numF l (L - k) k
  | 0, _ => rfl
  | k + 1, h => by
    have ih := numB_eq l L k (by omega)
    have e := numF_add l (L - (k + 1)) 1 k
    rw [show 1 + k = k + 1 by omega, show L - (k + 1) + 1 = L - k by omega] at e
    rw [numB, ih, e, show (L : Int) - ((k + 1 : Nat) : Int) = ((L - (k + 1) : Nat) : Int) by omega, bitI_nat]
    have : numF l (L - (k + 1)) 1 = bitAt l (L - (k + 1)) := by simp [numF]
    rw [this]
    omega

inductive WRes
  | open_ : WRes
  | refused : WRes
  | good : List Int → WRes

/-- the symbols of two states in turn, so many bits being left -/
inductive SR (sy bt bs : Nat → Nat) (l : List UInt8) : Nat → Nat → Nat → List Int → WRes → Prop
  | full {L a b : Nat} {out : List Int} (h : 255 < out.length) : SR sy bt bs l L a b out .refused
  | next {L a b : Nat} {out : List Int} {R : WRes} (h : out.length ≤ 255) (hb : bt a ≤ L) (hr : SR sy bt bs l (L - bt a) b (bs a + numF l (L - bt a) (bt a)) (out ++ [(sy a : Int)]) R) : SR sy bt bs l L a b out R
  | over {L a b : Nat} {out : List Int} (h : out.length ≤ 255) (hb : L < bt a) (hL : 0 < L) : SR sy bt bs l L a b out .open_
  | end_ {a b : Nat} {out : List Int} (h : out.length ≤ 255) (hb : 0 < bt a) (h2 : out.length + 2 ≤ 255) : SR sy bt bs l 0 a b out (.good (out ++ [(sy a : Int), (sy b : Int)]))
  | long {a b : Nat} {out : List Int} (h : out.length ≤ 255) (hb : 0 < bt a) (h2 : 255 < out.length + 2) : SR sy bt bs l 0 a b out .refused

/-- the weights of a description that is encoded -/
inductive EncR (l : List UInt8) : WRes → Prop
  | bad (h : TopR l none) : EncR l .refused
  | noEnd {cs : List Int} {i : Nat} (h : TopR l (some (cs, i))) (h2 : l.drop ((i + 7) / 8) = [] ∨ lastB (l.drop ((i + 7) / 8)) = 0) : EncR l .refused
  | loops {cs : List Int} {i : Nat} (h : TopR l (some (cs, i))) (h2 : LoopsF cs (numF l 0 4 + 5)) : EncR l .open_
  | short {cs : List Int} {i : Nat} (h : TopR l (some (cs, i))) (h2 : backL (l.drop ((i + 7) / 8)) < 2 * (numF l 0 4 + 5)) : EncR l .open_
  | run {cs : List Int} {i lg L S : Nat} {r : List UInt8} {R : WRes} (h : TopR l (some (cs, i))) (hlg : numF l 0 4 + 5 = lg) (hS : 2 ^ lg = S) (hr : l.drop ((i + 7) / 8) = r) (hne : r ≠ []) (hlast : lastB r ≠ 0) (hnl : ¬ LoopsF cs lg) (hL : backL r = L) (hlong : 2 * lg ≤ L)
      (hs : SR (symF cs S) (bitsF cs lg) (baseF cs lg) r (L - 2 * lg) (numF r (L - lg) lg) (numF r (L - 2 * lg) lg) [] R) : EncR l R

/-- a good description's chances -/
theorem TopR.valid {l : List UInt8} {cs : List Int} {i : Nat} (h : TopR l (some (cs, i))) : Least cs ∧ sumA cs = 2 ^ (numF l 0 4 + 5) ∧ cs.length ≤ 256 ∧ i ≤ 8 * l.length ∧ numF l 0 4 ≤ 1 ∧ l ≠ [] := by
  rcases h with ⟨_, h⟩ | ⟨h1, h2, h3⟩
  · cases h
  · obtain ⟨a, b, c, d⟩ := h3.valid cs i rfl (fun x hx => by cases hx)
    refine ⟨a, ?_, c, d, h2, h1⟩
    rw [b]
    simp [sumA]
theorem lg_cases (x : Nat) (h : x ≤ 1) : x + 5 = 5 ∧ 2 ^ (x + 5) = 32 ∨ x + 5 = 6 ∧ 2 ^ (x + 5) = 64 := by
  rcases (show x = 0 ∨ x = 1 by omega) with rfl | rfl
  · exact .inl ⟨rfl, rfl⟩
  · exact .inr ⟨rfl, rfl⟩
theorem sumA_pos_len (cs : List Int) (h : 0 < sumA cs) : 1 ≤ cs.length := by
  cases cs with
  | nil => simp [sumA] at h
  | cons a b => simp
/-- the next state is a state -/
theorem next_lt (cs : List Int) (lg S i v : Nat) (hlg : lg = 5 ∧ S = 32 ∨ lg = 6 ∧ S = 64) (hl : Least cs) (hs : sumA cs = S) (hlen : cs.length ≤ 256) (hi : i < S) (hv : v < 2 ^ bitsF cs lg i) : baseF cs lg i + v < S ∧ bitsF cs lg i ≤ lg ∧ baseF cs lg i < S := by
  have hSp : 2 ^ lg = S := by rcases hlg with ⟨rfl, rfl⟩ | ⟨rfl, rfl⟩ <;> rfl
  have how := own_facts cs S hl hs (by omega) hlen i hi
  obtain ⟨o, ho⟩ : ∃ o, ownF cs S i = o := ⟨_, rfl⟩
  rw [ho] at how
  have hll := Nat.log2_self_le (n := o) (by omega)
  have hlu := Nat.lt_log2_self (n := o)
  have hlo : o.log2 ≤ lg := by
    have h1 : 2 ^ o.log2 < 2 ^ (lg + 1) := by rw [Nat.pow_succ, hSp]; omega
    have := (Nat.pow_lt_pow_iff_right (a := 2) (by omega)).1 h1
    omega
  have hb : bitsF cs lg i = lg - o.log2 := by unfold bitsF; rw [hSp, ho]
  have hbs : baseF cs lg i = o * 2 ^ (lg - o.log2) - S := by unfold baseF; rw [hb, hSp, ho]
  have hbd : S ≤ o * 2 ^ (lg - o.log2) := by have := (base_bd o o.log2 lg hll hlu hlo).1; rwa [hSp] at this
  have hup : (o + 1) * 2 ^ (lg - o.log2) ≤ 2 * S := by
    have e : 2 ^ (o.log2 + 1) * 2 ^ (lg - o.log2) = 2 * S := by
      rw [← Nat.pow_add, show o.log2 + 1 + (lg - o.log2) = lg + 1 by omega, Nat.pow_succ, hSp]; omega
    rw [← e]
    exact Nat.mul_le_mul_right _ hlu
  rw [Nat.add_mul, Nat.one_mul] at hup
  rw [hb] at hv
  rw [hbs, hb]
  generalize o * 2 ^ (lg - o.log2) = z at *
  generalize 2 ^ (lg - o.log2) = y at *
  refine ⟨?_, ?_, ?_⟩ <;> omega
end Go.Proofs.YthkklojjpgjiiaaFmt
namespace Go.Proofs.YthkklojjpgjiiaaFmt
open Go.RowKit

theorem bitLen_log (x : Nat) (h0 : x ≠ 0) (h : x < 2 ^ 64) : Lib.bitLen x = x.log2 + 1 := by
  have h1 := Nat.log2_self_le h0
  have h2 := Nat.lt_log2_self (n := x)
  rw [Lib.bitLen_shift x.log2 x h1 h]
  have h3 : x / 2 ^ x.log2 = 1 := by
    refine Nat.div_eq_of_lt_le (by omega) ?_
    rw [Nat.pow_succ] at h2
    omega
  rw [h3]
  rfl
set_option maxHeartbeats 800000 in
theorem highBits_any (x : Nat) (w : World) (h0 : x ≠ 0) (h : x ≤ 1000000) (xi : Int) (hxi : xi = x) :
    Calls Tryf.prog 62 #[.int .u32 xi] w fun e w' => e = .returned (.int .u32 (x.log2 : Nat)) ∧ w = w' := by
  subst hxi
  have hL := bitLen_log x h0 (by omega)
  have hl : x.log2 < 64 := (Nat.log2_lt h0).2 (by omega)
  obtain ⟨k, hk⟩ : ∃ k, x.log2 = k := ⟨_, rfl⟩
  rw [hk] at hL hl ⊢
  have KB := Tryf.bits_Len32 (x : Nat) w (by omega) (by omega)
  rw [Int.toNat_natCast, hL] at KB
  have HKB := Lib.hid KB
  clear KB hL hk h0
  go_enter Tryf.func62, Tryf.ntmps62
  go_wp2_with fail
  refine HKB.out.mono ?_
  rintro e w1 ⟨rfl, rfl⟩
  go_wp2_with fail
  go_ret
  exact ⟨congrArg (fun z => Ending.returned (Value.int .u32 z)) (by omega), rfl⟩
set_option maxHeartbeats 800000 in
theorem highBit32_any (x : Nat) (w : World) (h0 : x ≠ 0) (h : x ≤ 1000000) (xi : Int) (hxi : xi = x) :
    Calls Tryf.prog 25 #[.int .u32 xi] w fun e w' => e = .returned (.int .u32 (x.log2 : Nat)) ∧ w = w' := by
  subst hxi
  have hL := bitLen_log x h0 (by omega)
  have hl : x.log2 < 64 := (Nat.log2_lt h0).2 (by omega)
  obtain ⟨k, hk⟩ : ∃ k, x.log2 = k := ⟨_, rfl⟩
  rw [hk] at hL hl ⊢
  have KB := Tryf.bits_Len32 (x : Nat) w (by omega) (by omega)
  rw [Int.toNat_natCast, hL] at KB
  have HKB := Lib.hid KB
  clear KB hL hk h0
  go_enter Tryf.func25, Tryf.ntmps25
  go_wp2_with fail
  refine HKB.out.mono ?_
  rintro e w1 ⟨rfl, rfl⟩
  go_wp2_with fail
  go_ret
  exact ⟨congrArg (fun z => Ending.returned (Value.int .u32 z)) (by omega), rfl⟩
set_option maxHeartbeats 800000 in
theorem tableStep_any (S : Nat) (w : World) (hS : S = 32 ∨ S = 64) :
    Calls Tryf.prog 61 #[.int .u32 (S : Nat)] w fun e w' => e = .returned (.int .u32 (stepOf S : Nat)) ∧ w = w' := by
  rcases hS with rfl | rfl
  · go_enter Tryf.func61, Tryf.ntmps61
    go_wp2_with fail
    go_ret
    exact ⟨rfl, rfl⟩
  · go_enter Tryf.func61, Tryf.ntmps61
    go_wp2_with fail
    go_ret
    exact ⟨rfl, rfl⟩

/-- a bit reader's numbers: the value's low bits are those from 'off' on that are not yet read -/
def BrOk (l : List UInt8) (off val rd : Nat) : Prop := off ≤ l.length ∧ rd ≤ 64 ∧ val < 2 ^ 64 ∧ val % 2 ^ (64 - rd) = numF l (8 * off) (64 - rd)
/-- how many bits are left -/
def leftB (off rd : Nat) : Nat := 8 * off + (64 - rd)
theorem get_val (l : List UInt8) (off val rd n : Nat) (h : BrOk l off val rd) (h2 : n ≤ 64 - rd) : (val * 2 ^ rd) % 2 ^ 64 / 2 ^ (64 - n) = numF l (leftB off rd - n) n := by
  obtain ⟨_, hr, _, hv⟩ := h
  have e1 : (2 : Nat) ^ 64 = 2 ^ (64 - rd) * 2 ^ rd := by rw [← Nat.pow_add]; congr 1; omega
  rw [e1, Nat.mul_mod_mul_right, hv]
  have e2 : (2 : Nat) ^ (64 - n) = 2 ^ rd * 2 ^ (64 - rd - n) := by rw [← Nat.pow_add]; congr 1; omega
  rw [e2, ← Nat.div_div_eq_div_mul, Nat.mul_div_cancel _ (Nat.two_pow_pos rd)]
  obtain ⟨a, ha⟩ : ∃ a, 64 - rd = a + n := ⟨64 - rd - n, by omega⟩
  rw [ha, Nat.add_sub_cancel, numF_div]
  congr 1
  unfold leftB
  omega
theorem BrOk.after {l : List UInt8} {off val rd n : Nat} (h : BrOk l off val rd) (h2 : n ≤ 64 - rd) : BrOk l off val (rd + n) := by
  obtain ⟨h0, hr, hv, he⟩ := h
  refine ⟨h0, by omega, hv, ?_⟩
  obtain ⟨a, ha⟩ : ∃ a, 64 - rd = a + n := ⟨64 - rd - n, by omega⟩
  rw [show 64 - (rd + n) = a by omega]
  rw [ha] at he
  have : val % 2 ^ (a + n) % 2 ^ a = val % 2 ^ a := Nat.mod_mod_of_dvd _ (Nat.pow_dvd_pow 2 (by omega))
  rw [← this, he, numF_mod]
theorem mod_split (y z P Q : Nat) (hy : y < P) : (y + P * z) % (P * Q) = y + P * (z % Q) := by
  rw [Nat.mod_mul, Nat.add_mul_mod_self_left, Nat.mod_eq_of_lt hy, Nat.add_mul_div_left _ _ (by omega), Nat.div_eq_of_lt hy, Nat.zero_add]
/-- some bits more -/
theorem BrOk.fillN {l : List UInt8} {off val rd k : Nat} (hk : k ≤ 32) (h : BrOk l off val rd) (h32 : k ≤ rd) (off' : Nat) (h4 : 8 * off' + k = 8 * off) : BrOk l off' ((val * 2 ^ k) % 2 ^ 64 + numF l (8 * off') k) (rd - k) := by
  obtain ⟨h0, hr, hv, he⟩ := h
  have hlow := numF_lt l (8 * off') k
  have e1 : (val * 2 ^ k) % 2 ^ 64 = (val % 2 ^ (64 - k)) * 2 ^ k := by
    rw [show (2 : Nat) ^ 64 = 2 ^ (64 - k) * 2 ^ k by rw [← Nat.pow_add]; congr 1; omega, Nat.mul_mod_mul_right]
  have hm : val % 2 ^ (64 - k) < 2 ^ (64 - k) := Nat.mod_lt _ (Nat.two_pow_pos _)
  have hb : (val % 2 ^ (64 - k)) * 2 ^ k + numF l (8 * off') k < 2 ^ 64 := by
    have e3 : (2 : Nat) ^ 64 = 2 ^ (64 - k) * 2 ^ k := by rw [← Nat.pow_add]; congr 1; omega
    rw [e3]
    refine Nat.lt_of_lt_of_le (Nat.add_lt_add_left hlow _) ?_
    rw [show val % 2 ^ (64 - k) * 2 ^ k + 2 ^ k = (val % 2 ^ (64 - k) + 1) * 2 ^ k by rw [Nat.add_mul, Nat.one_mul]]
    exact Nat.mul_le_mul_right _ hm
  refine ⟨by omega, by omega, by rw [e1]; exact hb, ?_⟩
  have e2 : 64 - (rd - k) = k + (64 - rd) := by omega
  rw [e2, numF_add, h4, ← he, e1, Nat.pow_add, Nat.add_comm (_ * 2 ^ k), Nat.mul_comm _ (2 ^ k), mod_split _ _ _ _ hlow]
  have hd : (val % 2 ^ (64 - k)) % 2 ^ (64 - rd) = val % 2 ^ (64 - rd) := Nat.mod_mod_of_dvd _ (Nat.pow_dvd_pow 2 (by omega))
  rw [hd]
theorem BrOk.start (l : List UInt8) (h : 8 ≤ l.length) : BrOk l (l.length - 8) (numF l (8 * (l.length - 8)) 64) 0 :=
  ⟨by omega, by omega, numF_lt _ _ _, by rw [Nat.sub_zero, Nat.mod_eq_of_lt (numF_lt _ _ _)]⟩
theorem BrOk.empty (l : List UInt8) : BrOk l l.length 0 64 := ⟨Nat.le_refl _, Nat.le_refl _, by decide, by simp [numF]⟩
end Go.Proofs.YthkklojjpgjiiaaFmt
namespace Go.Proofs.YthkklojjpgjiiaaFmt
open Go.RowKit

/-- the four cells of a bit reader -/
def BrSt (f : Nat → Value) (o : Nat) (A : Option Addr) (n c off val rd : Nat) : Prop :=
  f o = .slice A n c ∧ f (o + 1) = .int .u64 (off : Nat) ∧ f (o + 2) = .int .u64 (val : Nat) ∧ f (o + 3) = .int .u8 (rd : Nat)
def BrKeep (o : Nat) (f f' : Nat → Value) : Prop := ∀ k, k ≠ o + 1 → k ≠ o + 2 → k ≠ o + 3 → f' k = f k
theorem BrKeep.refl (o : Nat) (f : Nat → Value) : BrKeep o f f := fun _ _ _ _ => rfl
theorem BrKeep.trans {o : Nat} {f f1 f2 : Nat → Value} (h : BrKeep o f f1) (h2 : BrKeep o f1 f2) : BrKeep o f f2 := fun k a b c => (h2 k a b c).trans (h k a b c)
/-- a bit reader in memory -/
def BrIn (w : World) (D : Nat) (T : TypeId) (N o : Nat) (A : Option Addr) (n c : Nat) (l : List UInt8) (f0 : Nat → Value) (off rd : Nat) (w0 : World) : Prop :=
  ∃ f val, RowF w D T N f ∧ BrKeep o f0 f ∧ BrSt f o A n c off val rd ∧ BrOk l off val rd ∧ Only (· = D) w0 w
theorem BrIn.drewN {w w0 : World} {D : Nat} {T : TypeId} {N o : Nat} {A : Option Addr} {n c : Nat} {l : List UInt8} {f0 : Nat → Value} {off rd : Nat} (h : BrIn w D T N o A n c l f0 off rd w0) (q : Nat) : BrIn (w.drewN q) D T N o A n c l f0 off rd w0 := by
  obtain ⟨f, val, h1, h2, h3, h4, h5⟩ := h
  exact ⟨f, val, h1.drewN q, h2, h3, h4, h5.drewN q⟩

theorem and63 (x : Nat) (h : x < 64) : bits .and .u8 (x : Int) 63 = (x : Int) := by
  have h2 : ∀ y : Fin 64, bits .and .u8 (y.val : Int) 63 = (y.val : Int) := by decide +kernel
  exact h2 ⟨x, h⟩

theorem u64_nat (x : Nat) : IntKind.u64.wrap (x : Int) = ((x % 2 ^ 64 : Nat) : Int) := by
  simp [IntKind.wrap, IntKind.bits, IntKind.signed]
theorem u64_shift (v r k : Nat) : IntKind.u64.wrap ((v : Int) * 2 ^ r) / 2 ^ k = ((v * 2 ^ r % 2 ^ 64 / 2 ^ k : Nat) : Int) := by
  rw [show (v : Int) * 2 ^ r = ((v * 2 ^ r : Nat) : Int) by simp, u64_nat]
  simp
theorem wrap16 (x : Nat) (h : x < 2 ^ 16) : IntKind.u16.wrap (x : Int) = (x : Int) := by
  simp [IntKind.wrap, IntKind.bits, IntKind.signed]
  omega
set_option maxRecDepth 100000 in
set_option maxHeartbeats 1600000 in
theorem getBitsFast_any {w w0 : World} {D N o : Nat} {T : TypeId} {A : Option Addr} {n c off rd : Nat} {l : List UInt8} {f0 : Nat → Value} (h : BrIn w D T N o A n c l f0 off rd w0) (ho : o + 3 < N) (m : Nat) (hm1 : 1 ≤ m) (hm2 : m ≤ 16) (hm : m ≤ 64 - rd) :
    Calls Tryf.prog 75 #[.pointer (some ⟨D, o, none⟩), .int .u8 (m : Nat)] w fun e w' => e = .returned (.int .u16 (numF l (leftB off rd - m) m : Nat)) ∧ BrIn w' D T N o A n c l f0 off (rd + m) w0 := by
  obtain ⟨f, val, hr, hk, hs, hb, hon⟩ := h
  have hv := get_val l off val rd m hb hm
  have hvl := numF_lt l (leftB off rd - m) m
  have hb2 := hb.after hm
  have q2 : w.cell? ⟨D, o + 2, none⟩ = some (.int .u64 (val : Nat)) := hr.cellv _ (by omega) _ hs.2.2.1
  have q3 : w.cell? ⟨D, o + 3, none⟩ = some (.int .u8 (rd : Nat)) := hr.cellv _ (by omega) _ hs.2.2.2
  have f3 : w.frozen? ⟨D, o + 3, none⟩ = false := hr.frozen _
  have hrd : rd < 64 := by omega
  have a1 := and63 rd hrd
  have a2 := and63 (64 - m) (by omega)
  have e2 : (64 : Int) - (m : Int) = ((64 - m : Nat) : Int) := by omega
  have hval := hb.2.2.1
  have HV := Lib.hid hv
  have HVL := Lib.hid hvl
  have HB2 := Lib.hid hb2
  have HR := Lib.hid hr
  have HK := Lib.hid hk
  have HS := Lib.hid hs
  have HON := Lib.hid hon
  have HVAL := Lib.hid hval
  clear hr hk hs hb hon hv hvl hb2 hval
  go_enter Tryf.func75, Tryf.ntmps75
  go_wp2_with fail
  go_quiet (fail)
  go_wp2_with fail
  go_ret
  refine ⟨?_, ?_⟩
  · show Ending.returned (.int .u16 (IntKind.u16.wrap (IntKind.u64.wrap ((val : Int) * 2 ^ rd) / 2 ^ (64 - m)))) = _
    rw [u64_shift, HV.out, wrap16 _ (Nat.lt_of_lt_of_le HVL.out (Nat.pow_le_pow_right (by omega) hm2))]
  · refine ⟨_, val, (HR.out.drewN _).set_ (o + 3) _, ?_, ?_, HB2.out, (HON.out.drewN _).set_ rfl _⟩
    · intro k h1 h2 h3
      rw [updV_ne _ _ _ _ h3]
      exact HK.out k h1 h2 h3
    · obtain ⟨s1, s2, s3, s4⟩ := HS.out
      refine ⟨?_, ?_, ?_, ?_⟩
      · rw [updV_ne _ _ _ _ (by omega)]; exact s1
      · rw [updV_ne _ _ _ _ (by omega)]; exact s2
      · rw [updV_ne _ _ _ _ (by omega)]; exact s3
      · rw [updV_same]; rfl
set_option maxHeartbeats 800000 in
theorem getBits_any {w w0 : World} {D N o : Nat} {T : TypeId} {A : Option Addr} {n c off rd : Nat} {l : List UInt8} {f0 : Nat → Value} (h : BrIn w D T N o A n c l f0 off rd w0) (ho : o + 3 < N) (m : Nat) (hm2 : m ≤ 16) (hm : m ≤ 64 - rd) :
    Calls Tryf.prog 74 #[.pointer (some ⟨D, o, none⟩), .int .u8 (m : Nat)] w fun e w' => e = .returned (.int .u16 (numF l (leftB off rd - m) m : Nat)) ∧ BrIn w' D T N o A n c l f0 off (rd + m) w0 := by
  have H := Lib.hid h
  obtain ⟨f, val, hr, hk, hs, hb, hon⟩ := h
  have q3 : w.cell? ⟨D, o + 3, none⟩ = some (.int .u8 (rd : Nat)) := hr.cellv _ (by omega) _ hs.2.2.2
  clear hr hk hs hb hon
  by_cases hm0 : m = 0
  · subst hm0
    go_enter Tryf.func74, Tryf.ntmps74
    go_wp2_with fail
    go_ret
    exact ⟨rfl, H.out⟩
  · have hme : ((m : Int) == 0) = false := beq_eq_false_iff_ne.2 (by omega)
    have hrd : decide ((64 : Int) ≤ (rd : Int)) = false := decide_eq_false (by omega)
    have K := Lib.hid (getBitsFast_any H.out ho m (by omega) hm2 hm)
    clear hm0
    go_enter Tryf.func74, Tryf.ntmps74
    go_wp2_with fail
    refine K.out.mono ?_
    rintro e w1 ⟨rfl, hb1⟩
    have HB1 := Lib.hid hb1
    clear hb1
    go_wp2_with fail
    go_ret
    exact ⟨rfl, HB1.out⟩
set_option maxHeartbeats 800000 in
theorem brFinished_any {w w0 : World} {D N o : Nat} {T : TypeId} {A : Option Addr} {n c off rd : Nat} {l : List UInt8} {f0 : Nat → Value} (h : BrIn w D T N o A n c l f0 off rd w0) (ho : o + 3 < N) :
    Calls Tryf.prog 76 #[.pointer (some ⟨D, o, none⟩)] w fun e w' => e = .returned (.bool (decide (leftB off rd = 0))) ∧ w = w' := by
  obtain ⟨f, val, hr, hk, hs, hb, hon⟩ := h
  have q1 : w.cell? ⟨D, o + 1, none⟩ = some (.int .u64 (off : Nat)) := hr.cellv _ (by omega) _ hs.2.1
  have q3 : w.cell? ⟨D, o + 3, none⟩ = some (.int .u8 (rd : Nat)) := hr.cellv _ (by omega) _ hs.2.2.2
  have hrd := hb.2.1
  clear hr hk hs hb hon
  by_cases h64 : rd = 64
  · subst h64
    by_cases h0 : off = 0
    · subst h0
      go_enter Tryf.func76, Tryf.ntmps76
      go_wp2_with fail
      go_ret
      exact ⟨rfl, rfl⟩
    · have hne : ((off : Int) == 0) = false := beq_eq_false_iff_ne.2 (by omega)
      have hd : decide (leftB off 64 = 0) = false := decide_eq_false (by unfold leftB; omega)
      rw [hd]
      clear h0 hd
      go_enter Tryf.func76, Tryf.ntmps76
      go_wp2_with fail
      go_ret
      exact ⟨rfl, rfl⟩
  · have hl : decide ((64 : Int) ≤ (rd : Int)) = false := decide_eq_false (by omega)
    have hd : decide (leftB off rd = 0) = false := decide_eq_false (by unfold leftB; omega)
    rw [hd]
    clear h64 hd hrd
    go_enter Tryf.func76, Tryf.ntmps76
    go_wp2_with fail
    go_ret
    exact ⟨rfl, rfl⟩
set_option maxHeartbeats 800000 in
theorem brClose_any {w w0 : World} {D N o : Nat} {T : TypeId} {A : Option Addr} {n c off rd : Nat} {l : List UInt8} {f0 : Nat → Value} (h : BrIn w D T N o A n c l f0 off rd w0) (ho : o + 3 < N) :
    Calls Tryf.prog 72 #[.pointer (some ⟨D, o, none⟩)] w fun e w' => e = .returned .nilIface ∧ w' = w.setCell ⟨D, o, none⟩ (.slice none 0 0) := by
  obtain ⟨f, val, hr, hk, hs, hb, hon⟩ := h
  have q0 : w.cell? ⟨D, o, none⟩ = some (.slice A n c) := hr.cellv _ (by omega) _ hs.1
  have f0 : w.frozen? ⟨D, o, none⟩ = false := hr.frozen _
  have q3 : w.cell? ⟨D, o + 3, none⟩ = some (.int .u8 (rd : Nat)) := hr.cellv _ (by omega) _ hs.2.2.2
  have hrd := hb.2.1
  have hl : decide ((64 : Int) < (rd : Int)) = false := decide_eq_false (by omega)
  clear hr hk hs hb hon hrd
  go_enter Tryf.func72, Tryf.ntmps72
  go_wp2_with fail
  go_ret
  exact ⟨rfl, rfl⟩
end Go.Proofs.YthkklojjpgjiiaaFmt
