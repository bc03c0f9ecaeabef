/-
  The reading of chances through a window of four bytes, plain: what the window shows, and how the reading goes on. Conditions: those of each.
  fse.readNCount: masks; the block of the scratch while chances are read. Conditions: those of each.
  fse.readNCount: the round's code cut into parts, what is told of a frame. Definitions and plain lemmas.
-/
import Derived.Test.YthkklojjpgjiiaaFmtHuffT08
import Derived.Test.YthkklojjpgjiiaaFmtHuffT02
import Derived.Test.YthkklojjpgjiiaaFmtHuffT05
import Derived.Deep.LoopGhost
import Derived.Deep.Cut
namespace Go.Proofs.YthkklojjpgjiiaaFmt

/-- the position stands where the last byte is begun, or the reading still comes to R -/
def Ck (l : List UInt8) (p left : Nat) (out : List Int) (R : Option (List Int × Nat)) : Prop :=
  (8 * (l.length - 1) < p ∧ LostR l R) ∨ CR l p left out R
/-- .. where a run of zeros is still to be read -/
def Zk (l : List UInt8) (q left : Nat) (out : List Int) (R : Option (List Int × Nat)) : Prop :=
  (8 * (l.length - 1) < q ∧ LostR l R) ∨ (R = none ∧ 255 < out.length) ∨ ∃ k j, ZR l q k j ∧ CR l j left (out ++ List.replicate k 0) R
/-- the bits that the window shows -/
def Bs (l : List UInt8) (off p bs : Nat) : Prop := bs < 2 ^ 32 ∧ 8 * off ≤ p ∧ (p ≤ 8 * (l.length - 1) → bs = numF (l.take (off + 4)) p 32)

theorem Zk.lost {l : List UInt8} {q left : Nat} {out : List Int} {R : Option (List Int × Nat)} (h : Zk l q left out R) (hq : 8 * (l.length - 1) < q + 2) : LostR l R := by
  rcases h with ⟨_, h⟩ | ⟨rfl, _⟩ | ⟨k, j, hz, hr⟩
  · exact h
  · rintro o i e; cases e
  · exact hr.lost (by have := hz.ge; omega)
theorem Ck.lost {l : List UInt8} {p left : Nat} {out : List Int} {R : Option (List Int × Nat)} (h : Ck l p left out R) (hp : 8 * (l.length - 1) < p) : LostR l R := by
  rcases h with ⟨_, h⟩ | h
  · exact h
  · exact h.lost hp
theorem lost_none (l : List UInt8) : LostR l none := by rintro o i e; cases e
theorem Bs.shift {l : List UInt8} {off p bs : Nat} (h : Bs l off p bs) (k : Nat) (hk : k ≤ 32) (h4 : off + 4 ≤ l.length) : Bs l off (p + k) (bs / 2 ^ k) := by
  obtain ⟨h1, h2, h3⟩ := h
  refine ⟨Nat.lt_of_le_of_lt (Nat.div_le_self _ _) h1, by omega, fun hp => ?_⟩
  rw [h3 (by omega)]
  exact numF_shift _ _ _ _ (by simp; omega) hk
theorem Bs.load (l : List UInt8) (off bc : Nat) (h4 : off + 4 ≤ l.length) (hb : 8 * off + bc ≤ 8 * (l.length - 1) → bc ≤ 31) : Bs l off (8 * off + bc) (numF l (8 * off) 32 / 2 ^ (bc % 32)) := by
  refine ⟨Nat.lt_of_le_of_lt (Nat.div_le_self _ _) (numF_lt _ _ _), by omega, fun hp => ?_⟩
  have h := hb hp
  rw [Nat.mod_eq_of_lt (by omega), ← numF_take l (off + 4) (8 * off) 32 (by omega)]
  exact numF_shift _ _ _ _ (by simp; omega) (by omega)
/-- what the window shows stands there -/
theorem Bs.see {l : List UInt8} {off p bs : Nat} (h : Bs l off p bs) (hp : p ≤ 8 * (l.length - 1)) (k : Nat) (hk : k ≤ 32) (hv : p + k ≤ 8 * (off + 4)) : bs % 2 ^ k = numF l p k := by
  rw [h.2.2 hp, numF_mod_le _ _ _ _ hk, numF_take _ _ _ _ hv]
/-- ones that it shows stand there -/
theorem Bs.ones {l : List UInt8} {off p bs : Nat} (h : Bs l off p bs) (hp : p ≤ 8 * (l.length - 1)) (h4 : off + 4 ≤ l.length) (hv : bs % 4 = 3) : numF l p 2 = 3 ∧ p + 2 ≤ 8 * (off + 4) := by
  have h1 : numF (l.take (off + 4)) p 2 = 3 := by
    rw [← numF_mod_le _ p 2 32 (by omega), ← h.2.2 hp]
    exact hv
  by_cases hq : p + 2 ≤ 8 * (off + 4)
  · exact ⟨by rw [← numF_take l (off + 4) p 2 hq]; exact h1, hq⟩
  · rcases Nat.lt_or_ge p (8 * (off + 4)) with h2 | h2
    · rw [numF_past _ p 1 2 (by simp; omega) (by omega)] at h1
      have := numF_lt (l.take (off + 4)) p 1
      omega
    · rw [numF_zero _ p (by simp; omega)] at h1
      omega
/-- three zeros more -/
theorem Zk.three {l : List UInt8} {off q bs left : Nat} {out : List Int} {R : Option (List Int × Nat)} (h : Zk l q left out R) (hb : Bs l off q bs) (h4 : off + 4 ≤ l.length) (hv : bs % 4 = 3) : Zk l (q + 2) left (out ++ List.replicate 3 0) R := by
  by_cases hp : q ≤ 8 * (l.length - 1)
  · obtain ⟨h1, h2⟩ := hb.ones hp h4 hv
    rcases h with ⟨h, _⟩ | ⟨rfl, h⟩ | ⟨k, j, hz, hr⟩
    · omega
    · exact .inr (.inl ⟨rfl, by simp; omega⟩)
    · obtain ⟨k', rfl, hz'⟩ := hz.inv_more h1 (by omega)
      refine .inr (.inr ⟨k', j, hz', ?_⟩)
      rw [List.append_assoc, List.replicate_append_replicate, Nat.add_comm 3 k']
      exact hr
  · exact .inl ⟨by omega, h.lost (by omega)⟩
theorem Zk.threes {l : List UInt8} {off left : Nat} {R : Option (List Int × Nat)} (h4 : off + 4 ≤ l.length) : ∀ (m : Nat) {q bs : Nat} {out : List Int}, m ≤ 8 → Zk l q left out R → Bs l off q bs → bs % 4 ^ m = 4 ^ m - 1 →
    Zk l (q + 2 * m) left (out ++ List.replicate (3 * m) 0) R ∧ Bs l off (q + 2 * m) (bs / 4 ^ m)
  | 0, q, bs, out, _, h, hb, _ => by simpa using ⟨h, hb⟩
  | m + 1, q, bs, out, hm, h, hb, hv => by
    have hp : 1 ≤ 4 ^ m := Nat.pow_pos (by omega)
    have e : 4 ^ (m + 1) = 4 * 4 ^ m := by rw [Nat.pow_succ, Nat.mul_comm]
    have h1 : bs % 4 = 3 := by
      have := Nat.mod_mod_of_dvd bs (show 4 ∣ 4 ^ (m + 1) by rw [e]; exact Nat.dvd_mul_right _ _)
      rw [← this, hv, e]
      omega
    have h2 : bs / 4 % 4 ^ m = 4 ^ m - 1 := by
      have := Nat.mod_mul (x := bs) (a := 4) (b := 4 ^ m)
      rw [← e, hv, e, h1] at this
      omega
    have hz := h.three hb h4 h1
    have hs : Bs l off (q + 2) (bs / 4) := hb.shift 2 (by omega) h4
    have := Zk.threes h4 m (by omega) hz hs h2
    rw [show q + 2 * (m + 1) = q + 2 + 2 * m by omega, e, ← Nat.div_div_eq_div_mul]
    refine ⟨?_, this.2⟩
    have h5 := this.1
    rw [List.append_assoc, List.replicate_append_replicate] at h5
    rw [show 3 * (m + 1) = 3 + 3 * m by omega]
    exact h5
/-- the run's end -/
theorem Zk.end_ {l : List UInt8} {off q bs left : Nat} {out : List Int} {R : Option (List Int × Nat)} (h : Zk l q left out R) (hb : Bs l off q bs) (h4 : off + 4 ≤ l.length) (hl : 0 < left) (hv : bs % 4 ≠ 3) (hw : l.length ≤ off + 5 ∨ q + 2 ≤ 8 * (off + 4)) :
    Ck l (q + 2) left (out ++ List.replicate (bs % 4) 0) R ∧ (255 < (out ++ List.replicate (bs % 4) (0 : Int)).length → LostR l R) := by
  have key : Ck l (q + 2) left (out ++ List.replicate (bs % 4) 0) R := by
    by_cases hp : q + 2 ≤ 8 * (l.length - 1)
    · have hsee : bs % 4 = numF l q 2 := hb.see (by omega) 2 (by omega) (by omega)
      rcases h with ⟨h, _⟩ | ⟨rfl, h⟩ | ⟨k, j, hz, hr⟩
      · omega
      · exact .inr (.stop hl (.inr (by simp; omega)))
      · have hlt := Nat.mod_lt bs (show 0 < 4 by omega)
        obtain ⟨rfl, rfl⟩ := hz.inv_last (by omega)
        rw [hsee]
        exact .inr hr
    · exact .inl ⟨by omega, h.lost (by omega)⟩
  refine ⟨key, fun hlen => ?_⟩
  rcases key with ⟨_, h⟩ | h
  · exact h
  · rw [h.long hl hlen]; exact lost_none l
/-- a chance -/
theorem Ck.chance {l : List UInt8} {off p bs left : Nat} {out : List Int} {R : Option (List Int × Nat)} (h : Ck l p left out R) (hb : Bs l off p bs) (h4 : off + 4 ≤ l.length) (hl : 0 < left) (h64 : left ≤ 64) (hw : l.length ≤ off + 5 ∨ p + chB left ≤ 8 * (off + 4))
    {c : Int} {u : Nat} (hc : chanceV (bs % 2 ^ chB left) left = (c, u)) :
    (c ≠ 0 → Ck l (p + u) (left - c.natAbs) (out ++ [c]) R) ∧ (c = 0 → Zk l (p + u) left (out ++ [0]) R) := by
  have ht := chT_facts left
  have hf := chanceV_facts (bs % 2 ^ chB left) left (by rw [← ht.2.2]; exact Nat.mod_lt _ (Nat.two_pow_pos _))
  rw [hc] at hf
  dsimp only at hf
  have hB : chB left ≤ 7 := by
    unfold chB
    have := (Nat.log2_lt (n := left + 1) (k := 7) (by omega)).2 (by omega)
    omega
  by_cases hp : p ≤ 8 * (l.length - 1)
  · rcases h with ⟨h, _⟩ | h
    · omega
    · -- what the description itself says here
      have hF := chanceF_eq l p left (by omega)
      have hv' : numF l p (chB left) < 2 * chT left := by rw [← ht.2.2]; exact numF_lt _ _ _
      have hf' := chanceV_facts _ left hv'
      by_cases hsame : chanceV (numF l p (chB left)) left = (c, u)
      · rw [hsame] at hF
        dsimp only at hF
        cases h with
        | done => omega
        | bad => omega
        | stop h0 h =>
          rcases h with h | h
          · omega
          · exact ⟨fun _ => .inr (by
              rcases Nat.eq_zero_or_pos (left - c.natAbs) with e | e
              · rw [e]; exact .bad (.inr (by simp; omega))
              · exact .stop e (.inr (by simp; omega))), fun _ => .inr (.inl ⟨rfl, by simp; omega⟩)⟩
        | some_ h0 h h2 hc2 hne hr =>
          rw [hF] at hc2
          cases hc2
          exact ⟨fun _ => .inr hr, fun e => absurd e hne⟩
        | zero h0 h h2 hc2 hz hr =>
          rw [hF] at hc2
          cases hc2
          exact ⟨fun e => absurd rfl e, fun _ => .inr (.inr ⟨_, _, hz, hr⟩)⟩
      · -- then bits beyond the window were asked for, and both are where the last byte is begun
        have hfar : ¬ p + chB left ≤ 8 * (off + 4) := fun hv => hsame (by rw [← hb.see hp _ (by omega) hv]; exact hc)
        have hlow : 8 * (l.length - 1) < p + u ∧ 8 * (l.length - 1) < p + (chanceV (numF l p (chB left)) left).2 := by
          have hBge := chB_ge left (by omega)
          by_cases hz : 8 * (l.length - 1) < p + (chB left - 1)
          · omega
          · have hT : 2 ^ (chB left - 1) = chT left := by
              have e : 2 ^ chB left = 2 * 2 ^ (chB left - 1) := by
                conv => lhs; rw [show chB left = chB left - 1 + 1 by omega, Nat.pow_succ]
                omega
              omega
            have hs := hb.see hp (chB left - 1) (by omega) (by omega)
            rw [hT] at hs
            have hs2 : numF l p (chB left) % chT left = bs % chT left := by
              rw [hs, ← hT]; exact numF_mod_le l p _ _ (by omega)
            have hs3 : bs % 2 ^ chB left % chT left = bs % chT left := Nat.mod_mod_of_dvd _ (by rw [ht.2.2]; exact Nat.dvd_mul_left _ _)
            have hl2 : chFew left ≤ bs % chT left := by
              by_cases hx : bs % chT left < chFew left
              · exfalso
                refine hsame ?_
                rw [← hc]
                unfold chanceV
                rw [if_pos (by rw [hs2]; exact hx), if_pos (by rw [hs3]; exact hx), hs2, hs3]
              · omega
            -- the long reading in both
            have hu : u = chB left := by
              have e : (chanceV (bs % 2 ^ chB left) left).2 = u := by rw [hc]
              rw [← e]
              unfold chanceV
              rw [if_neg (by rw [hs3]; omega)]
              split <;> rfl
            have hu2 : (chanceV (numF l p (chB left)) left).2 = chB left := by
              unfold chanceV
              rw [if_neg (by rw [hs2]; omega)]
              split <;> rfl
            omega
        have hL : LostR l R := by
          cases h with
          | done => omega
          | bad => omega
          | stop h0 h => exact lost_none l
          | some_ h0 h h2 hc2 hne hr =>
            rw [hF] at hc2
            cases hc2
            exact hr.lost hlow.2
          | zero h0 h h2 hc2 hz hr =>
            rw [hF] at hc2
            have hj := congrArg Prod.snd hc2
            dsimp only at hj
            exact hr.lost (by have := hz.ge; omega)
        exact ⟨fun _ => .inl ⟨hlow.1, hL⟩, fun _ => .inl ⟨hlow.1, hL⟩⟩
  · have hL := h.lost (by omega)
    exact ⟨fun _ => .inl ⟨by omega, hL⟩, fun _ => .inl ⟨by omega, hL⟩⟩
/-- the last step -/
theorem Ck.last {l : List UInt8} {p : Nat} {out : List Int} {R : Option (List Int × Nat)} (h : Ck l p 0 out R) : (8 * (l.length - 1) < p ∧ LostR l R) ∨ (R = none ∧ (8 * l.length < p ∨ 256 < out.length)) ∨ (R = some (out, p) ∧ p ≤ 8 * l.length ∧ out.length ≤ 256) := by
  rcases h with h | h
  · exact .inl h
  · cases h with
    | done h h2 => exact .inr (.inr ⟨rfl, h, h2⟩)
    | bad h => exact .inr (.inl ⟨rfl, h⟩)
    | stop h0 => omega
    | some_ h0 => omega
    | zero h0 => omega
end Go.Proofs.YthkklojjpgjiiaaFmt
namespace Go.Proofs.YthkklojjpgjiiaaFmt
open Go.RowKit

theorem and_u32 (x k : Nat) (hx : x < 4294967296) (hk : k ≤ 31) (m : Int) (hm : m = ((2 ^ k - 1 : Nat) : Int)) : bits .and .u32 (x : Int) m = ((x % 2 ^ k : Nat) : Int) := by
  subst hm
  have hp : 2 ^ k ≤ 2 ^ 31 := Nat.pow_le_pow_right (by omega) hk
  have h1 : (BitVec.ofInt 32 (x : Int)).toNat = x := by
    rw [BitVec.ofInt_natCast, BitVec.toNat_ofNat]; exact Nat.mod_eq_of_lt (by omega)
  have h2 : (BitVec.ofInt 32 ((2 ^ k - 1 : Nat) : Int)).toNat = 2 ^ k - 1 := by
    rw [BitVec.ofInt_natCast, BitVec.toNat_ofNat]; exact Nat.mod_eq_of_lt (by omega)
  show IntKind.u32.wrap ((BitVec.ofInt 32 (x : Int) &&& BitVec.ofInt 32 ((2 ^ k - 1 : Nat) : Int)).toNat : Int) = _
  rw [BitVec.toNat_and, h1, h2, Nat.and_two_pow_sub_one_eq_mod]
  have := Nat.mod_lt x (Nat.two_pow_pos k)
  generalize x % 2 ^ k = y at *
  simp [IntKind.wrap, IntKind.bits, IntKind.signed]
  omega
theorem and_u16 (x k : Nat) (hx : x < 65536) (hk : k ≤ 15) (m : Int) (hm : m = ((2 ^ k - 1 : Nat) : Int)) : bits .and .u16 (x : Int) m = ((x % 2 ^ k : Nat) : Int) := by
  subst hm
  have hp : 2 ^ k ≤ 2 ^ 15 := Nat.pow_le_pow_right (by omega) hk
  have h1 : (BitVec.ofInt 16 (x : Int)).toNat = x := by
    rw [BitVec.ofInt_natCast, BitVec.toNat_ofNat]; exact Nat.mod_eq_of_lt (by omega)
  have h2 : (BitVec.ofInt 16 ((2 ^ k - 1 : Nat) : Int)).toNat = 2 ^ k - 1 := by
    rw [BitVec.ofInt_natCast, BitVec.toNat_ofNat]; exact Nat.mod_eq_of_lt (by omega)
  show IntKind.u16.wrap ((BitVec.ofInt 16 (x : Int) &&& BitVec.ofInt 16 ((2 ^ k - 1 : Nat) : Int)).toNat : Int) = _
  rw [BitVec.toNat_and, h1, h2, Nat.and_two_pow_sub_one_eq_mod]
  have := Nat.mod_lt x (Nat.two_pow_pos k)
  generalize x % 2 ^ k = y at *
  simp [IntKind.wrap, IntKind.bits, IntKind.signed]
  omega
theorem and_u64 (x k : Nat) (hx : x < 18446744073709551616) (hk : k ≤ 63) (m : Int) (hm : m = ((2 ^ k - 1 : Nat) : Int)) : bits .and .u64 (x : Int) m = ((x % 2 ^ k : Nat) : Int) := by
  subst hm
  have hp : 2 ^ k ≤ 2 ^ 63 := Nat.pow_le_pow_right (by omega) hk
  have h1 : (BitVec.ofInt 64 (x : Int)).toNat = x := by
    rw [BitVec.ofInt_natCast, BitVec.toNat_ofNat]; exact Nat.mod_eq_of_lt (by omega)
  have h2 : (BitVec.ofInt 64 ((2 ^ k - 1 : Nat) : Int)).toNat = 2 ^ k - 1 := by
    rw [BitVec.ofInt_natCast, BitVec.toNat_ofNat]; exact Nat.mod_eq_of_lt (by omega)
  show IntKind.u64.wrap ((BitVec.ofInt 64 (x : Int) &&& BitVec.ofInt 64 ((2 ^ k - 1 : Nat) : Int)).toNat : Int) = _
  rw [BitVec.toNat_and, h1, h2, Nat.and_two_pow_sub_one_eq_mod]
  have := Nat.mod_lt x (Nat.two_pow_pos k)
  generalize x % 2 ^ k = y at *
  simp [IntKind.wrap, IntKind.bits, IntKind.signed]
  omega
/-- the low bits of a word that was turned into a signed one -/
theorem and_i32 (x k : Nat) (hx : x < 4294967296) (hk : k ≤ 30) (m : Int) (hm : m = ((2 ^ k - 1 : Nat) : Int)) : bits .and .i32 (IntKind.i32.wrap (x : Int)) m = ((x % 2 ^ k : Nat) : Int) := by
  subst hm
  have hp : 2 ^ k ≤ 2 ^ 30 := Nat.pow_le_pow_right (by omega) hk
  have h1 : (BitVec.ofInt 32 (IntKind.i32.wrap (x : Int))).toNat = x := by
    rw [BitVec.toNat_ofInt]
    simp [IntKind.wrap, IntKind.bits, IntKind.signed]
    split <;> omega
  have h2 : (BitVec.ofInt 32 ((2 ^ k - 1 : Nat) : Int)).toNat = 2 ^ k - 1 := by
    rw [BitVec.ofInt_natCast, BitVec.toNat_ofNat]; exact Nat.mod_eq_of_lt (by omega)
  show IntKind.i32.wrap ((BitVec.ofInt 32 (IntKind.i32.wrap (x : Int)) &&& BitVec.ofInt 32 ((2 ^ k - 1 : Nat) : Int)).toNat : Int) = _
  rw [BitVec.toNat_and, h1, h2, Nat.and_two_pow_sub_one_eq_mod]
  have := Nat.mod_lt x (Nat.two_pow_pos k)
  generalize x % 2 ^ k = y at *
  simp [IntKind.wrap, IntKind.bits, IntKind.signed]
  omega

/-- the scratch while chances are read: the reader's place, the chances so far -/
def NcM (w0 : World) (D : Nat) (f1 : Nat → Value) (off : Nat) (out : List Int) (wr : World) : Prop :=
  ∃ f, RowF wr D 98 534 f ∧ (∀ k, k ≠ 513 → (k < 256 ∨ 512 ≤ k) → f k = f1 k) ∧ f 513 = .int .i64 (off : Nat) ∧
    (out.length ≤ 256 → ∀ i, i < out.length → f (256 + i) = .int .i16 (out.getD i 0)) ∧ Only (· = D) w0 wr
section
variable {w0 wr w' : World} {D off : Nat} {f1 : Nat → Value} {out : List Int}
theorem NcM.drewN (h : NcM w0 D f1 off out wr) (q : Nat) : NcM w0 D f1 off out (wr.drewN q) := by
  obtain ⟨f, h1, h2, h3, h4, h5⟩ := h
  exact ⟨f, h1.drewN q, h2, h3, h4, h5.drewN q⟩
theorem NcM.below (h : NcM w0 D f1 off out wr) (hb : Below wr.heap.size wr w') : NcM w0 D f1 off out w' := by
  obtain ⟨f, h1, h2, h3, h4, h5⟩ := h
  exact ⟨f, h1.below hb h1.lt, h2, h3, h4, h5.trans (Only.of_below hb fun _ hk _ => hk)⟩
theorem NcM.row (h : NcM w0 D f1 off out wr) : ∃ f, RowF wr D 98 534 f ∧ (∀ k, k ≠ 513 → (k < 256 ∨ 512 ≤ k) → f k = f1 k) ∧ f 513 = .int .i64 (off : Nat) := by
  obtain ⟨f, h1, h2, h3, _, _⟩ := h
  exact ⟨f, h1, h2, h3⟩
theorem NcM.setOff (h : NcM w0 D f1 off out wr) (off' : Nat) (v : Int) (hv : v = off') : NcM w0 D f1 off' out (wr.setCell ⟨D, 513, none⟩ (.int .i64 v)) := by
  subst hv
  obtain ⟨f, h1, h2, h3, h4, h5⟩ := h
  refine ⟨_, h1.set_ 513 _, fun k hk hk2 => by rw [updV_ne _ _ _ _ hk]; exact h2 k hk hk2, updV_same _ _ _, fun hl i hi => ?_, h5.set_ rfl _⟩
  rw [updV_ne _ _ _ _ (by omega)]
  exact h4 hl i hi
theorem NcM.push (h : NcM w0 D f1 off out wr) (c : Int) : NcM w0 D f1 off (out ++ [c]) (wr.setCell ⟨D, 256 + out.length % 256, none⟩ (.int .i16 c)) := by
  obtain ⟨f, h1, h2, h3, h4, h5⟩ := h
  have hm := Nat.mod_lt out.length (show 0 < 256 by omega)
  refine ⟨_, h1.set_ _ _, fun k hk hk2 => by rw [updV_ne _ _ _ _ (by omega)]; exact h2 k hk hk2, by rw [updV_ne _ _ _ _ (by omega)]; exact h3, fun hl i hi => ?_, h5.set_ rfl _⟩
  rw [List.length_append] at hl hi
  simp only [List.length_cons, List.length_nil] at hl hi
  by_cases hil : i = out.length
  · subst hil
    rw [Nat.mod_eq_of_lt (by omega), updV_same, List.getD_eq_getElem?_getD, List.getElem?_append_right (Nat.le_refl _)]
    simp
  · rw [updV_ne _ _ _ _ (by rw [Nat.mod_eq_of_lt (by omega)]; omega), h4 (by omega) i (by omega), List.getD_eq_getElem?_getD, List.getD_eq_getElem?_getD, List.getElem?_append_left (by omega)]
theorem NcM.sl {A : Option Addr} {n c : Nat} {l : List UInt8} (h : NcM w0 D f1 off out wr) (hs : Sl w0 D A n c l) (hD : D < w0.heap.size) : Sl wr D A n c l := by
  obtain ⟨f, h1, h2, h3, h4, h5⟩ := h
  exact hs.keep fun b o hb => World.cell?_of_block (h5.block b (fun (e : b = D) => by omega) (by omega))
theorem NcM.cells (h : NcM w0 D f1 off out wr) : wr.cell? ⟨D, 512, none⟩ = some (f1 512) ∧ wr.cell? ⟨D, 513, none⟩ = some (.int .i64 (off : Nat)) ∧ (∀ k, wr.frozen? ⟨D, k, none⟩ = false) ∧ D < wr.heap.size := by
  obtain ⟨f, h1, h2, h3, h4, h5⟩ := h
  exact ⟨by rw [h1.cell 512 (by omega), h2 512 (by omega) (by omega)], h1.cellv 513 (by omega) _ h3, fun k => h1.frozen k, h1.lt⟩
theorem NcM.only (h : NcM w0 D f1 off out wr) : Only (· = D) w0 wr := by
  obtain ⟨f, h1, h2, h3, h4, h5⟩ := h
  exact h5
theorem NcM.normCell (h : NcM w0 D f1 off out wr) (k : Nat) (hk : k < 534) : ∃ v, wr.cell? ⟨D, k, none⟩ = some v := by
  obtain ⟨f, h1, h2, h3, h4, h5⟩ := h
  exact ⟨_, h1.cell k hk⟩
theorem NcM.u32 {A : Option Addr} {n c : Nat} {l : List UInt8} (h : NcM w0 D f1 off out wr) (hs : Sl w0 D A n c l) (hD : D < w0.heap.size) (h4 : off + 4 ≤ n) (hn : n ≤ 127) :
    ∃ X : Nat, numF l (8 * off) 32 = X ∧ X < 4294967296 ∧ ∀ q, Calls Tryf.prog 58 #[.agg #[.slice A n c, .int .i64 (off : Nat)]] (wr.drewN q) fun e w' => e = .returned (.int .u32 (X : Nat)) ∧ NcM w0 D f1 off out w' := by
  refine ⟨_, rfl, numF_lt _ _ _, fun q => ?_⟩
  exact (uint32_any ((h.drewN q).sl hs hD) (Nat.le_of_lt (h.drewN q).cells.2.2.2) off h4 (by omega) (off : Nat) rfl).mono fun e w' hh => ⟨hh.1, (h.drewN q).below hh.2⟩
theorem NcM.adv (h : NcM w0 D f1 off out wr) (m : Nat) (hm : m ≤ 1000000) (ho : off ≤ 1000000) (mi : Int) (hmi : mi = m) :
    Calls Tryf.prog 59 #[.pointer (some ⟨D, 512, none⟩), .int .u64 mi] wr fun e w' => e = .returned (.tuple #[]) ∧ NcM w0 D f1 (off + m) out w' := by
  subst hmi
  refine (advance_any D 512 (off : Nat) (m : Nat) wr (by omega) (by omega) (by omega) (by omega) h.cells.2.1 (h.cells.2.2.1 513)).mono ?_
  rintro e w' ⟨h1, rfl⟩
  exact ⟨h1, h.setOff (off + m) _ (by omega)⟩
theorem NcM.offOf (h : NcM w0 D f1 off out wr) : offOf D 512 wr = off := by
  unfold Go.Proofs.YthkklojjpgjiiaaFmt.offOf
  rw [show wr.cell? ⟨D, 512 + 1, none⟩ = some (.int .i64 (off : Nat)) from h.cells.2.1]
  simp
end

/-- between two chances -/
def RelN (w0 : World) (D n lg : Nat) (l : List UInt8) (f1 : Nat → Value) (v3 v4 v7 v8 v9 v10 v11 v12 _v13 _v14 _v15 : Value) (wr : World) : Prop :=
  ∃ (m : Nat) (pv : Bool) (bs bc left off : Nat) (out : List Int), v3 = .int .u16 (m : Nat) ∧ v4 = .bool pv ∧ v7 = .int .u32 (bs : Nat) ∧ v8 = .int .u64 (chB left : Nat) ∧ v9 = .int .u64 (bc : Nat) ∧ v10 = .int .i32 (left + 1 : Nat) ∧ v11 = .int .i32 (chT left : Nat) ∧ v12 = .int .i32 (2 ^ lg - left : Nat) ∧
    NcM w0 D f1 off out wr ∧ out.length = m ∧ off + 4 ≤ n ∧ (off + 4 < n → bc ≤ 7) ∧ Bs l off (8 * off + bc) bs ∧ m + left + (if pv then 0 else 1) ≤ 321 ∧ bc ≤ 100 * m + 40 ∧ Least out ∧ sumA out + left = 2 ^ lg ∧ (pv = true → 0 < left) ∧
    ∀ R, TopR l R → (pv = false → Ck l (8 * off + bc) left out R) ∧ (pv = true → Zk l (8 * off + bc) left out R)
/-- behind the zeros -/
def RelA (w0 : World) (D n lg left : Nat) (l : List UInt8) (f1 : Nat → Value) (v3 v7 v9 _v13 : Value) (wr : World) : Prop :=
  ∃ (m bs bc off : Nat) (out : List Int), v3 = .int .u16 (m : Nat) ∧ v7 = .int .u32 (bs : Nat) ∧ v9 = .int .u64 (bc : Nat) ∧
    NcM w0 D f1 off out wr ∧ out.length = m ∧ off + 4 ≤ n ∧ (off + 5 < n → bc ≤ 7) ∧ Bs l off (8 * off + bc) bs ∧ m + left ≤ 320 ∧ bc ≤ 100 * m + 90 ∧ Least out ∧ sumA out + left = 2 ^ lg ∧
    ∀ R, TopR l R → Ck l (8 * off + bc) left out R
/-- a chance is read -/
def RelNc (left bs bc : Nat) (w1 : World) (v9 v15 : Value) (wx : World) : Prop :=
  ∃ cc u : Nat, chanceV (bs % 2 ^ chB left) left = ((cc : Int) - 1, u) ∧ v15 = .int .i32 (cc : Nat) ∧ v9 = .int .u64 (bc + u : Nat) ∧ wx = w1
/-- the parts left are reckoned -/
def RelNg (left1 lg : Nat) (w1 : World) (v10 v12 : Value) (wx : World) : Prop := v10 = .int .i32 (left1 + 1 : Nat) ∧ v12 = .int .i32 (2 ^ lg - left1 : Nat) ∧ wx = w1
/-- the number of bits falls with the parts left -/
def RelNt (w0 : World) (D off left1 : Nat) (f1 : Nat → Value) (out : List Int) (v8 v11 : Value) (wx : World) : Prop :=
  ∃ k, k ≤ 6 ∧ (left1 + 1).log2 ≤ k ∧ v8 = .int .u64 (k + 1 : Nat) ∧ v11 = .int .i32 (2 ^ k : Nat) ∧ NcM w0 D f1 off out wx
/-- the round's end -/
theorem RelN.next {w0 wr : World} {D n lg left cc u m1 bs1 bc1 off1 off2 bc2 : Nat} {l : List UInt8} {f1 : Nat → Value} {out1 : List Int} (hnl : l.length = n) (hl0 : left ≠ 0) (hl64 : left ≤ 64)
    (hm : out1.length = m1) (h4 : off1 + 4 ≤ n) (hbc : off1 + 5 < n → bc1 ≤ 7) (hB : Bs l off1 (8 * off1 + bc1) bs1) (hml : m1 + left ≤ 320) (hbm : bc1 ≤ 100 * m1 + 90) (hle : Least out1) (hsum : sumA out1 + left = 2 ^ lg)
    (hL : ∀ R, TopR l R → Ck l (8 * off1 + bc1) left out1 R) (hcv : chanceV (bs1 % 2 ^ chB left) left = ((cc : Int) - 1, u))
    (hpos : 8 * off2 + bc2 = 8 * off1 + bc1 + u) (h42 : off2 + 4 ≤ n) (hbc2 : off2 + 4 < n → bc2 ≤ 7) (hM : NcM w0 D f1 off2 (out1 ++ [(cc : Int) - 1]) wr)
    {v3 v4 v7 v8 v9 v10 v11 v12 v13 v14 v15 : Value} (e3 : v3 = .int .u16 (m1 + 1 : Nat)) (e4 : v4 = .bool ((cc : Int) - 1 == 0)) (e7 : v7 = .int .u32 (numF l (8 * off2) 32 / 2 ^ (bc2 % 32) : Nat))
    (e8 : v8 = .int .u64 (chB (left - ((cc : Int) - 1).natAbs) : Nat)) (e9 : v9 = .int .u64 (bc2 : Nat)) (e10 : v10 = .int .i32 (left - ((cc : Int) - 1).natAbs + 1 : Nat)) (e11 : v11 = .int .i32 (chT (left - ((cc : Int) - 1).natAbs) : Nat))
    (e12 : v12 = .int .i32 (2 ^ lg - (left - ((cc : Int) - 1).natAbs) : Nat)) : RelN w0 D n lg l f1 v3 v4 v7 v8 v9 v10 v11 v12 v13 v14 v15 wr := by
  have hf := chanceV_facts (bs1 % 2 ^ chB left) left (by rw [← (chT_facts left).2.2]; exact Nat.mod_lt _ (Nat.two_pow_pos _))
  rw [hcv] at hf
  dsimp only at hf
  have hB7 : chB left ≤ 7 := by
    unfold chB
    have := (Nat.log2_lt (n := left + 1) (k := 7) (by omega)).2 (by omega)
    omega
  have hck := fun R (hR : TopR l R) => (hL R hR).chance hB (by omega) (by omega) hl64 (by by_cases h5 : off1 + 5 < n; (have := hbc h5; right; omega); (left; omega)) hcv
  obtain ⟨d, hd⟩ : ∃ d, ((cc : Int) - 1).natAbs = d := ⟨_, rfl⟩
  rw [hd] at e8 e10 e11 e12 hck
  obtain ⟨c, hc⟩ : ∃ c, (cc : Int) - 1 = c := ⟨_, rfl⟩
  rw [hc] at hM hck e4 hd
  refine ⟨m1 + 1, c == 0, _, bc2, left - d, off2, _, e3, e4, e7, e8, e9, e10, e11, e12, hM, by simp [hm], h42, hbc2, Bs.load l off2 bc2 (by omega) (fun _ => by omega), ?_, by omega, hle.snoc (by omega), ?_, fun h => ?_, fun R hR => ?_⟩
  · by_cases h0 : c = 0
    · rw [h0]; simp; omega
    · have : (c == 0) = false := beq_eq_false_iff_ne.2 h0
      rw [this]; simp; omega
  · rw [sumA_append, sumA_one, hd]
    omega
  · have : c = 0 := by simpa using h
    omega
  · rw [hpos]
    refine ⟨fun h => (hck R hR).1 (by simpa using h), fun h => ?_⟩
    have h0 : c = 0 := by simpa using h
    rw [show left - d = left by omega, h0]
    exact (hck R hR).2 h0
/-- within the run: blocks of sixteen bits -/
def RelZ1 (w0 : World) (D n left m0 : Nat) (l : List UInt8) (f1 : Nat → Value) (out0 : List Int) (v7 v9 v13 : Value) (wr : World) : Prop :=
  ∃ (k bs bc off : Nat), v7 = .int .u32 (bs : Nat) ∧ v9 = .int .u64 (bc : Nat) ∧ v13 = .int .u16 (m0 + k : Nat) ∧
    NcM w0 D f1 off out0 wr ∧ off + 4 ≤ n ∧ (off + 5 < n → bc ≤ 7) ∧ Bs l off (8 * off + bc) bs ∧ 2 * k ≤ 3 * (8 * off + bc) ∧
    bc + (if 65536 ≤ bs then 32 else if 0 < bs then 16 else 0) ≤ 100 * m0 + 72 ∧
    ∀ R, TopR l R → Zk l (8 * off + bc) left (out0 ++ List.replicate k 0) R
/-- within the run: pairs of bits -/
def RelZ2 (w1 : World) (m0 k0 bs0 bc0 : Nat) (v7 v9 v13 : Value) (wr : World) : Prop :=
  ∃ t, t ≤ 7 ∧ v7 = .int .u32 (bs0 / 4 ^ t : Nat) ∧ v9 = .int .u64 (bc0 + 2 * t : Nat) ∧ v13 = .int .u16 (m0 + k0 + 3 * t : Nat) ∧ bs0 % 4 ^ t = 4 ^ t - 1 ∧ wr = w1
theorem ones_next (b t : Nat) (h : b % 4 ^ t = 4 ^ t - 1) (h3 : b / 4 ^ t % 4 = 3) : b % 4 ^ (t + 1) = 4 ^ (t + 1) - 1 := by
  have hp : 0 < 4 ^ t := Nat.pow_pos (by omega)
  rw [Nat.pow_succ, Nat.mod_mul, h, h3]
  omega
/-- the zeros are laid -/
def RelZ4 (w0 : World) (D off m0 K : Nat) (f1 : Nat → Value) (out0 : List Int) (v3 : Value) (wr : World) : Prop :=
  ∃ t, t ≤ K ∧ v3 = .int .u16 (m0 + t : Nat) ∧ NcM w0 D f1 off (out0 ++ List.replicate t 0) wr
/-- what readNCount comes to -/
def NcPost (w : World) (D n lg : Nat) (f : Nat → Value) (l : List UInt8) (e : Ending) (w' : World) : Prop :=
  (ErrE e w' ∧ Only (· = D) w w' ∧ ∀ R, TopR l R → R = none ∨ LostR l R ∨ l.length < 4 ∨ ∃ o i, R = some (o, i) ∧ o.length ≤ 1) ∨
  (e = .returned .nilIface ∧ ∃ out off f', RowF w' D 98 534 f' ∧ Only (· = D) w w' ∧ (∀ k, k ≠ 513 → k ≠ 528 → k ≠ 529 → (k < 256 ∨ 512 ≤ k) → f' k = f k) ∧
    f' 513 = .int .i64 (off : Nat) ∧ f' 528 = .int .u16 (out.length : Nat) ∧ f' 529 = .int .u8 (lg : Nat) ∧ (∀ i, i < out.length → f' (256 + i) = .int .i16 (out.getD i 0)) ∧
    Least out ∧ sumA out = 2 ^ lg ∧ 2 ≤ out.length ∧ out.length ≤ 256 ∧ off ≤ n ∧
    ∀ R, TopR l R → (off = n ∧ LostR l R) ∨ ∃ i, R = some (out, i) ∧ off = (i + 7) / 8)
end Go.Proofs.YthkklojjpgjiiaaFmt
namespace Go.Proofs.YthkklojjpgjiiaaFmt
open Go.RowKit Go.Extern.Stop Go.Stop Go.Extern

def firstLoop : Code → Option Code
  | .loop c => some c
  | .seq a b => match firstLoop a with
    | some c => some c
    | none => firstLoop b
  | .block _ c => firstLoop c
  | .scope c => firstLoop c
  | .cond _ a b => match firstLoop a with
    | some c => some c
    | none => firstLoop b
  | _ => none
def cL : Code → Code
  | .seq a _ => a
  | .cond _ a _ => a
  | .block _ c => c
  | .loop c => c
  | c => c
def cR : Code → Code
  | .seq _ b => b
  | .cond _ _ b => b
  | c => c
theorem arr_range (a : Array Value) (n : Nat) (h : a.size = n) : a = ((List.range n).map fun i => a.getD i undef).toArray := by
  subst h
  apply Array.ext
  · simp
  · intro i h1 h2
    simp [Array.getD, h1]
/-- the code behind stands in the continuation -/
theorem wp_back {P : Program} {c : Code} {Q : Exit → Act → World → Prop} {K : Act → World → Prop} {F : Act} {w : World} (hK : ∀ F w', Code.wp P c Q F w' → K F w') (h : Code.wp P c Q F w) : K F w := hK _ _ h
theorem then_back {P : Program} {c : Code} {Q Q' : Exit → Act → World → Prop} {K : Act → World → Prop} {F : Act} {w : World} (hK : ∀ F w', Code.wp P c Q F w' → K F w') (h : Code.wp P c Q F w) : Exit.then K Q' .normal F w := hK _ _ h
theorem act_ext {F : Act} {t : Array Value} (h : F.tmps = t) (hd : F.defers = []) : F = ⟨t, []⟩ := by cases F; cases hd; cases h; rfl
set_option maxRecDepth 100000 in
theorem arr340 (a : Array Value) (h : a.size = 340) : a = #[a.getD 0 undef, a.getD 1 undef, a.getD 2 undef, a.getD 3 undef, a.getD 4 undef, a.getD 5 undef, a.getD 6 undef, a.getD 7 undef, a.getD 8 undef, a.getD 9 undef, a.getD 10 undef, a.getD 11 undef, a.getD 12 undef, a.getD 13 undef, a.getD 14 undef, a.getD 15 undef, a.getD 16 undef, a.getD 17 undef, a.getD 18 undef, a.getD 19 undef, a.getD 20 undef, a.getD 21 undef, a.getD 22 undef, a.getD 23 undef, a.getD 24 undef, a.getD 25 undef, a.getD 26 undef, a.getD 27 undef, a.getD 28 undef, a.getD 29 undef, a.getD 30 undef, a.getD 31 undef, a.getD 32 undef, a.getD 33 undef, a.getD 34 undef, a.getD 35 undef, a.getD 36 undef, a.getD 37 undef, a.getD 38 undef, a.getD 39 undef, a.getD 40 undef, a.getD 41 undef, a.getD 42 undef, a.getD 43 undef, a.getD 44 undef, a.getD 45 undef, a.getD 46 undef, a.getD 47 undef, a.getD 48 undef, a.getD 49 undef, a.getD 50 undef, a.getD 51 undef, a.getD 52 undef, a.getD 53 undef, a.getD 54 undef, a.getD 55 undef, a.getD 56 undef, a.getD 57 undef, a.getD 58 undef, a.getD 59 undef, a.getD 60 undef, a.getD 61 undef, a.getD 62 undef, a.getD 63 undef, a.getD 64 undef, a.getD 65 undef, a.getD 66 undef, a.getD 67 undef, a.getD 68 undef, a.getD 69 undef, a.getD 70 undef, a.getD 71 undef, a.getD 72 undef, a.getD 73 undef, a.getD 74 undef, a.getD 75 undef, a.getD 76 undef, a.getD 77 undef, a.getD 78 undef, a.getD 79 undef, a.getD 80 undef, a.getD 81 undef, a.getD 82 undef, a.getD 83 undef, a.getD 84 undef, a.getD 85 undef, a.getD 86 undef, a.getD 87 undef, a.getD 88 undef, a.getD 89 undef, a.getD 90 undef, a.getD 91 undef, a.getD 92 undef, a.getD 93 undef, a.getD 94 undef, a.getD 95 undef, a.getD 96 undef, a.getD 97 undef, a.getD 98 undef, a.getD 99 undef, a.getD 100 undef, a.getD 101 undef, a.getD 102 undef, a.getD 103 undef, a.getD 104 undef, a.getD 105 undef, a.getD 106 undef, a.getD 107 undef, a.getD 108 undef, a.getD 109 undef, a.getD 110 undef, a.getD 111 undef, a.getD 112 undef, a.getD 113 undef, a.getD 114 undef, a.getD 115 undef, a.getD 116 undef, a.getD 117 undef, a.getD 118 undef, a.getD 119 undef, a.getD 120 undef, a.getD 121 undef, a.getD 122 undef, a.getD 123 undef, a.getD 124 undef, a.getD 125 undef, a.getD 126 undef, a.getD 127 undef, a.getD 128 undef, a.getD 129 undef, a.getD 130 undef, a.getD 131 undef, a.getD 132 undef, a.getD 133 undef, a.getD 134 undef, a.getD 135 undef, a.getD 136 undef, a.getD 137 undef, a.getD 138 undef, a.getD 139 undef, a.getD 140 undef, a.getD 141 undef, a.getD 142 undef, a.getD 143 undef, a.getD 144 undef, a.getD 145 undef, a.getD 146 undef, a.getD 147 undef, a.getD 148 undef, a.getD 149 undef, a.getD 150 undef, a.getD 151 undef, a.getD 152 undef, a.getD 153 undef, a.getD 154 undef, a.getD 155 undef, a.getD 156 undef, a.getD 157 undef, a.getD 158 undef, a.getD 159 undef, a.getD 160 undef, a.getD 161 undef, a.getD 162 undef, a.getD 163 undef, a.getD 164 undef, a.getD 165 undef, a.getD 166 undef, a.getD 167 undef, a.getD 168 undef, a.getD 169 undef, a.getD 170 undef, a.getD 171 undef, a.getD 172 undef, a.getD 173 undef, a.getD 174 undef, a.getD 175 undef, a.getD 176 undef, a.getD 177 undef, a.getD 178 undef, a.getD 179 undef, a.getD 180 undef, a.getD 181 undef, a.getD 182 undef, a.getD 183 undef, a.getD 184 undef, a.getD 185 undef, a.getD 186 undef, a.getD 187 undef, a.getD 188 undef, a.getD 189 undef, a.getD 190 undef, a.getD 191 undef, a.getD 192 undef, a.getD 193 undef, a.getD 194 undef, a.getD 195 undef, a.getD 196 undef, a.getD 197 undef, a.getD 198 undef, a.getD 199 undef, a.getD 200 undef, a.getD 201 undef, a.getD 202 undef, a.getD 203 undef, a.getD 204 undef, a.getD 205 undef, a.getD 206 undef, a.getD 207 undef, a.getD 208 undef, a.getD 209 undef, a.getD 210 undef, a.getD 211 undef, a.getD 212 undef, a.getD 213 undef, a.getD 214 undef, a.getD 215 undef, a.getD 216 undef, a.getD 217 undef, a.getD 218 undef, a.getD 219 undef, a.getD 220 undef, a.getD 221 undef, a.getD 222 undef, a.getD 223 undef, a.getD 224 undef, a.getD 225 undef, a.getD 226 undef, a.getD 227 undef, a.getD 228 undef, a.getD 229 undef, a.getD 230 undef, a.getD 231 undef, a.getD 232 undef, a.getD 233 undef, a.getD 234 undef, a.getD 235 undef, a.getD 236 undef, a.getD 237 undef, a.getD 238 undef, a.getD 239 undef, a.getD 240 undef, a.getD 241 undef, a.getD 242 undef, a.getD 243 undef, a.getD 244 undef, a.getD 245 undef, a.getD 246 undef, a.getD 247 undef, a.getD 248 undef, a.getD 249 undef, a.getD 250 undef, a.getD 251 undef, a.getD 252 undef, a.getD 253 undef, a.getD 254 undef, a.getD 255 undef, a.getD 256 undef, a.getD 257 undef, a.getD 258 undef, a.getD 259 undef, a.getD 260 undef, a.getD 261 undef, a.getD 262 undef, a.getD 263 undef, a.getD 264 undef, a.getD 265 undef, a.getD 266 undef, a.getD 267 undef, a.getD 268 undef, a.getD 269 undef, a.getD 270 undef, a.getD 271 undef, a.getD 272 undef, a.getD 273 undef, a.getD 274 undef, a.getD 275 undef, a.getD 276 undef, a.getD 277 undef, a.getD 278 undef, a.getD 279 undef, a.getD 280 undef, a.getD 281 undef, a.getD 282 undef, a.getD 283 undef, a.getD 284 undef, a.getD 285 undef, a.getD 286 undef, a.getD 287 undef, a.getD 288 undef, a.getD 289 undef, a.getD 290 undef, a.getD 291 undef, a.getD 292 undef, a.getD 293 undef, a.getD 294 undef, a.getD 295 undef, a.getD 296 undef, a.getD 297 undef, a.getD 298 undef, a.getD 299 undef, a.getD 300 undef, a.getD 301 undef, a.getD 302 undef, a.getD 303 undef, a.getD 304 undef, a.getD 305 undef, a.getD 306 undef, a.getD 307 undef, a.getD 308 undef, a.getD 309 undef, a.getD 310 undef, a.getD 311 undef, a.getD 312 undef, a.getD 313 undef, a.getD 314 undef, a.getD 315 undef, a.getD 316 undef, a.getD 317 undef, a.getD 318 undef, a.getD 319 undef, a.getD 320 undef, a.getD 321 undef, a.getD 322 undef, a.getD 323 undef, a.getD 324 undef, a.getD 325 undef, a.getD 326 undef, a.getD 327 undef, a.getD 328 undef, a.getD 329 undef, a.getD 330 undef, a.getD 331 undef, a.getD 332 undef, a.getD 333 undef, a.getD 334 undef, a.getD 335 undef, a.getD 336 undef, a.getD 337 undef, a.getD 338 undef, a.getD 339 undef] := by
  have := arr_range a 340 h
  exact this

noncomputable def ncBody : Code := ((Tryf.f44.body.bind firstLoop).getD .skip)
noncomputable def ncB : Code := cL (cR ncBody)
noncomputable def ncZ : Code := cL ncB
noncomputable def ncZA : Code := cL (cR ncZ)
noncomputable def ncZ1 : Code := cR (cR ncZA)
noncomputable def ncZ2 : Code := cR (cR (cR (cR ncZ1)))
noncomputable def ncT1 : Code := cR ncB
noncomputable def ncT2 : Code := cR (cR (cR ncT1))
noncomputable def ncT3 : Code := cR (cR (cR (cR (cR (cR ncT2)))))
noncomputable def ncT4 : Code := cR ncT3
/-- the frame: the scratch, the reader, the number of bytes, the variables -/
def NcF (D n : Nat) (v3 v4 v7 v8 v9 v10 v11 v12 : Value) (F : Act) : Prop := F.defers = [] ∧ F.tmps.size = 340 ∧ F.tmps.getD 0 undef = .pointer (some ⟨D, 0, none⟩) ∧ F.tmps.getD 3 undef = v3 ∧ F.tmps.getD 4 undef = v4 ∧ F.tmps.getD 5 undef = .pointer (some ⟨D, 512, none⟩) ∧ F.tmps.getD 6 undef = .int .i64 (n : Nat) ∧ F.tmps.getD 7 undef = v7 ∧ F.tmps.getD 8 undef = v8 ∧ F.tmps.getD 9 undef = v9 ∧ F.tmps.getD 10 undef = v10 ∧ F.tmps.getD 11 undef = v11 ∧ F.tmps.getD 12 undef = v12
set_option maxRecDepth 100000 in
theorem nc_frame {F : Act} {D n : Nat} {v3 v4 v7 v8 v9 v10 v11 v12 : Value} (h : NcF D n v3 v4 v7 v8 v9 v10 v11 v12 F) : F = ⟨#[.pointer (some ⟨D, 0, none⟩), F.tmps.getD 1 undef, F.tmps.getD 2 undef, v3, v4, .pointer (some ⟨D, 512, none⟩), .int .i64 (n : Nat), v7, v8, v9, v10, v11, v12, F.tmps.getD 13 undef, F.tmps.getD 14 undef, F.tmps.getD 15 undef, F.tmps.getD 16 undef, F.tmps.getD 17 undef, F.tmps.getD 18 undef, F.tmps.getD 19 undef, F.tmps.getD 20 undef, F.tmps.getD 21 undef, F.tmps.getD 22 undef, F.tmps.getD 23 undef, F.tmps.getD 24 undef, F.tmps.getD 25 undef, F.tmps.getD 26 undef, F.tmps.getD 27 undef, F.tmps.getD 28 undef, F.tmps.getD 29 undef, F.tmps.getD 30 undef, F.tmps.getD 31 undef, F.tmps.getD 32 undef, F.tmps.getD 33 undef, F.tmps.getD 34 undef, F.tmps.getD 35 undef, F.tmps.getD 36 undef, F.tmps.getD 37 undef, F.tmps.getD 38 undef, F.tmps.getD 39 undef, F.tmps.getD 40 undef, F.tmps.getD 41 undef, F.tmps.getD 42 undef, F.tmps.getD 43 undef, F.tmps.getD 44 undef, F.tmps.getD 45 undef, F.tmps.getD 46 undef, F.tmps.getD 47 undef, F.tmps.getD 48 undef, F.tmps.getD 49 undef, F.tmps.getD 50 undef, F.tmps.getD 51 undef, F.tmps.getD 52 undef, F.tmps.getD 53 undef, F.tmps.getD 54 undef, F.tmps.getD 55 undef, F.tmps.getD 56 undef, F.tmps.getD 57 undef, F.tmps.getD 58 undef, F.tmps.getD 59 undef, F.tmps.getD 60 undef, F.tmps.getD 61 undef, F.tmps.getD 62 undef, F.tmps.getD 63 undef, F.tmps.getD 64 undef, F.tmps.getD 65 undef, F.tmps.getD 66 undef, F.tmps.getD 67 undef, F.tmps.getD 68 undef, F.tmps.getD 69 undef, F.tmps.getD 70 undef, F.tmps.getD 71 undef, F.tmps.getD 72 undef, F.tmps.getD 73 undef, F.tmps.getD 74 undef, F.tmps.getD 75 undef, F.tmps.getD 76 undef, F.tmps.getD 77 undef, F.tmps.getD 78 undef, F.tmps.getD 79 undef, F.tmps.getD 80 undef, F.tmps.getD 81 undef, F.tmps.getD 82 undef, F.tmps.getD 83 undef, F.tmps.getD 84 undef, F.tmps.getD 85 undef, F.tmps.getD 86 undef, F.tmps.getD 87 undef, F.tmps.getD 88 undef, F.tmps.getD 89 undef, F.tmps.getD 90 undef, F.tmps.getD 91 undef, F.tmps.getD 92 undef, F.tmps.getD 93 undef, F.tmps.getD 94 undef, F.tmps.getD 95 undef, F.tmps.getD 96 undef, F.tmps.getD 97 undef, F.tmps.getD 98 undef, F.tmps.getD 99 undef, F.tmps.getD 100 undef, F.tmps.getD 101 undef, F.tmps.getD 102 undef, F.tmps.getD 103 undef, F.tmps.getD 104 undef, F.tmps.getD 105 undef, F.tmps.getD 106 undef, F.tmps.getD 107 undef, F.tmps.getD 108 undef, F.tmps.getD 109 undef, F.tmps.getD 110 undef, F.tmps.getD 111 undef, F.tmps.getD 112 undef, F.tmps.getD 113 undef, F.tmps.getD 114 undef, F.tmps.getD 115 undef, F.tmps.getD 116 undef, F.tmps.getD 117 undef, F.tmps.getD 118 undef, F.tmps.getD 119 undef, F.tmps.getD 120 undef, F.tmps.getD 121 undef, F.tmps.getD 122 undef, F.tmps.getD 123 undef, F.tmps.getD 124 undef, F.tmps.getD 125 undef, F.tmps.getD 126 undef, F.tmps.getD 127 undef, F.tmps.getD 128 undef, F.tmps.getD 129 undef, F.tmps.getD 130 undef, F.tmps.getD 131 undef, F.tmps.getD 132 undef, F.tmps.getD 133 undef, F.tmps.getD 134 undef, F.tmps.getD 135 undef, F.tmps.getD 136 undef, F.tmps.getD 137 undef, F.tmps.getD 138 undef, F.tmps.getD 139 undef, F.tmps.getD 140 undef, F.tmps.getD 141 undef, F.tmps.getD 142 undef, F.tmps.getD 143 undef, F.tmps.getD 144 undef, F.tmps.getD 145 undef, F.tmps.getD 146 undef, F.tmps.getD 147 undef, F.tmps.getD 148 undef, F.tmps.getD 149 undef, F.tmps.getD 150 undef, F.tmps.getD 151 undef, F.tmps.getD 152 undef, F.tmps.getD 153 undef, F.tmps.getD 154 undef, F.tmps.getD 155 undef, F.tmps.getD 156 undef, F.tmps.getD 157 undef, F.tmps.getD 158 undef, F.tmps.getD 159 undef, F.tmps.getD 160 undef, F.tmps.getD 161 undef, F.tmps.getD 162 undef, F.tmps.getD 163 undef, F.tmps.getD 164 undef, F.tmps.getD 165 undef, F.tmps.getD 166 undef, F.tmps.getD 167 undef, F.tmps.getD 168 undef, F.tmps.getD 169 undef, F.tmps.getD 170 undef, F.tmps.getD 171 undef, F.tmps.getD 172 undef, F.tmps.getD 173 undef, F.tmps.getD 174 undef, F.tmps.getD 175 undef, F.tmps.getD 176 undef, F.tmps.getD 177 undef, F.tmps.getD 178 undef, F.tmps.getD 179 undef, F.tmps.getD 180 undef, F.tmps.getD 181 undef, F.tmps.getD 182 undef, F.tmps.getD 183 undef, F.tmps.getD 184 undef, F.tmps.getD 185 undef, F.tmps.getD 186 undef, F.tmps.getD 187 undef, F.tmps.getD 188 undef, F.tmps.getD 189 undef, F.tmps.getD 190 undef, F.tmps.getD 191 undef, F.tmps.getD 192 undef, F.tmps.getD 193 undef, F.tmps.getD 194 undef, F.tmps.getD 195 undef, F.tmps.getD 196 undef, F.tmps.getD 197 undef, F.tmps.getD 198 undef, F.tmps.getD 199 undef, F.tmps.getD 200 undef, F.tmps.getD 201 undef, F.tmps.getD 202 undef, F.tmps.getD 203 undef, F.tmps.getD 204 undef, F.tmps.getD 205 undef, F.tmps.getD 206 undef, F.tmps.getD 207 undef, F.tmps.getD 208 undef, F.tmps.getD 209 undef, F.tmps.getD 210 undef, F.tmps.getD 211 undef, F.tmps.getD 212 undef, F.tmps.getD 213 undef, F.tmps.getD 214 undef, F.tmps.getD 215 undef, F.tmps.getD 216 undef, F.tmps.getD 217 undef, F.tmps.getD 218 undef, F.tmps.getD 219 undef, F.tmps.getD 220 undef, F.tmps.getD 221 undef, F.tmps.getD 222 undef, F.tmps.getD 223 undef, F.tmps.getD 224 undef, F.tmps.getD 225 undef, F.tmps.getD 226 undef, F.tmps.getD 227 undef, F.tmps.getD 228 undef, F.tmps.getD 229 undef, F.tmps.getD 230 undef, F.tmps.getD 231 undef, F.tmps.getD 232 undef, F.tmps.getD 233 undef, F.tmps.getD 234 undef, F.tmps.getD 235 undef, F.tmps.getD 236 undef, F.tmps.getD 237 undef, F.tmps.getD 238 undef, F.tmps.getD 239 undef, F.tmps.getD 240 undef, F.tmps.getD 241 undef, F.tmps.getD 242 undef, F.tmps.getD 243 undef, F.tmps.getD 244 undef, F.tmps.getD 245 undef, F.tmps.getD 246 undef, F.tmps.getD 247 undef, F.tmps.getD 248 undef, F.tmps.getD 249 undef, F.tmps.getD 250 undef, F.tmps.getD 251 undef, F.tmps.getD 252 undef, F.tmps.getD 253 undef, F.tmps.getD 254 undef, F.tmps.getD 255 undef, F.tmps.getD 256 undef, F.tmps.getD 257 undef, F.tmps.getD 258 undef, F.tmps.getD 259 undef, F.tmps.getD 260 undef, F.tmps.getD 261 undef, F.tmps.getD 262 undef, F.tmps.getD 263 undef, F.tmps.getD 264 undef, F.tmps.getD 265 undef, F.tmps.getD 266 undef, F.tmps.getD 267 undef, F.tmps.getD 268 undef, F.tmps.getD 269 undef, F.tmps.getD 270 undef, F.tmps.getD 271 undef, F.tmps.getD 272 undef, F.tmps.getD 273 undef, F.tmps.getD 274 undef, F.tmps.getD 275 undef, F.tmps.getD 276 undef, F.tmps.getD 277 undef, F.tmps.getD 278 undef, F.tmps.getD 279 undef, F.tmps.getD 280 undef, F.tmps.getD 281 undef, F.tmps.getD 282 undef, F.tmps.getD 283 undef, F.tmps.getD 284 undef, F.tmps.getD 285 undef, F.tmps.getD 286 undef, F.tmps.getD 287 undef, F.tmps.getD 288 undef, F.tmps.getD 289 undef, F.tmps.getD 290 undef, F.tmps.getD 291 undef, F.tmps.getD 292 undef, F.tmps.getD 293 undef, F.tmps.getD 294 undef, F.tmps.getD 295 undef, F.tmps.getD 296 undef, F.tmps.getD 297 undef, F.tmps.getD 298 undef, F.tmps.getD 299 undef, F.tmps.getD 300 undef, F.tmps.getD 301 undef, F.tmps.getD 302 undef, F.tmps.getD 303 undef, F.tmps.getD 304 undef, F.tmps.getD 305 undef, F.tmps.getD 306 undef, F.tmps.getD 307 undef, F.tmps.getD 308 undef, F.tmps.getD 309 undef, F.tmps.getD 310 undef, F.tmps.getD 311 undef, F.tmps.getD 312 undef, F.tmps.getD 313 undef, F.tmps.getD 314 undef, F.tmps.getD 315 undef, F.tmps.getD 316 undef, F.tmps.getD 317 undef, F.tmps.getD 318 undef, F.tmps.getD 319 undef, F.tmps.getD 320 undef, F.tmps.getD 321 undef, F.tmps.getD 322 undef, F.tmps.getD 323 undef, F.tmps.getD 324 undef, F.tmps.getD 325 undef, F.tmps.getD 326 undef, F.tmps.getD 327 undef, F.tmps.getD 328 undef, F.tmps.getD 329 undef, F.tmps.getD 330 undef, F.tmps.getD 331 undef, F.tmps.getD 332 undef, F.tmps.getD 333 undef, F.tmps.getD 334 undef, F.tmps.getD 335 undef, F.tmps.getD 336 undef, F.tmps.getD 337 undef, F.tmps.getD 338 undef, F.tmps.getD 339 undef], []⟩ := by
  obtain ⟨hd, hs, h0, h3, h4, h5, h6, h7, h8, h9, h10, h11, h12⟩ := h
  have h := arr340 F.tmps hs
  rw [h0, h3, h4, h5, h6, h7, h8, h9, h10, h11, h12] at h
  exact act_ext h hd

/-- what stays as it is in the call -/
structure NcE (F : Interp) (w : World) (D : Nat) (A : Option Addr) (n c x : Nat) (l : List UInt8) (f1 : Nat → Value) : Prop where
  hF : F.answers w.tape
  h512 : f1 512 = .slice A n c
  hs : Sl w D A n c l
  hnl : l.length = n
  hn : n ≤ 127
  hDw : D < w.heap.size
  h4 : 4 ≤ n
  hx : numF l 0 4 = x
  hx1 : x ≤ 1
/-- an error is handed back -/
def NcErr (w : World) (D : Nat) (l : List UInt8) (e : Ending) (w' : World) : Prop :=
  ErrE e w' ∧ Only (· = D) w w' ∧ ∀ R, TopR l R → R = none ∨ LostR l R ∨ l.length < 4 ∨ ∃ o i, R = some (o, i) ∧ o.length ≤ 1
def NcBad (w : World) (D : Nat) (l : List UInt8) (F : Act) (w' : World) : Prop :=
  F.defers = [] ∧ F.tmps.size = 340 ∧ ∃ b s, F.tmps.getD 2 undef = .iface 107 (.pointer (some ⟨b, 0, none⟩)) ∧ w'.cell? ⟨b, 0, none⟩ = some (.string s) ∧ Only (· = D) w w' ∧ ∀ R, TopR l R → R = none ∨ LostR l R ∨ l.length < 4 ∨ ∃ o i, R = some (o, i) ∧ o.length ≤ 1
/-- the next round -/
def NcNext (w : World) (D n lg m : Nat) (l : List UInt8) (f1 : Nat → Value) (F : Act) (w' : World) : Prop :=
  ∃ v3 v4 v7 v8 v9 v10 v11 v12, NcF D n v3 v4 v7 v8 v9 v10 v11 v12 F ∧ RelN w D n lg l f1 v3 v4 v7 v8 v9 v10 v11 v12 undef undef undef w' ∧ m < (intOf v3).toNat
/-- the window is moved on -/
def NcMove (w : World) (D n : Nat) (l : List UInt8) (f1 : Nat → Value) (out : List Int) (pos : Nat) (v3 v4 v8 v10 v11 v12 : Value) (F : Act) (w' : World) : Prop :=
  ∃ off b, NcF D n v3 v4 (.int .u32 (numF l (8 * off) 32 / 2 ^ (b % 32) : Nat)) v8 (.int .u64 (b : Nat)) v10 v11 v12 F ∧ NcM w D f1 off out w' ∧ 8 * off + b = pos ∧ off + 4 ≤ n ∧ (off + 4 < n → b ≤ 7)
/-- behind the zeros -/
def NcA (w : World) (D n lg left m : Nat) (l : List UInt8) (f1 : Nat → Value) (v4 v8 v10 v11 v12 : Value) (F : Act) (w' : World) : Prop :=
  ∃ v3 v7 v9, NcF D n v3 v4 v7 v8 v9 v10 v11 v12 F ∧ RelA w D n lg left l f1 v3 v7 v9 undef w' ∧ m ≤ (intOf v3).toNat
end Go.Proofs.YthkklojjpgjiiaaFmt
