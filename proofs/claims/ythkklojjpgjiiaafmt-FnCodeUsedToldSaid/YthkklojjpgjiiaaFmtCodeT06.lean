/-
  spec.zChance: a chance as a function of the bits. Conditions: those of each.
-/
import Derived.Test.YthkklojjpgjiiaaFmtCodeT05
namespace Go.Proofs.YthkklojjpgjiiaaFmt
open Go.RowKit

def chB (left : Nat) : Nat := (left + 1).log2 + 1
def chT (left : Nat) : Nat := 2 ^ (left + 1).log2
def chFew (left : Nat) : Nat := 2 * chT left - 1 - (left + 1)
/-- a chance, and where the next bits stand -/
def chanceF (l : List UInt8) (i left : Nat) : Int × Nat :=
  if numF l i (chB left) % chT left < chFew left then ((numF l i (chB left) % chT left : Nat) - 1, i + chB left - 1)
  else if chT left ≤ numF l i (chB left) then ((numF l i (chB left) : Int) - chFew left - 1, i + chB left)
  else ((numF l i (chB left) : Int) - 1, i + chB left)

/-- a reader of bits forwards, its block g alone changed -/
def Fore (g : Nat) (A : Option Addr) (n c : Nat) (w : World) (i : Nat) (w' : World) : Prop :=
  w'.heap[g]? = some (.cells #[.slice A n c, .int .i64 (i : Nat)] 152 (0, 0)) ∧ w'.heap.size = w.heap.size ∧ Below g w w' ∧ ∀ k, k ≠ g → w'.heap[k]? = w.heap[k]?
theorem Fore.refl {g : Nat} {A : Option Addr} {n c i : Nat} {w : World} (h : w.heap[g]? = some (.cells #[.slice A n c, .int .i64 (i : Nat)] 152 (0, 0))) : Fore g A n c w i w := ⟨h, rfl, Below.refl _ _, fun _ _ => rfl⟩
theorem Fore.drewN {g : Nat} {A : Option Addr} {n c i : Nat} {w w' : World} (h : Fore g A n c w i w') (q : Nat) : Fore g A n c w i (w'.drewN q) := ⟨h.1, h.2.1, ⟨h.2.2.1.os, h.2.2.1.tape, h.2.2.1.output, h.2.2.1.size, h.2.2.1.block⟩, h.2.2.2⟩
theorem Fore.set_ {g : Nat} {A : Option Addr} {n c i : Nat} {w w' : World} (h : Fore g A n c w i w') (j : Nat) (ji : Int) (hj : ji = j) : Fore g A n c w j (w'.setCell ⟨g, 1, none⟩ (.int .i64 ji)) := by
  subst hj
  refine ⟨?_, by rw [← h.2.1]; simp, h.2.2.1.setCell (p := ⟨g, 1, none⟩) (Nat.le_refl g) _, fun k hk => ?_⟩
  · have h1 := h.1
    simp [World.setCell, Array.getElem?_modify, h1]
  · rw [← h.2.2.2 k hk]
    simp [World.setCell, Array.getElem?_modify, Ne.symm hk]
theorem Fore.trans {g : Nat} {A : Option Addr} {n c i j : Nat} {w w1 w2 : World} (h : Fore g A n c w i w1) (h2 : Fore g A n c w1 j w2) : Fore g A n c w j w2 :=
  ⟨h2.1, h2.2.1.trans h.2.1, h.2.2.1.trans h2.2.2.1, fun k hk => (h2.2.2.2 k hk).trans (h.2.2.2 k hk)⟩
theorem fore_read' {w : World} {B g : Nat} {A : Option Addr} {n c : Nat} {l : List UInt8} (hs : Sl w B A n c l) (hn : n ≤ 1000000) (i m : Nat) (hi : i ≤ 100000000) (hm : m ≤ 32) (mi : Int) (hmi : mi = m)
    (hR : w.heap[g]? = some (.cells #[.slice A n c, .int .i64 (i : Nat)] 152 (0, 0))) :
    Calls Tryf.prog 50 #[.pointer (some ⟨g, 0, none⟩), .int .i64 mi] w fun e w' => e = .returned (.int .i64 (numF l i m)) ∧ Fore g A n c w (i + m) w' := by
  refine (fore_read hs hn i m hi hm (i : Nat) mi rfl hmi hR).mono ?_
  rintro e w' ⟨rfl, q, q2, rfl⟩
  exact ⟨rfl, (((Fore.refl hR).drewN q).set_ (i + m) _ rfl).drewN q2⟩

theorem and_i64 (a b : Nat) (ha : a < 9223372036854775808) (hb : b < 9223372036854775808) : bits .and .i64 (a : Int) (b : Int) = ((a &&& b : Nat) : Int) := by
  have hx : a &&& b < 2 ^ 63 := Nat.and_lt_two_pow _ (by omega)
  have h1 : (BitVec.ofInt 64 (a : Int)).toNat = a := by
    rw [BitVec.ofInt_natCast, BitVec.toNat_ofNat]; exact Nat.mod_eq_of_lt (by omega)
  have h2 : (BitVec.ofInt 64 (b : Int)).toNat = b := by
    rw [BitVec.ofInt_natCast, BitVec.toNat_ofNat]; exact Nat.mod_eq_of_lt (by omega)
  show IntKind.i64.wrap ((BitVec.ofInt 64 (a : Int) &&& BitVec.ofInt 64 (b : Int)).toNat : Int) = _
  rw [BitVec.toNat_and, h1, h2, IntKind.wrap_i64]
  omega
theorem low_bits (v b : Nat) (hv : v < 1000000) (hb : b < 32) : bits .and .i64 (v : Int) ((2 ^ b - 1 : Nat) : Int) = ((v % 2 ^ b : Nat) : Int) := by
  have hp : 2 ^ b ≤ 2 ^ 31 := Nat.pow_le_pow_right (by omega) (by omega)
  rw [and_i64 v (2 ^ b - 1) (by omega) (by omega), Nat.and_two_pow_sub_one_eq_mod]

set_option maxRecDepth 100000 in
set_option maxHeartbeats 1600000 in
theorem zChance_any {w : World} {B g : Nat} {A : Option Addr} {n c : Nat} {l : List UInt8} (hs : Sl w B A n c l) (hn : n ≤ 1000000) (i left : Nat) (hi : i ≤ 1000000) (hl : 1 ≤ left) (hl2 : left ≤ 1000) (li : Int) (hli : li = left)
    (hR : w.heap[g]? = some (.cells #[.slice A n c, .int .i64 (i : Nat)] 152 (0, 0))) :
    Calls Tryf.prog 52 #[.pointer (some ⟨g, 0, none⟩), .int .i64 li] w fun e w' => e = .returned (.int .i64 (chanceF l i left).1) ∧ Fore g A n c w (chanceF l i left).2 w' := by
  obtain ⟨b, hb⟩ : ∃ b, (left + 1).log2 = b := ⟨_, rfl⟩
  have hb1 : 1 ≤ b ∧ b ≤ 9 := by
    have h2 := Nat.log2_self_le (n := left + 1) (by omega)
    have h3 := Nat.lt_log2_self (n := left + 1)
    rw [hb] at h2 h3
    constructor
    · rcases Nat.eq_zero_or_pos b with h | h
      · subst h; simp at h3; omega
      · exact h
    · have : 2 ^ b < 2 ^ 10 := by omega
      have := (Nat.pow_lt_pow_iff_right (a := 2) (by omega)).1 this
      omega
  obtain ⟨v, hv⟩ : ∃ v, numF l i (b + 1) = v := ⟨_, rfl⟩
  have KL := Lib.hid (zLog_any (left + 1) (by omega) (li + 1) (by omega))
  rw [hb] at KL
  have KR := Lib.hid (fore_read' hs hn i (b + 1) (by omega) (by omega) ((b : Int) + 1) (by omega) hR)
  rw [hv] at KR
  have el : wrap64 (li + 1) = li + 1 := by unfold wrap64; omega
  have HB := Lib.hid hb
  have HV := Lib.hid hv
  have HR := Lib.hid hR
  have HL := Lib.hid hli
  clear hs hR hb hv hli
  go_enter Tryf.func52, Tryf.ntmps52
  go_wp2_with fail
  refine (KL.out w).mono ?_
  rintro e w1 ⟨rfl, rfl⟩
  go_wp2_with fail
  refine KR.out.mono ?_
  rintro e w2 ⟨rfl, hf⟩
  have hlog := HB.out
  have hvv := HV.out
  have q1 : w2.cell? ⟨g, 1, none⟩ = some (.int .i64 (i + (b + 1) : Nat)) := cell_of_row w2 g 1 _ _ (0, 0) hf.1
  have f1 : w2.frozen? ⟨g, 1, none⟩ = false := frozen_of_row w2 g 1 _ _ hf.1
  have hv2 : v < 2 ^ (b + 1) := by rw [← hvv]; exact numF_lt l i (b + 1)
  have hv3 : v < 1024 := Nat.lt_of_lt_of_le hv2 (show 2 ^ (b + 1) ≤ 2 ^ 10 from Nat.pow_le_pow_right (by omega) (by omega))
  have ea := low_bits v b (by omega) (by omega)
  obtain ⟨x, hx⟩ : ∃ x, v % 2 ^ b = x := ⟨_, rfl⟩
  rw [hx] at ea
  obtain ⟨s, hs⟩ : ∃ s : Nat, i + (b + 1) = s := ⟨_, rfl⟩
  rw [hs] at q1 hf
  obtain ⟨f, hfw⟩ : ∃ f, chFew left = f := ⟨_, rfl⟩
  have HFW := Lib.hid hfw
  have HF := Lib.hid hf
  have HS := Lib.hid hs
  have HX := Lib.hid hx
  have HV2 := Lib.hid hv2
  have HLG := Lib.hid hlog
  clear hf hs hx hv2 hlog hvv KL KR hfw
  rcases (show b = 1 ∨ b = 2 ∨ b = 3 ∨ b = 4 ∨ b = 5 ∨ b = 6 ∨ b = 7 ∨ b = 8 ∨ b = 9 by omega) with rfl | rfl | rfl | rfl | rfl | rfl | rfl | rfl | rfl
  · have hT : chT left = 2 := by unfold chT; rw [HLG.out]
    have hB : chB left = 2 := by unfold chB; rw [HLG.out]
    have hf0 : chFew left = f := HFW.out
    have hle : left + 1 < 4 := by have h := Nat.lt_log2_self (n := left + 1); rw [HLG.out] at h; simp only [Nat.reducePow, Nat.reduceAdd] at h; omega
    have hff : f = 4 - 1 - (left + 1) := by rw [← hf0]; unfold chFew; rw [hT]
    have hxx : v % 2 = x := HX.out
    have hv2 : v < 4 := HV2.out
    have hss : i + 2 = s := HS.out
    have hch : chanceF l i left = if x < f then ((x : Int) - 1, s - 1) else if 2 ≤ v then ((v : Int) - f - 1, s) else ((v : Int) - 1, s) := by
      unfold chanceF
      rw [hB, hT, hf0, HV.out, hxx, hss]
    have ef : wrap64 (3 - (li + 1)) = (f : Int) := by have := HL.out; unfold wrap64; omega
    have es : wrap64 ((s : Int) - 1) = ((s - 1 : Nat) : Int) := by unfold wrap64; omega
    have ew : wrap64 ((v : Int) - (f : Int)) = (v : Int) - (f : Int) := by unfold wrap64; omega
    have ew1 : wrap64 ((v : Int) - (f : Int) - 1) = (v : Int) - (f : Int) - 1 := by unfold wrap64; omega
    have ev : wrap64 ((v : Int) - 1) = (v : Int) - 1 := by unfold wrap64; omega
    have ex : wrap64 ((x : Int) - 1) = (x : Int) - 1 := by unfold wrap64; omega
    simp only [Nat.reducePow, Nat.reduceSub, Int.cast_ofNat_Int] at ea
    obtain ⟨s1, hs1⟩ : ∃ s1 : Nat, s - 1 = s1 := ⟨_, rfl⟩
    rw [hs1] at es hch
    have HCH := Lib.hid hch
    clear hT hB hf0 hle hff hxx hv2 hss hch hs1
    by_cases hc : x < f
    · have hci : (x : Int) < (f : Int) := by omega
      have HH := Lib.hid hc
      clear hc
      go_wp2_with fail
      go_ret
      rw [HCH.out, if_pos HH.out]
      exact ⟨congrArg (fun z => Ending.returned (Value.int .i64 z)) ex, HF.out.set_ s1 _ rfl⟩
    · have hci : (f : Int) ≤ (x : Int) := by omega
      have HH := Lib.hid hc
      clear hc
      by_cases hd : 2 ≤ v
      · have hdi : (1 : Int) < (v : Int) := by omega
        have HD := Lib.hid hd
        clear hd
        go_wp2_with fail
        go_ret
        rw [HCH.out, if_neg HH.out, if_pos HD.out]
        exact ⟨congrArg (fun z => Ending.returned (Value.int .i64 z)) ew1, HF.out⟩
      · have hdi : (v : Int) ≤ 1 := by omega
        have HD := Lib.hid hd
        clear hd
        go_wp2_with fail
        go_ret
        rw [HCH.out, if_neg HH.out, if_neg HD.out]
        exact ⟨by first | rfl | exact congrArg (fun z => Ending.returned (Value.int .i64 z)) ev, HF.out⟩
  · have hT : chT left = 4 := by unfold chT; rw [HLG.out]
    have hB : chB left = 3 := by unfold chB; rw [HLG.out]
    have hf0 : chFew left = f := HFW.out
    have hle : left + 1 < 8 := by have h := Nat.lt_log2_self (n := left + 1); rw [HLG.out] at h; simp only [Nat.reducePow, Nat.reduceAdd] at h; omega
    have hff : f = 8 - 1 - (left + 1) := by rw [← hf0]; unfold chFew; rw [hT]
    have hxx : v % 4 = x := HX.out
    have hv2 : v < 8 := HV2.out
    have hss : i + 3 = s := HS.out
    have hch : chanceF l i left = if x < f then ((x : Int) - 1, s - 1) else if 4 ≤ v then ((v : Int) - f - 1, s) else ((v : Int) - 1, s) := by
      unfold chanceF
      rw [hB, hT, hf0, HV.out, hxx, hss]
    have ef : wrap64 (7 - (li + 1)) = (f : Int) := by have := HL.out; unfold wrap64; omega
    have es : wrap64 ((s : Int) - 1) = ((s - 1 : Nat) : Int) := by unfold wrap64; omega
    have ew : wrap64 ((v : Int) - (f : Int)) = (v : Int) - (f : Int) := by unfold wrap64; omega
    have ew1 : wrap64 ((v : Int) - (f : Int) - 1) = (v : Int) - (f : Int) - 1 := by unfold wrap64; omega
    have ev : wrap64 ((v : Int) - 1) = (v : Int) - 1 := by unfold wrap64; omega
    have ex : wrap64 ((x : Int) - 1) = (x : Int) - 1 := by unfold wrap64; omega
    simp only [Nat.reducePow, Nat.reduceSub, Int.cast_ofNat_Int] at ea
    obtain ⟨s1, hs1⟩ : ∃ s1 : Nat, s - 1 = s1 := ⟨_, rfl⟩
    rw [hs1] at es hch
    have HCH := Lib.hid hch
    clear hT hB hf0 hle hff hxx hv2 hss hch hs1
    by_cases hc : x < f
    · have hci : (x : Int) < (f : Int) := by omega
      have HH := Lib.hid hc
      clear hc
      go_wp2_with fail
      go_ret
      rw [HCH.out, if_pos HH.out]
      exact ⟨congrArg (fun z => Ending.returned (Value.int .i64 z)) ex, HF.out.set_ s1 _ rfl⟩
    · have hci : (f : Int) ≤ (x : Int) := by omega
      have HH := Lib.hid hc
      clear hc
      by_cases hd : 4 ≤ v
      · have hdi : (3 : Int) < (v : Int) := by omega
        have HD := Lib.hid hd
        clear hd
        go_wp2_with fail
        go_ret
        rw [HCH.out, if_neg HH.out, if_pos HD.out]
        exact ⟨congrArg (fun z => Ending.returned (Value.int .i64 z)) ew1, HF.out⟩
      · have hdi : (v : Int) ≤ 3 := by omega
        have HD := Lib.hid hd
        clear hd
        go_wp2_with fail
        go_ret
        rw [HCH.out, if_neg HH.out, if_neg HD.out]
        exact ⟨by first | rfl | exact congrArg (fun z => Ending.returned (Value.int .i64 z)) ev, HF.out⟩
  · have hT : chT left = 8 := by unfold chT; rw [HLG.out]
    have hB : chB left = 4 := by unfold chB; rw [HLG.out]
    have hf0 : chFew left = f := HFW.out
    have hle : left + 1 < 16 := by have h := Nat.lt_log2_self (n := left + 1); rw [HLG.out] at h; simp only [Nat.reducePow, Nat.reduceAdd] at h; omega
    have hff : f = 16 - 1 - (left + 1) := by rw [← hf0]; unfold chFew; rw [hT]
    have hxx : v % 8 = x := HX.out
    have hv2 : v < 16 := HV2.out
    have hss : i + 4 = s := HS.out
    have hch : chanceF l i left = if x < f then ((x : Int) - 1, s - 1) else if 8 ≤ v then ((v : Int) - f - 1, s) else ((v : Int) - 1, s) := by
      unfold chanceF
      rw [hB, hT, hf0, HV.out, hxx, hss]
    have ef : wrap64 (15 - (li + 1)) = (f : Int) := by have := HL.out; unfold wrap64; omega
    have es : wrap64 ((s : Int) - 1) = ((s - 1 : Nat) : Int) := by unfold wrap64; omega
    have ew : wrap64 ((v : Int) - (f : Int)) = (v : Int) - (f : Int) := by unfold wrap64; omega
    have ew1 : wrap64 ((v : Int) - (f : Int) - 1) = (v : Int) - (f : Int) - 1 := by unfold wrap64; omega
    have ev : wrap64 ((v : Int) - 1) = (v : Int) - 1 := by unfold wrap64; omega
    have ex : wrap64 ((x : Int) - 1) = (x : Int) - 1 := by unfold wrap64; omega
    simp only [Nat.reducePow, Nat.reduceSub, Int.cast_ofNat_Int] at ea
    obtain ⟨s1, hs1⟩ : ∃ s1 : Nat, s - 1 = s1 := ⟨_, rfl⟩
    rw [hs1] at es hch
    have HCH := Lib.hid hch
    clear hT hB hf0 hle hff hxx hv2 hss hch hs1
    by_cases hc : x < f
    · have hci : (x : Int) < (f : Int) := by omega
      have HH := Lib.hid hc
      clear hc
      go_wp2_with fail
      go_ret
      rw [HCH.out, if_pos HH.out]
      exact ⟨congrArg (fun z => Ending.returned (Value.int .i64 z)) ex, HF.out.set_ s1 _ rfl⟩
    · have hci : (f : Int) ≤ (x : Int) := by omega
      have HH := Lib.hid hc
      clear hc
      by_cases hd : 8 ≤ v
      · have hdi : (7 : Int) < (v : Int) := by omega
        have HD := Lib.hid hd
        clear hd
        go_wp2_with fail
        go_ret
        rw [HCH.out, if_neg HH.out, if_pos HD.out]
        exact ⟨congrArg (fun z => Ending.returned (Value.int .i64 z)) ew1, HF.out⟩
      · have hdi : (v : Int) ≤ 7 := by omega
        have HD := Lib.hid hd
        clear hd
        go_wp2_with fail
        go_ret
        rw [HCH.out, if_neg HH.out, if_neg HD.out]
        exact ⟨by first | rfl | exact congrArg (fun z => Ending.returned (Value.int .i64 z)) ev, HF.out⟩
  · have hT : chT left = 16 := by unfold chT; rw [HLG.out]
    have hB : chB left = 5 := by unfold chB; rw [HLG.out]
    have hf0 : chFew left = f := HFW.out
    have hle : left + 1 < 32 := by have h := Nat.lt_log2_self (n := left + 1); rw [HLG.out] at h; simp only [Nat.reducePow, Nat.reduceAdd] at h; omega
    have hff : f = 32 - 1 - (left + 1) := by rw [← hf0]; unfold chFew; rw [hT]
    have hxx : v % 16 = x := HX.out
    have hv2 : v < 32 := HV2.out
    have hss : i + 5 = s := HS.out
    have hch : chanceF l i left = if x < f then ((x : Int) - 1, s - 1) else if 16 ≤ v then ((v : Int) - f - 1, s) else ((v : Int) - 1, s) := by
      unfold chanceF
      rw [hB, hT, hf0, HV.out, hxx, hss]
    have ef : wrap64 (31 - (li + 1)) = (f : Int) := by have := HL.out; unfold wrap64; omega
    have es : wrap64 ((s : Int) - 1) = ((s - 1 : Nat) : Int) := by unfold wrap64; omega
    have ew : wrap64 ((v : Int) - (f : Int)) = (v : Int) - (f : Int) := by unfold wrap64; omega
    have ew1 : wrap64 ((v : Int) - (f : Int) - 1) = (v : Int) - (f : Int) - 1 := by unfold wrap64; omega
    have ev : wrap64 ((v : Int) - 1) = (v : Int) - 1 := by unfold wrap64; omega
    have ex : wrap64 ((x : Int) - 1) = (x : Int) - 1 := by unfold wrap64; omega
    simp only [Nat.reducePow, Nat.reduceSub, Int.cast_ofNat_Int] at ea
    obtain ⟨s1, hs1⟩ : ∃ s1 : Nat, s - 1 = s1 := ⟨_, rfl⟩
    rw [hs1] at es hch
    have HCH := Lib.hid hch
    clear hT hB hf0 hle hff hxx hv2 hss hch hs1
    by_cases hc : x < f
    · have hci : (x : Int) < (f : Int) := by omega
      have HH := Lib.hid hc
      clear hc
      go_wp2_with fail
      go_ret
      rw [HCH.out, if_pos HH.out]
      exact ⟨congrArg (fun z => Ending.returned (Value.int .i64 z)) ex, HF.out.set_ s1 _ rfl⟩
    · have hci : (f : Int) ≤ (x : Int) := by omega
      have HH := Lib.hid hc
      clear hc
      by_cases hd : 16 ≤ v
      · have hdi : (15 : Int) < (v : Int) := by omega
        have HD := Lib.hid hd
        clear hd
        go_wp2_with fail
        go_ret
        rw [HCH.out, if_neg HH.out, if_pos HD.out]
        exact ⟨congrArg (fun z => Ending.returned (Value.int .i64 z)) ew1, HF.out⟩
      · have hdi : (v : Int) ≤ 15 := by omega
        have HD := Lib.hid hd
        clear hd
        go_wp2_with fail
        go_ret
        rw [HCH.out, if_neg HH.out, if_neg HD.out]
        exact ⟨by first | rfl | exact congrArg (fun z => Ending.returned (Value.int .i64 z)) ev, HF.out⟩
  · have hT : chT left = 32 := by unfold chT; rw [HLG.out]
    have hB : chB left = 6 := by unfold chB; rw [HLG.out]
    have hf0 : chFew left = f := HFW.out
    have hle : left + 1 < 64 := by have h := Nat.lt_log2_self (n := left + 1); rw [HLG.out] at h; simp only [Nat.reducePow, Nat.reduceAdd] at h; omega
    have hff : f = 64 - 1 - (left + 1) := by rw [← hf0]; unfold chFew; rw [hT]
    have hxx : v % 32 = x := HX.out
    have hv2 : v < 64 := HV2.out
    have hss : i + 6 = s := HS.out
    have hch : chanceF l i left = if x < f then ((x : Int) - 1, s - 1) else if 32 ≤ v then ((v : Int) - f - 1, s) else ((v : Int) - 1, s) := by
      unfold chanceF
      rw [hB, hT, hf0, HV.out, hxx, hss]
    have ef : wrap64 (63 - (li + 1)) = (f : Int) := by have := HL.out; unfold wrap64; omega
    have es : wrap64 ((s : Int) - 1) = ((s - 1 : Nat) : Int) := by unfold wrap64; omega
    have ew : wrap64 ((v : Int) - (f : Int)) = (v : Int) - (f : Int) := by unfold wrap64; omega
    have ew1 : wrap64 ((v : Int) - (f : Int) - 1) = (v : Int) - (f : Int) - 1 := by unfold wrap64; omega
    have ev : wrap64 ((v : Int) - 1) = (v : Int) - 1 := by unfold wrap64; omega
    have ex : wrap64 ((x : Int) - 1) = (x : Int) - 1 := by unfold wrap64; omega
    simp only [Nat.reducePow, Nat.reduceSub, Int.cast_ofNat_Int] at ea
    obtain ⟨s1, hs1⟩ : ∃ s1 : Nat, s - 1 = s1 := ⟨_, rfl⟩
    rw [hs1] at es hch
    have HCH := Lib.hid hch
    clear hT hB hf0 hle hff hxx hv2 hss hch hs1
    by_cases hc : x < f
    · have hci : (x : Int) < (f : Int) := by omega
      have HH := Lib.hid hc
      clear hc
      go_wp2_with fail
      go_ret
      rw [HCH.out, if_pos HH.out]
      exact ⟨congrArg (fun z => Ending.returned (Value.int .i64 z)) ex, HF.out.set_ s1 _ rfl⟩
    · have hci : (f : Int) ≤ (x : Int) := by omega
      have HH := Lib.hid hc
      clear hc
      by_cases hd : 32 ≤ v
      · have hdi : (31 : Int) < (v : Int) := by omega
        have HD := Lib.hid hd
        clear hd
        go_wp2_with fail
        go_ret
        rw [HCH.out, if_neg HH.out, if_pos HD.out]
        exact ⟨congrArg (fun z => Ending.returned (Value.int .i64 z)) ew1, HF.out⟩
      · have hdi : (v : Int) ≤ 31 := by omega
        have HD := Lib.hid hd
        clear hd
        go_wp2_with fail
        go_ret
        rw [HCH.out, if_neg HH.out, if_neg HD.out]
        exact ⟨by first | rfl | exact congrArg (fun z => Ending.returned (Value.int .i64 z)) ev, HF.out⟩
  · have hT : chT left = 64 := by unfold chT; rw [HLG.out]
    have hB : chB left = 7 := by unfold chB; rw [HLG.out]
    have hf0 : chFew left = f := HFW.out
    have hle : left + 1 < 128 := by have h := Nat.lt_log2_self (n := left + 1); rw [HLG.out] at h; simp only [Nat.reducePow, Nat.reduceAdd] at h; omega
    have hff : f = 128 - 1 - (left + 1) := by rw [← hf0]; unfold chFew; rw [hT]
    have hxx : v % 64 = x := HX.out
    have hv2 : v < 128 := HV2.out
    have hss : i + 7 = s := HS.out
    have hch : chanceF l i left = if x < f then ((x : Int) - 1, s - 1) else if 64 ≤ v then ((v : Int) - f - 1, s) else ((v : Int) - 1, s) := by
      unfold chanceF
      rw [hB, hT, hf0, HV.out, hxx, hss]
    have ef : wrap64 (127 - (li + 1)) = (f : Int) := by have := HL.out; unfold wrap64; omega
    have es : wrap64 ((s : Int) - 1) = ((s - 1 : Nat) : Int) := by unfold wrap64; omega
    have ew : wrap64 ((v : Int) - (f : Int)) = (v : Int) - (f : Int) := by unfold wrap64; omega
    have ew1 : wrap64 ((v : Int) - (f : Int) - 1) = (v : Int) - (f : Int) - 1 := by unfold wrap64; omega
    have ev : wrap64 ((v : Int) - 1) = (v : Int) - 1 := by unfold wrap64; omega
    have ex : wrap64 ((x : Int) - 1) = (x : Int) - 1 := by unfold wrap64; omega
    simp only [Nat.reducePow, Nat.reduceSub, Int.cast_ofNat_Int] at ea
    obtain ⟨s1, hs1⟩ : ∃ s1 : Nat, s - 1 = s1 := ⟨_, rfl⟩
    rw [hs1] at es hch
    have HCH := Lib.hid hch
    clear hT hB hf0 hle hff hxx hv2 hss hch hs1
    by_cases hc : x < f
    · have hci : (x : Int) < (f : Int) := by omega
      have HH := Lib.hid hc
      clear hc
      go_wp2_with fail
      go_ret
      rw [HCH.out, if_pos HH.out]
      exact ⟨congrArg (fun z => Ending.returned (Value.int .i64 z)) ex, HF.out.set_ s1 _ rfl⟩
    · have hci : (f : Int) ≤ (x : Int) := by omega
      have HH := Lib.hid hc
      clear hc
      by_cases hd : 64 ≤ v
      · have hdi : (63 : Int) < (v : Int) := by omega
        have HD := Lib.hid hd
        clear hd
        go_wp2_with fail
        go_ret
        rw [HCH.out, if_neg HH.out, if_pos HD.out]
        exact ⟨congrArg (fun z => Ending.returned (Value.int .i64 z)) ew1, HF.out⟩
      · have hdi : (v : Int) ≤ 63 := by omega
        have HD := Lib.hid hd
        clear hd
        go_wp2_with fail
        go_ret
        rw [HCH.out, if_neg HH.out, if_neg HD.out]
        exact ⟨by first | rfl | exact congrArg (fun z => Ending.returned (Value.int .i64 z)) ev, HF.out⟩
  · have hT : chT left = 128 := by unfold chT; rw [HLG.out]
    have hB : chB left = 8 := by unfold chB; rw [HLG.out]
    have hf0 : chFew left = f := HFW.out
    have hle : left + 1 < 256 := by have h := Nat.lt_log2_self (n := left + 1); rw [HLG.out] at h; simp only [Nat.reducePow, Nat.reduceAdd] at h; omega
    have hff : f = 256 - 1 - (left + 1) := by rw [← hf0]; unfold chFew; rw [hT]
    have hxx : v % 128 = x := HX.out
    have hv2 : v < 256 := HV2.out
    have hss : i + 8 = s := HS.out
    have hch : chanceF l i left = if x < f then ((x : Int) - 1, s - 1) else if 128 ≤ v then ((v : Int) - f - 1, s) else ((v : Int) - 1, s) := by
      unfold chanceF
      rw [hB, hT, hf0, HV.out, hxx, hss]
    have ef : wrap64 (255 - (li + 1)) = (f : Int) := by have := HL.out; unfold wrap64; omega
    have es : wrap64 ((s : Int) - 1) = ((s - 1 : Nat) : Int) := by unfold wrap64; omega
    have ew : wrap64 ((v : Int) - (f : Int)) = (v : Int) - (f : Int) := by unfold wrap64; omega
    have ew1 : wrap64 ((v : Int) - (f : Int) - 1) = (v : Int) - (f : Int) - 1 := by unfold wrap64; omega
    have ev : wrap64 ((v : Int) - 1) = (v : Int) - 1 := by unfold wrap64; omega
    have ex : wrap64 ((x : Int) - 1) = (x : Int) - 1 := by unfold wrap64; omega
    simp only [Nat.reducePow, Nat.reduceSub, Int.cast_ofNat_Int] at ea
    obtain ⟨s1, hs1⟩ : ∃ s1 : Nat, s - 1 = s1 := ⟨_, rfl⟩
    rw [hs1] at es hch
    have HCH := Lib.hid hch
    clear hT hB hf0 hle hff hxx hv2 hss hch hs1
    by_cases hc : x < f
    · have hci : (x : Int) < (f : Int) := by omega
      have HH := Lib.hid hc
      clear hc
      go_wp2_with fail
      go_ret
      rw [HCH.out, if_pos HH.out]
      exact ⟨congrArg (fun z => Ending.returned (Value.int .i64 z)) ex, HF.out.set_ s1 _ rfl⟩
    · have hci : (f : Int) ≤ (x : Int) := by omega
      have HH := Lib.hid hc
      clear hc
      by_cases hd : 128 ≤ v
      · have hdi : (127 : Int) < (v : Int) := by omega
        have HD := Lib.hid hd
        clear hd
        go_wp2_with fail
        go_ret
        rw [HCH.out, if_neg HH.out, if_pos HD.out]
        exact ⟨congrArg (fun z => Ending.returned (Value.int .i64 z)) ew1, HF.out⟩
      · have hdi : (v : Int) ≤ 127 := by omega
        have HD := Lib.hid hd
        clear hd
        go_wp2_with fail
        go_ret
        rw [HCH.out, if_neg HH.out, if_neg HD.out]
        exact ⟨by first | rfl | exact congrArg (fun z => Ending.returned (Value.int .i64 z)) ev, HF.out⟩
  · have hT : chT left = 256 := by unfold chT; rw [HLG.out]
    have hB : chB left = 9 := by unfold chB; rw [HLG.out]
    have hf0 : chFew left = f := HFW.out
    have hle : left + 1 < 512 := by have h := Nat.lt_log2_self (n := left + 1); rw [HLG.out] at h; simp only [Nat.reducePow, Nat.reduceAdd] at h; omega
    have hff : f = 512 - 1 - (left + 1) := by rw [← hf0]; unfold chFew; rw [hT]
    have hxx : v % 256 = x := HX.out
    have hv2 : v < 512 := HV2.out
    have hss : i + 9 = s := HS.out
    have hch : chanceF l i left = if x < f then ((x : Int) - 1, s - 1) else if 256 ≤ v then ((v : Int) - f - 1, s) else ((v : Int) - 1, s) := by
      unfold chanceF
      rw [hB, hT, hf0, HV.out, hxx, hss]
    have ef : wrap64 (511 - (li + 1)) = (f : Int) := by have := HL.out; unfold wrap64; omega
    have es : wrap64 ((s : Int) - 1) = ((s - 1 : Nat) : Int) := by unfold wrap64; omega
    have ew : wrap64 ((v : Int) - (f : Int)) = (v : Int) - (f : Int) := by unfold wrap64; omega
    have ew1 : wrap64 ((v : Int) - (f : Int) - 1) = (v : Int) - (f : Int) - 1 := by unfold wrap64; omega
    have ev : wrap64 ((v : Int) - 1) = (v : Int) - 1 := by unfold wrap64; omega
    have ex : wrap64 ((x : Int) - 1) = (x : Int) - 1 := by unfold wrap64; omega
    simp only [Nat.reducePow, Nat.reduceSub, Int.cast_ofNat_Int] at ea
    obtain ⟨s1, hs1⟩ : ∃ s1 : Nat, s - 1 = s1 := ⟨_, rfl⟩
    rw [hs1] at es hch
    have HCH := Lib.hid hch
    clear hT hB hf0 hle hff hxx hv2 hss hch hs1
    by_cases hc : x < f
    · have hci : (x : Int) < (f : Int) := by omega
      have HH := Lib.hid hc
      clear hc
      go_wp2_with fail
      go_ret
      rw [HCH.out, if_pos HH.out]
      exact ⟨congrArg (fun z => Ending.returned (Value.int .i64 z)) ex, HF.out.set_ s1 _ rfl⟩
    · have hci : (f : Int) ≤ (x : Int) := by omega
      have HH := Lib.hid hc
      clear hc
      by_cases hd : 256 ≤ v
      · have hdi : (255 : Int) < (v : Int) := by omega
        have HD := Lib.hid hd
        clear hd
        go_wp2_with fail
        go_ret
        rw [HCH.out, if_neg HH.out, if_pos HD.out]
        exact ⟨congrArg (fun z => Ending.returned (Value.int .i64 z)) ew1, HF.out⟩
      · have hdi : (v : Int) ≤ 255 := by omega
        have HD := Lib.hid hd
        clear hd
        go_wp2_with fail
        go_ret
        rw [HCH.out, if_neg HH.out, if_neg HD.out]
        exact ⟨by first | rfl | exact congrArg (fun z => Ending.returned (Value.int .i64 z)) ev, HF.out⟩
  · have hT : chT left = 512 := by unfold chT; rw [HLG.out]
    have hB : chB left = 10 := by unfold chB; rw [HLG.out]
    have hf0 : chFew left = f := HFW.out
    have hle : left + 1 < 1024 := by have h := Nat.lt_log2_self (n := left + 1); rw [HLG.out] at h; simp only [Nat.reducePow, Nat.reduceAdd] at h; omega
    have hff : f = 1024 - 1 - (left + 1) := by rw [← hf0]; unfold chFew; rw [hT]
    have hxx : v % 512 = x := HX.out
    have hv2 : v < 1024 := HV2.out
    have hss : i + 10 = s := HS.out
    have hch : chanceF l i left = if x < f then ((x : Int) - 1, s - 1) else if 512 ≤ v then ((v : Int) - f - 1, s) else ((v : Int) - 1, s) := by
      unfold chanceF
      rw [hB, hT, hf0, HV.out, hxx, hss]
    have ef : wrap64 (1023 - (li + 1)) = (f : Int) := by have := HL.out; unfold wrap64; omega
    have es : wrap64 ((s : Int) - 1) = ((s - 1 : Nat) : Int) := by unfold wrap64; omega
    have ew : wrap64 ((v : Int) - (f : Int)) = (v : Int) - (f : Int) := by unfold wrap64; omega
    have ew1 : wrap64 ((v : Int) - (f : Int) - 1) = (v : Int) - (f : Int) - 1 := by unfold wrap64; omega
    have ev : wrap64 ((v : Int) - 1) = (v : Int) - 1 := by unfold wrap64; omega
    have ex : wrap64 ((x : Int) - 1) = (x : Int) - 1 := by unfold wrap64; omega
    simp only [Nat.reducePow, Nat.reduceSub, Int.cast_ofNat_Int] at ea
    obtain ⟨s1, hs1⟩ : ∃ s1 : Nat, s - 1 = s1 := ⟨_, rfl⟩
    rw [hs1] at es hch
    have HCH := Lib.hid hch
    clear hT hB hf0 hle hff hxx hv2 hss hch hs1
    by_cases hc : x < f
    · have hci : (x : Int) < (f : Int) := by omega
      have HH := Lib.hid hc
      clear hc
      go_wp2_with fail
      go_ret
      rw [HCH.out, if_pos HH.out]
      exact ⟨congrArg (fun z => Ending.returned (Value.int .i64 z)) ex, HF.out.set_ s1 _ rfl⟩
    · have hci : (f : Int) ≤ (x : Int) := by omega
      have HH := Lib.hid hc
      clear hc
      by_cases hd : 512 ≤ v
      · have hdi : (511 : Int) < (v : Int) := by omega
        have HD := Lib.hid hd
        clear hd
        go_wp2_with fail
        go_ret
        rw [HCH.out, if_neg HH.out, if_pos HD.out]
        exact ⟨congrArg (fun z => Ending.returned (Value.int .i64 z)) ew1, HF.out⟩
      · have hdi : (v : Int) ≤ 511 := by omega
        have HD := Lib.hid hd
        clear hd
        go_wp2_with fail
        go_ret
        rw [HCH.out, if_neg HH.out, if_neg HD.out]
        exact ⟨by first | rfl | exact congrArg (fun z => Ending.returned (Value.int .i64 z)) ev, HF.out⟩
end Go.Proofs.YthkklojjpgjiiaaFmt
