/-
  The table of chances, plain: where the symbols lie, how often, and what a state asks for. Conditions: those of each.
-/
import Derived.Test.YthkklojjpgjiiaaFmtCodeT10
namespace Go.Proofs.YthkklojjpgjiiaaFmt

def stepOf (S : Nat) : Nat := S / 2 + S / 8 + 3
def nxF (S high : Nat) : Nat → Nat → Nat
  | 0, a => a
  | m + 1, a => if (a + stepOf S) % S < high then (a + stepOf S) % S else nxF S high m ((a + stepOf S) % S)
/-- the place behind a place -/
def nextAt (S high a : Nat) : Nat := nxF S high S a
/-- the place of the T-th symbol -/
def orb (S high : Nat) : Nat → Nat
  | 0 => 0
  | t + 1 => nextAt S high (orb S high t)
def orbL (S high : Nat) : Nat → Nat → List Nat
  | 0, _ => []
  | n + 1, a => a :: orbL S high n (nextAt S high a)
theorem orbL_get (S high : Nat) : ∀ (n t j : Nat), j < n → (orbL S high n (orb S high t))[j]? = some (orb S high (t + j))
  | 0, _, _, h => by omega
  | n + 1, t, 0, _ => rfl
  | n + 1, t, j + 1, h => by
    rw [show t + (j + 1) = t + 1 + j by omega]
    exact orbL_get S high n (t + 1) j (by omega)
theorem orbL_length (S high : Nat) : ∀ (n a : Nat), (orbL S high n a).length = n
  | 0, _ => rfl
  | n + 1, a => by simp [orbL, orbL_length S high n]
def chk (S high : Nat) : Bool :=
  let L := orbL S high (high + 1) 0
  L.getD high 1 == 0 && (L.take high).all (· < high) && (List.range high).all fun i => (L.take high).contains i
theorem chk32 : (List.range 33).all (fun h => h == 0 || chk 32 h) = true := by decide +kernel
theorem chk64 : (List.range 65).all (fun h => h == 0 || chk 64 h) = true := by decide +kernel
theorem chk_all (S high : Nat) (hS : S = 32 ∨ S = 64) (h0 : 0 < high) (h : high ≤ S) : chk S high = true := by
  rcases hS with rfl | rfl
  · have := List.all_eq_true.1 chk32 high (List.mem_range.2 (by omega))
    simpa [show (high == 0) = false by simp; omega] using this
  · have := List.all_eq_true.1 chk64 high (List.mem_range.2 (by omega))
    simpa [show (high == 0) = false by simp; omega] using this
section
variable (S high : Nat) (hS : S = 32 ∨ S = 64) (h0 : 0 < high) (h : high ≤ S)
include hS h0 h
theorem orb_end : orb S high high = 0 := by
  have hc := chk_all S high hS h0 h
  simp only [chk, Bool.and_eq_true] at hc
  have h1 := hc.1.1
  rw [List.getD_eq_getElem?_getD, show (0 : Nat) = orb S high 0 from rfl, orbL_get S high (high + 1) 0 high (by omega)] at h1
  exact show orb S high high = orb S high 0 by simpa using h1
theorem orb_lt (t : Nat) (ht : t < high) : orb S high t < high := by
  have hc := chk_all S high hS h0 h
  simp only [chk, Bool.and_eq_true] at hc
  have h1 := List.all_eq_true.1 hc.1.2 (orb S high t) (by
    rw [List.mem_iff_getElem?]
    refine ⟨t, ?_⟩
    rw [List.getElem?_take_of_lt ht]
    have := orbL_get S high (high + 1) 0 t (by omega)
    rwa [Nat.zero_add] at this)
  simpa using h1
theorem orb_hit (i : Nat) (hi : i < high) : ∃ t, t < high ∧ orb S high t = i := by
  have hc := chk_all S high hS h0 h
  simp only [chk, Bool.and_eq_true] at hc
  have h1 := List.all_eq_true.1 hc.2 i (List.mem_range.2 hi)
  rw [List.contains_iff_mem] at h1
  obtain ⟨t, ht⟩ := List.mem_iff_getElem?.1 h1
  have htl : t < high := by
    have := (List.getElem?_eq_some_iff.1 ht).1
    simp [orbL_length] at this
    omega
  refine ⟨t, htl, ?_⟩
  rw [List.getElem?_take_of_lt htl] at ht
  have h2 := orbL_get S high (high + 1) 0 t (by omega)
  rw [Nat.zero_add] at h2
  rw [show orb S high 0 = 0 from rfl] at h2
  rw [ht] at h2
  injection h2 with h2
  exact h2.symm
theorem orb_le (t : Nat) (ht : t ≤ high) : orb S high t < high := by
  rcases Nat.lt_or_eq_of_le ht with h1 | h1
  · exact orb_lt S high hS h0 h t h1
  · rw [h1, orb_end S high hS h0 h]; exact h0
end

def upd (f : Nat → Nat) (p v : Nat) : Nat → Nat := fun x => if x = p then v else f x
/-- the places of the symbols with less than one part: how many places are left, and what lies where (1000: nothing yet) -/
def lowK (cs : List Int) (S : Nat) : Nat → Nat × (Nat → Nat)
  | 0 => (S, fun _ => 1000)
  | k + 1 => if cs.getD k 0 < 0 then ((lowK cs S k).1 - 1, upd (lowK cs S k).2 ((lowK cs S k).1 - 1) k) else lowK cs S k
def highF (cs : List Int) (S : Nat) : Nat := (lowK cs S cs.length).1
/-- each symbol as often as it has parts -/
def flatK (cs : List Int) : Nat → List Nat
  | 0 => []
  | k + 1 => flatK cs k ++ List.replicate (cs.getD k 0).toNat k
def preK (cs : List Int) (k : Nat) : Nat := (flatK cs k).length
def flatF (cs : List Int) : List Nat := flatK cs cs.length
def layT (cs : List Int) (S : Nat) : Nat → (Nat → Nat)
  | 0 => (lowK cs S cs.length).2
  | T + 1 => upd (layT cs S T) (orb S (highF cs S) T) ((flatF cs).getD T 0)
def symF (cs : List Int) (S : Nat) : Nat → Nat := layT cs S (flatF cs).length
def nxt (cs : List Int) (s : Nat) : Nat := if cs.getD s 0 < 0 then 1 else (cs.getD s 0).toNat
def cnt (f : Nat → Nat) (n s : Nat) : Nat := (List.range n).countP fun j => f j == s
def ownF (cs : List Int) (S i : Nat) : Nat := nxt cs (symF cs S i) + cnt (symF cs S) i (symF cs S i)
def bitsF (cs : List Int) (lg i : Nat) : Nat := lg - (ownF cs (2 ^ lg) i).log2
def baseF (cs : List Int) (lg i : Nat) : Nat := ownF cs (2 ^ lg) i * 2 ^ bitsF cs lg i - 2 ^ lg
def LoopsF (cs : List Int) (lg : Nat) : Prop := ∃ i, i < 2 ^ lg ∧ bitsF cs lg i = 0 ∧ baseF cs lg i = i

/-- parts of the first k symbols with less than one part -/
def negK (cs : List Int) : Nat → Nat
  | 0 => 0
  | k + 1 => negK cs k + (if cs.getD k 0 < 0 then 1 else 0)
theorem negK_succ (cs : List Int) (k : Nat) : negK cs (k + 1) = negK cs k + (if cs.getD k 0 < 0 then 1 else 0) := rfl
theorem lowK_fst (cs : List Int) (S : Nat) : ∀ k, (lowK cs S k).1 = S - negK cs k
  | 0 => rfl
  | k + 1 => by
    have ih := lowK_fst cs S k
    unfold lowK negK
    split
    · show (lowK cs S k).1 - 1 = _
      rw [ih]; omega
    · rw [ih]; rfl
theorem preK_succ (cs : List Int) (k : Nat) : preK cs (k + 1) = preK cs k + (cs.getD k 0).toNat := by simp [preK, flatK]
theorem parts_take (cs : List Int) (hl : Least cs) : ∀ k, k ≤ cs.length → negK cs k + preK cs k = sumA (cs.take k)
  | 0, _ => rfl
  | k + 1, h => by
    have ih := parts_take cs hl k (by omega)
    have hk : k < cs.length := by omega
    have hg : cs.getD k 0 = cs[k] := by rw [List.getD_eq_getElem?_getD, List.getElem?_eq_getElem hk, Option.getD_some]
    have hm := hl cs[k] (List.getElem_mem hk)
    rw [List.take_succ_eq_append_getElem hk, sumA_append, sumA_one, preK_succ, ← ih, negK_succ, hg]
    split <;> omega
theorem parts_all (cs : List Int) (S : Nat) (hl : Least cs) (hs : sumA cs = S) : negK cs cs.length + (flatF cs).length = S := by
  have := parts_take cs hl cs.length (Nat.le_refl _)
  rw [List.take_length, hs] at this
  exact this
theorem high_eq (cs : List Int) (S : Nat) (hl : Least cs) (hs : sumA cs = S) : highF cs S = (flatF cs).length := by
  have := parts_all cs S hl hs
  unfold highF
  rw [lowK_fst]
  omega
theorem negK_le (cs : List Int) : ∀ k m, k ≤ m → negK cs k ≤ negK cs m := by
  intro k m h
  induction h with
  | refl => exact Nat.le_refl _
  | step _ ih => exact Nat.le_trans ih (by rw [negK_succ]; omega)
theorem preK_le (cs : List Int) : ∀ k m, k ≤ m → preK cs k ≤ preK cs m := by
  intro k m h
  induction h with
  | refl => exact Nat.le_refl _
  | @step m _ ih => exact Nat.le_trans ih (by rw [preK_succ]; omega)
/-- while a symbol with less than one part is still to come, a place is left -/
theorem low_pos (cs : List Int) (S k : Nat) (hl : Least cs) (hs : sumA cs = S) (hk : k < cs.length) (hc : cs.getD k 0 < 0) : 0 < (lowK cs S k).1 ∧ (lowK cs S k).1 ≤ S := by
  have h1 := negK_le cs (k + 1) cs.length (by omega)
  have h2 := parts_all cs S hl hs
  rw [lowK_fst]
  rw [negK_succ, if_pos hc] at h1
  omega
theorem flat_get (cs : List Int) (k j : Nat) (hk : k < cs.length) (hj : j < (cs.getD k 0).toNat) : (flatF cs).getD (preK cs k + j) 0 = k ∧ preK cs k + j < (flatF cs).length := by
  have h : ∀ m, k + 1 ≤ m → (flatK cs m)[preK cs k + j]? = some k := by
    intro m hm
    induction hm with
    | refl =>
      show (flatK cs k ++ List.replicate (cs.getD k 0).toNat k)[(flatK cs k).length + j]? = some k
      rw [List.getElem?_append_right (by omega), Nat.add_sub_cancel_left, List.getElem?_replicate, if_pos hj]
    | @step m hm ih =>
      show (flatK cs m ++ _)[_]? = _
      rw [List.getElem?_append_left (List.getElem?_eq_some_iff.1 ih).1, ih]
  have h2 := h cs.length (by omega)
  refine ⟨?_, (List.getElem?_eq_some_iff.1 h2).1⟩
  unfold flatF
  rw [List.getD_eq_getElem?_getD, h2, Option.getD_some]
theorem flat_mem (cs : List Int) : ∀ m, ∀ s ∈ flatK cs m, s < m ∧ 0 < cs.getD s 0
  | 0, s, h => by simp [flatK] at h
  | m + 1, s, h => by
    rcases List.mem_append.1 h with h1 | h1
    · have := flat_mem cs m s h1
      exact ⟨by omega, this.2⟩
    · obtain ⟨h2, h3⟩ := List.mem_replicate.1 h1
      subst h3
      exact ⟨by omega, by omega⟩
theorem cnt_upd (f : Nat → Nat) (p v n s : Nat) : cnt (upd f p v) n s ≤ cnt f n s + (if v = s then 1 else 0) := by
  induction n with
  | zero => simp [cnt]
  | succ n ih =>
    unfold cnt at *
    rw [List.range_succ, List.countP_append, List.countP_append, List.countP_singleton, List.countP_singleton]
    by_cases hp : n = p
    · subst hp
      have he : (List.range n).countP (fun j => upd f n v j == s) = (List.range n).countP (fun j => f j == s) := by
        refine List.countP_congr fun j hj => ?_
        have := List.mem_range.1 hj
        unfold upd
        rw [if_neg (by omega)]
      rw [he]
      have : upd f n v n = v := by simp [upd]
      rw [this]
      by_cases hv : v = s <;> simp [hv] <;> omega
    · have : upd f p v n = f n := by simp [upd, hp]
      rw [this]
      omega
theorem cnt_low (cs : List Int) (S s : Nat) (hs : s < 1000) : ∀ k n, cnt (lowK cs S k).2 n s ≤ if s < k ∧ cs.getD s 0 < 0 then 1 else 0
  | 0, n => by
    have : cnt (lowK cs S 0).2 n s = 0 := by
      unfold cnt
      rw [List.countP_eq_zero]
      intro j _
      simp [lowK]; omega
    omega
  | k + 1, n => by
    have ih := cnt_low cs S s hs k n
    unfold lowK
    split
    · rename_i hc
      have := cnt_upd (lowK cs S k).2 ((lowK cs S k).1 - 1) k n s
      show cnt (upd (lowK cs S k).2 ((lowK cs S k).1 - 1) k) n s ≤ _
      by_cases hk : k = s
      · subst hk
        rw [if_neg (by omega)] at ih
        rw [if_pos rfl] at this
        rw [if_pos ⟨by omega, hc⟩]
        omega
      · rw [if_neg hk] at this
        refine Nat.le_trans this (Nat.le_trans (by simpa using ih) ?_)
        split
        · rename_i h; rw [if_pos ⟨by omega, h.2⟩]; exact Nat.le_refl _
        · exact Nat.zero_le _
    · refine Nat.le_trans ih ?_
      split
      · rename_i h; rw [if_pos ⟨by omega, h.2⟩]; exact Nat.le_refl _
      · exact Nat.zero_le _
theorem cnt_lay (cs : List Int) (S s : Nat) (hs : s < 1000) (n : Nat) : ∀ T, T ≤ (flatF cs).length → cnt (layT cs S T) n s ≤ (if s < cs.length ∧ cs.getD s 0 < 0 then 1 else 0) + ((flatF cs).take T).count s
  | 0, _ => by simpa [layT] using cnt_low cs S s hs cs.length n
  | T + 1, h => by
    have ih := cnt_lay cs S s hs n T (by omega)
    have := cnt_upd (layT cs S T) (orb S (highF cs S) T) ((flatF cs).getD T 0) n s
    unfold layT
    rw [List.take_succ_eq_append_getElem (by omega), List.count_append, List.count_singleton]
    have hg : (flatF cs).getD T 0 = (flatF cs)[T]'(by omega) := by rw [List.getD_eq_getElem?_getD, List.getElem?_eq_getElem (by omega), Option.getD_some]
    rw [hg] at this
    have hb : (if ((flatF cs)[T]'(by omega) == s) = true then 1 else 0) = (if (flatF cs)[T]'(by omega) = s then 1 else 0) := by simp
    rw [hb]
    rw [← hg] at this ⊢
    omega
theorem flat_count (cs : List Int) (s : Nat) : ∀ m, (flatK cs m).count s = if s < m then (cs.getD s 0).toNat else 0
  | 0 => by simp [flatK]
  | m + 1 => by
    unfold flatK
    rw [List.count_append, flat_count cs s m, List.count_replicate]
    by_cases h : m = s
    · subst h; simp
    · have hb : (m == s) = false := by simpa using h
      rw [hb]
      by_cases h2 : s < m
      · rw [if_pos h2, if_pos (show s < m + 1 by omega)]; simp
      · rw [if_neg h2, if_neg (show ¬ s < m + 1 by omega)]; simp
theorem low_mem (cs : List Int) (S : Nat) : ∀ k i, (lowK cs S k).1 ≤ i → i < S → negK cs k ≤ S → (lowK cs S k).2 i < k ∧ cs.getD ((lowK cs S k).2 i) 0 < 0
  | 0, i, h, h2, _ => by exact absurd h2 (Nat.not_lt.2 h)
  | k + 1, i, h, h2, h3 => by
    have h4 := lowK_fst cs S k
    unfold lowK at h ⊢
    rw [negK_succ] at h3
    split
    · rename_i hc
      rw [if_pos hc] at h h3
      have h' : (lowK cs S k).1 - 1 ≤ i := h
      show upd (lowK cs S k).2 ((lowK cs S k).1 - 1) k i < k + 1 ∧ cs.getD (upd (lowK cs S k).2 ((lowK cs S k).1 - 1) k i) 0 < 0
      unfold upd
      by_cases he : i = (lowK cs S k).1 - 1
      · rw [if_pos he]; exact ⟨by omega, hc⟩
      · rw [if_neg he]
        have := low_mem cs S k i (by omega) h2 (by omega)
        exact ⟨by omega, this.2⟩
    · rename_i hc
      rw [if_neg hc] at h h3
      have := low_mem cs S k i h h2 (by omega)
      exact ⟨by omega, this.2⟩

theorem high_le (cs : List Int) (S : Nat) : highF cs S ≤ S := by unfold highF; rw [lowK_fst]; omega
theorem lay_high (cs : List Int) (S : Nat) (hS : S = 32 ∨ S = 64) (i : Nat) (hi : highF cs S ≤ i) : ∀ T, T ≤ highF cs S → layT cs S T i = (lowK cs S cs.length).2 i
  | 0, _ => rfl
  | T + 1, hT => by
    have ih := lay_high cs S hS i hi T (by omega)
    have hlt := orb_lt S (highF cs S) hS (by omega) (high_le cs S) T (by omega)
    unfold layT upd
    rw [if_neg (by omega), ih]
theorem lay_low (cs : List Int) (S : Nat) (i : Nat) : ∀ T, (∃ t, t < T ∧ orb S (highF cs S) t = i) → T ≤ (flatF cs).length → layT cs S T i ∈ flatF cs
  | 0, h, _ => by obtain ⟨t, h, _⟩ := h; omega
  | T + 1, h, hT => by
    unfold layT upd
    by_cases he : i = orb S (highF cs S) T
    · rw [if_pos he, List.getD_eq_getElem?_getD, List.getElem?_eq_getElem (by omega), Option.getD_some]
      exact List.getElem_mem _
    · rw [if_neg he]
      obtain ⟨t, ht, hte⟩ := h
      refine lay_low cs S i T ⟨t, ?_, hte⟩ (by omega)
      rcases Nat.lt_or_eq_of_le (Nat.le_of_lt_succ ht) with h1 | h1
      · exact h1
      · subst h1; exact absurd hte.symm he
/-- each state has a symbol with a chance -/
theorem sym_ok (cs : List Int) (S : Nat) (hl : Least cs) (hs : sumA cs = S) (hS : S = 32 ∨ S = 64) (i : Nat) (hi : i < S) : symF cs S i < cs.length ∧ cs.getD (symF cs S i) 0 ≠ 0 := by
  have hh := high_eq cs S hl hs
  rcases Nat.lt_or_ge i (highF cs S) with h1 | h1
  · have h2 := orb_hit S (highF cs S) hS (by omega) (high_le cs S) i h1
    rw [hh] at h2
    have h3 := lay_low cs S i (flatF cs).length (by rw [hh]; exact h2) (Nat.le_refl _)
    have h4 := flat_mem cs cs.length _ h3
    exact ⟨h4.1, by unfold symF; have := h4.2; omega⟩
  · have h2 := lay_high cs S hS i h1 (flatF cs).length (by rw [hh]; exact Nat.le_refl _)
    unfold symF
    rw [h2]
    have := low_mem cs S cs.length i h1 hi (by have := parts_all cs S hl hs; omega)
    exact ⟨this.1, by omega⟩
theorem sym_cnt (cs : List Int) (S : Nat) (hlen : cs.length ≤ 256) (s n : Nat) (h : s < cs.length) : cnt (symF cs S) n s ≤ (cs.getD s 0).natAbs := by
  have h1 := cnt_lay cs S s (by omega) n (flatF cs).length (Nat.le_refl _)
  rw [List.take_length] at h1
  have h2 : (flatF cs).count s = (cs.getD s 0).toNat := by unfold flatF; rw [flat_count, if_pos h]
  rw [h2] at h1
  unfold symF
  split at h1 <;> omega
theorem nxt_eq (cs : List Int) (hl : Least cs) (s : Nat) (h : s < cs.length) : nxt cs s = (cs.getD s 0).natAbs := by
  have hg : cs.getD s 0 = cs[s] := by rw [List.getD_eq_getElem?_getD, List.getElem?_eq_getElem h, Option.getD_some]
  have := hl cs[s] (List.getElem_mem h)
  unfold nxt
  rw [hg]
  split <;> omega
theorem abs_le (cs : List Int) (S : Nat) (hs : sumA cs = S) (s : Nat) (h : s < cs.length) : (cs.getD s 0).natAbs ≤ S := by
  have hg : cs.getD s 0 = cs[s] := by rw [List.getD_eq_getElem?_getD, List.getElem?_eq_getElem h, Option.getD_some]
  have h1 : sumA (cs.take (s + 1)) ≤ sumA cs := by
    have := sumA_append (cs.take (s + 1)) (cs.drop (s + 1))
    rw [List.take_append_drop] at this
    omega
  rw [List.take_succ_eq_append_getElem h, sumA_append, sumA_one] at h1
  rw [hg]
  omega
theorem own_facts (cs : List Int) (S : Nat) (hl : Least cs) (hs : sumA cs = S) (hS : S = 32 ∨ S = 64) (hlen : cs.length ≤ 256) (i : Nat) (hi : i < S) : 1 ≤ ownF cs S i ∧ ownF cs S i < 2 * (cs.getD (symF cs S i) 0).natAbs ∧ ownF cs S i < 2 * S := by
  have h1 := sym_ok cs S hl hs hS i hi
  have h2 := sym_cnt cs S hlen (symF cs S i) (i + 1) h1.1
  have h3 := nxt_eq cs hl (symF cs S i) h1.1
  have h4 := abs_le cs S hs (symF cs S i) h1.1
  have h5 : cnt (symF cs S) (i + 1) (symF cs S i) = cnt (symF cs S) i (symF cs S i) + 1 := by
    unfold cnt
    rw [List.range_succ, List.countP_append, List.countP_singleton]
    simp
  unfold ownF
  omega
theorem cnt_le (f : Nat → Nat) (n s : Nat) : cnt f n s ≤ n := by
  unfold cnt
  have := List.countP_le_length (p := fun j => f j == s) (l := List.range n)
  rwa [List.length_range] at this
theorem cnt_succ (f : Nat → Nat) (n s : Nat) : cnt f (n + 1) s = cnt f n s + (if f n = s then 1 else 0) := by
  unfold cnt
  rw [List.range_succ, List.countP_append, List.countP_singleton]
  by_cases h : f n = s <;> simp [h]
end Go.Proofs.YthkklojjpgjiiaaFmt
