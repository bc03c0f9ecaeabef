/-
  spec.zTableOf: the table of chances. Conditions: those of the theorem.
-/
import Derived.Test.YthkklojjpgjiiaaFmtCodeT13
namespace Go.Proofs.YthkklojjpgjiiaaFmt
open Go.RowKit

def stV (a b c : Nat → Nat) : Nat → Value := fun k => if k % 3 = 0 then .int .i64 (a (k / 3) : Nat) else if k % 3 = 1 then .int .i64 (b (k / 3) : Nat) else .int .i64 (c (k / 3) : Nat)
def TabPost (w : World) (cs : List Int) (lg : Nat) (e : Ending) (w' : World) : Prop :=
  ∃ T, w.heap.size ≤ T ∧ e = .returned (.agg #[.int .i64 (lg : Nat), .slice (some ⟨T, 0, none⟩) (2 ^ lg) (2 ^ lg)]) ∧
    RowF w' T 135 (3 * 2 ^ lg) (stV (symF cs (2 ^ lg)) (bitsF cs lg) (baseF cs lg)) ∧ Below w.heap.size w w'
theorem info_state : (Tryf.prog.info? 135).map (fun i => (i.zero, i.size, i.bytes)) = some (some (.agg #[.int .i64 0, .int .i64 0, .int .i64 0]), 3, 24) := by kernel_rfl
/-- what a cell holds while nothing is laid -/
def cv (x : Nat) : Nat := if x = 1000 then 0 else x
def zf : Nat → Nat := fun _ => 0
theorem stV_a (a b c : Nat → Nat) (p v N : Nat) : ∀ k, k < N → updV (stV a b c) (p * 3) (.int .i64 (v : Nat)) k = stV (upd a p v) b c k := by
  intro k _
  unfold updV stV upd
  by_cases h : k = p * 3
  · subst h
    rw [if_pos rfl, if_pos (by omega), if_pos (by omega)]
  · rw [if_neg h]
    by_cases h0 : k % 3 = 0
    · rw [if_pos h0, if_pos h0, if_neg (by omega)]
    · rw [if_neg h0, if_neg h0]
theorem stV_b (a b c : Nat → Nat) (p v N : Nat) : ∀ k, k < N → updV (stV a b c) (p * 3 + 1) (.int .i64 (v : Nat)) k = stV a (upd b p v) c k := by
  intro k _
  unfold updV stV upd
  by_cases h : k = p * 3 + 1
  · subst h
    rw [if_pos rfl, if_neg (by omega), if_pos (by omega), if_pos (by omega)]
  · rw [if_neg h]
    by_cases h0 : k % 3 = 0
    · rw [if_pos h0, if_pos h0]
    · rw [if_neg h0, if_neg h0]
      by_cases h1 : k % 3 = 1
      · rw [if_pos h1, if_pos h1, if_neg (by omega)]
      · rw [if_neg h1, if_neg h1]
theorem stV_c (a b c : Nat → Nat) (p v N : Nat) : ∀ k, k < N → updV (stV a b c) (p * 3 + 2) (.int .i64 (v : Nat)) k = stV a b (upd c p v) k := by
  intro k _
  unfold updV stV upd
  by_cases h : k = p * 3 + 2
  · subst h
    rw [if_pos rfl, if_neg (by omega), if_neg (by omega), if_pos (by omega)]
  · rw [if_neg h]
    by_cases h0 : k % 3 = 0
    · rw [if_pos h0, if_pos h0]
    · rw [if_neg h0, if_neg h0]
      by_cases h1 : k % 3 = 1
      · rw [if_pos h1, if_pos h1]
      · rw [if_neg h1, if_neg h1, if_neg (by omega)]
/-- the blocks of the table in the making: states, next numbers, the two variables -/
def TabW (w : World) (lg S m : Nat) (a b c : Nat → Nat) (nx : Nat → Value) (wr : World) : Prop :=
  RowF wr (w.heap.size + 1) 135 (3 * S) (stV a b c) ∧ RowF wr (w.heap.size + 1 + 1 + 1) 3 m nx ∧
  wr.heap[w.heap.size + 1 + 1]? = some (.cells #[.int .i64 (lg : Nat), .slice (some ⟨w.heap.size + 1, 0, none⟩) S S] 127 (0, 0)) ∧
  wr.heap[w.heap.size]? = some (.cells #[.int .i64 0, .slice none 0 0] 127 (0, 0)) ∧ Below w.heap.size w wr
/-- the next numbers while they are laid -/
def nxV (cs : List Int) (k : Nat) : Nat → Value := fun j => .int .i64 (if j < k then (nxt cs j : Int) else 0)
def Rel1 (w : World) (lg S m : Nat) (cs : List Int) (hv iv : Value) (wr : World) : Prop :=
  ∃ k h : Nat, k ≤ m ∧ hv = .int .i64 (h : Nat) ∧ iv = .int .i64 (k : Nat) ∧ (lowK cs S k).1 = h ∧ TabW w lg S m (fun i => cv ((lowK cs S k).2 i)) zf zf (nxV cs k) wr
theorem TabW_start (w : World) (lg S m : Nat) (cs : List Int) :
    TabW w lg S m (fun i => cv ((lowK cs S 0).2 i)) zf zf (nxV cs 0) (((((w.alloc (Obj.cells #[.int .i64 0, .slice none 0 0] 127)).alloc (.cells (madeCells #[.int .i64 0, .int .i64 0, .int .i64 0] (S * 3)) 135)).alloc
      (.cells #[.int .i64 (lg : Nat), .slice (some ⟨w.heap.size + 1, 0, none⟩) S S] 127)).alloc (.cells (madeCells #[.int .i64 0] m) 3)).drew) := by
  obtain ⟨w1, h1⟩ : ∃ x, w.alloc (Obj.cells #[.int .i64 0, .slice none 0 0] 127) = x := ⟨_, rfl⟩
  have s1 : w1.heap.size = w.heap.size + 1 := by rw [← h1]; simp
  have n1 : w1.heap[w.heap.size]? = some (.cells #[.int .i64 0, .slice none 0 0] 127 (0, 0)) := by rw [← h1]; exact heap_alloc_new _ _
  have b1 : Below w.heap.size w w1 := by rw [← h1]; exact below_new _ _
  rw [h1]
  obtain ⟨w2, h2⟩ : ∃ x, w1.alloc (.cells (madeCells #[.int .i64 0, .int .i64 0, .int .i64 0] (S * 3)) 135) = x := ⟨_, rfl⟩
  have s2 : w2.heap.size = w.heap.size + 1 + 1 := by rw [← h2]; simp [s1]
  have b2 : Below w1.heap.size w1 w2 := by rw [← h2]; exact below_new _ _
  have r2 : RowF w2 (w.heap.size + 1) 135 (3 * S) (stV (fun i => cv ((lowK cs S 0).2 i)) zf zf) := by
    have h := RowF.new w1 (madeCells #[.int .i64 0, .int .i64 0, .int .i64 0] (S * 3)) 135 (fun _ => .int .i64 0) (fun k hk => by
      rw [size_madeCells] at hk
      rw [madeCells_get _ _ k hk]
      have : k % 3 < 3 := Nat.mod_lt _ (by omega)
      rcases (show k % 3 = 0 ∨ k % 3 = 1 ∨ k % 3 = 2 by omega) with e | e | e <;> simp [e])
    rw [h2, s1, size_madeCells] at h
    rw [Nat.mul_comm]
    refine h.congr fun k _ => ?_
    unfold stV
    show Value.int .i64 0 = _
    split
    · rfl
    · split <;> rfl
  rw [h2]
  obtain ⟨w3, h3⟩ : ∃ x, w2.alloc (.cells #[.int .i64 (lg : Nat), .slice (some ⟨w.heap.size + 1, 0, none⟩) S S] 127) = x := ⟨_, rfl⟩
  have s3 : w3.heap.size = w.heap.size + 1 + 1 + 1 := by rw [← h3]; simp [s2]
  have b3 : Below w2.heap.size w2 w3 := by rw [← h3]; exact below_new _ _
  have n3 : w3.heap[w.heap.size + 1 + 1]? = some (.cells #[.int .i64 (lg : Nat), .slice (some ⟨w.heap.size + 1, 0, none⟩) S S] 127 (0, 0)) := by rw [← h3, ← s2]; exact heap_alloc_new _ _
  rw [h3]
  have b4 : Below w3.heap.size w3 (w3.alloc (.cells (madeCells #[.int .i64 0] m) 3)) := below_new _ _
  have r4 : RowF (w3.alloc (.cells (madeCells #[.int .i64 0] m) 3)) (w.heap.size + 1 + 1 + 1) 3 m (nxV cs 0) := by
    have h := RowF.new w3 (madeCells #[.int .i64 0] m) 3 (fun _ => .int .i64 0) (fun k hk => by
      rw [size_madeCells] at hk
      rw [madeCells_get _ _ k hk]
      simp [Nat.mod_one])
    rw [s3, size_madeCells] at h
    exact h.congr fun k _ => by simp [nxV]
  refine ⟨?_, ?_, ?_, ?_, ?_⟩
  · exact ((r2.below b3 (by omega)).below b4 (by omega)).drewN 1
  · exact r4.drewN 1
  · exact (b4.block _ (by omega)).trans n3
  · exact (b4.block _ (by omega)).trans ((b3.block _ (by omega)).trans ((b2.block _ (by omega)).trans n1))
  · exact below_drewN (((b1.trans (b2.mono (by omega))).trans (b3.mono (by omega))).trans (b4.mono (by omega))) 1
section
variable {w wr : World} {lg S m : Nat} {a b c a' b' c' : Nat → Nat} {nx nx' : Nat → Value}
theorem TabW.setN (h : TabW w lg S m a b c nx wr) (k : Nat) (v : Value) : TabW w lg S m a b c (updV nx k v) (wr.setCell ⟨w.heap.size + 1 + 1 + 1, k, none⟩ v) := by
  obtain ⟨h1, h2, h3, h4, h5⟩ := h
  exact ⟨h1.other v (show w.heap.size + 1 + 1 + 1 ≠ w.heap.size + 1 by omega), h2.set_ k v, (setCell_heap v (show w.heap.size + 1 + 1 ≠ w.heap.size + 1 + 1 + 1 by omega)).trans h3, (setCell_heap v (show w.heap.size ≠ w.heap.size + 1 + 1 + 1 by omega)).trans h4, h5.setCell (show w.heap.size ≤ w.heap.size + 1 + 1 + 1 by omega) _⟩
theorem TabW.setT (h : TabW w lg S m a b c nx wr) (j : Nat) (v : Value) (hf : ∀ k, k < 3 * S → updV (stV a b c) j v k = stV a' b' c' k) : TabW w lg S m a' b' c' nx (wr.setCell ⟨w.heap.size + 1, j, none⟩ v) := by
  obtain ⟨h1, h2, h3, h4, h5⟩ := h
  exact ⟨(h1.set_ j v).congr hf, h2.other v (by simp), (setCell_heap v (by simp)).trans h3, (setCell_heap v (by simp)).trans h4, h5.setCell (by simp) _⟩
theorem TabW.cgN (h : TabW w lg S m a b c nx wr) (hf : ∀ k, k < m → nx k = nx' k) : TabW w lg S m a b c nx' wr :=
  ⟨h.1, h.2.1.congr hf, h.2.2⟩
theorem TabW.drewN (h : TabW w lg S m a b c nx wr) (q : Nat) : TabW w lg S m a b c nx (wr.drewN q) := ⟨h.1, h.2.1, h.2.2.1, h.2.2.2.1, below_drewN h.2.2.2.2 q⟩
end
theorem nxV_neg (cs : List Int) (k m : Nat) (ch : Value) (hc : cs.getD k 0 < 0) : ∀ j, j < m → updV (updV (nxV cs k) k ch) k (.int .i64 1) j = nxV cs (k + 1) j := by
  intro j _
  unfold updV nxV
  by_cases h : j = k
  · subst h
    rw [if_pos rfl, if_pos (by omega)]
    unfold nxt
    rw [if_pos hc]
    rfl
  · rw [if_neg h, if_neg h]
    by_cases h2 : j < k
    · rw [if_pos h2, if_pos (by omega)]
    · rw [if_neg h2, if_neg (by omega)]
theorem nxV_pos (cs : List Int) (k m : Nat) (ch : Int) (hch : cs.getD k 0 = ch) (hc : 0 ≤ ch) : ∀ j, j < m → updV (nxV cs k) k (.int .i64 ch) j = nxV cs (k + 1) j := by
  intro j _
  unfold updV nxV
  by_cases h : j = k
  · subst h
    rw [if_pos rfl, if_pos (by omega)]
    unfold nxt
    rw [hch, if_neg (by omega)]
    congr 1
    omega
  · rw [if_neg h]
    by_cases h2 : j < k
    · rw [if_pos h2, if_pos (by omega)]
    · rw [if_neg h2, if_neg (by omega)]
theorem cv_upd (f : Nat → Nat) (p k : Nat) (hk : k < 1000) : (fun i => cv (upd f p k i)) = upd (fun i => cv (f i)) p k := by
  funext i
  unfold upd
  split
  · unfold cv; rw [if_neg (by omega)]
  · rfl
def invOf (S : Nat) : Nat := if S = 32 then 7 else 3
/-- how far a place is from one that is free -/
def farOf (S h b : Nat) : Nat := if b < h then 0 else S - (b * invOf S) % S
theorem far32 : ∀ b : Fin 32, (b.val + 23) % 32 = 0 ∨ ((b.val + 23) % 32 * 7) % 32 = (b.val * 7) % 32 + 1 := by decide +kernel
theorem far64 : ∀ b : Fin 64, (b.val + 43) % 64 = 0 ∨ ((b.val + 43) % 64 * 3) % 64 = (b.val * 3) % 64 + 1 := by decide +kernel
theorem far_less (S h b : Nat) (hS : S = 32 ∨ S = 64) (h0 : 0 < h) (hb : b < S) (hbh : h ≤ b) : farOf S h ((b + stepOf S) % S) < farOf S h b := by
  have h1 : (b + stepOf S) % S = 0 ∨ ((b + stepOf S) % S * invOf S) % S = (b * invOf S) % S + 1 := by
    rcases hS with rfl | rfl
    · exact far32 ⟨b, hb⟩
    · exact far64 ⟨b, hb⟩
  have hm : (b * invOf S) % S < S := Nat.mod_lt _ (by omega)
  unfold farOf
  rw [if_neg (show ¬ b < h by omega)]
  split
  · omega
  · rename_i h2
    rcases h1 with h1 | h1
    · omega
    · omega
def Rel2 (w : World) (lg S m : Nat) (cs : List Int) (av iv : Value) (wr : World) : Prop :=
  ∃ k : Nat, k ≤ m ∧ av = .int .i64 (orb S (highF cs S) (preK cs k) : Nat) ∧ iv = .int .i64 (k : Nat) ∧ TabW w lg S m (fun i => cv (layT cs S (preK cs k) i)) zf zf (nxV cs m) wr
def Rel3 (w : World) (lg S m : Nat) (cs : List Int) (k n : Nat) (av jv : Value) (wr : World) : Prop :=
  ∃ j : Nat, j ≤ n ∧ av = .int .i64 (orb S (highF cs S) (preK cs k + j) : Nat) ∧ jv = .int .i64 (j : Nat) ∧ TabW w lg S m (fun i => cv (layT cs S (preK cs k + j) i)) zf zf (nxV cs m) wr
def Rel4 (S h r : Nat) (av : Value) : Prop := ∃ b f : Nat, av = .int .i64 (b : Nat) ∧ b < S ∧ (if b < h then b else nxF S h f b) = r
theorem rel4_start (S h a : Nat) (hS : S = 32 ∨ S = 64) : Rel4 S h (nextAt S h a) (.int .i64 ((a + stepOf S) % S : Nat)) := by
  refine ⟨(a + stepOf S) % S, S - 1, rfl, Nat.mod_lt _ (by omega), ?_⟩
  unfold nextAt
  rcases hS with rfl | rfl <;> rfl
theorem rel4_step (S h r b f : Nat) (hS : S = 32 ∨ S = 64) (hbh : h ≤ b) (hr : r < h) (he : (if b < h then b else nxF S h f b) = r) : Rel4 S h r (.int .i64 ((b + stepOf S) % S : Nat)) := by
  rw [if_neg (by omega)] at he
  cases f with
  | zero => unfold nxF at he; omega
  | succ f => exact ⟨_, f, rfl, Nat.mod_lt _ (by omega), he⟩
/-- the next numbers while the states are gone through -/
def nxW (cs : List Int) (S i : Nat) : Nat → Value := fun j => .int .i64 (nxt cs j + cnt (symF cs S) i j : Nat)
def Rel5 (w : World) (lg S m : Nat) (cs : List Int) (iv : Value) (wr : World) : Prop :=
  ∃ i : Nat, i ≤ S ∧ iv = .int .i64 (i : Nat) ∧ TabW w lg S m (fun k => cv (symF cs S k)) (fun k => if k < i then bitsF cs lg k else 0) (fun k => if k < i then baseF cs lg k else 0) (nxW cs S i) wr
theorem upd_upto (f : Nat → Nat) (i v : Nat) (hv : f i = v) : upd (fun k => if k < i then f k else 0) i v = fun k => if k < i + 1 then f k else 0 := by
  funext k
  unfold upd
  by_cases h : k = i
  · subst h; rw [if_pos rfl, if_pos (by omega), hv]
  · rw [if_neg h]
    by_cases h2 : k < i
    · simp only [h2, if_true]; rw [if_pos (by omega)]
    · simp only [h2, if_false]; rw [if_neg (by omega)]
theorem nxW_step (cs : List Int) (S i s o m : Nat) (hs : symF cs S i = s) (ho : nxt cs s + cnt (symF cs S) i s = o) : ∀ j, j < m → updV (nxW cs S i) s (.int .i64 (o + 1 : Nat)) j = nxW cs S (i + 1) j := by
  intro j _
  unfold updV nxW
  rw [cnt_succ, hs]
  by_cases h : j = s
  · subst h; rw [if_pos rfl, if_pos rfl, ← Nat.add_assoc, ho]
  · rw [if_neg h, if_neg (Ne.symm h)]
    rfl
theorem base_val0 (z y : Nat) (g1 : y ≤ z) (g2 : z ≤ 2 * y) (g3 : y ≤ 64) : wrap64 (wrap64 (z : Int) - (y : Int)) = ((z - y : Nat) : Int) := by
  unfold wrap64
  omega
theorem base_bd (o lo lg : Nat) (h1 : 2 ^ lo ≤ o) (h2 : o < 2 ^ (lo + 1)) (hlo : lo ≤ lg) : 2 ^ lg ≤ o * 2 ^ (lg - lo) ∧ o * 2 ^ (lg - lo) ≤ 2 * 2 ^ lg := by
  have e : 2 ^ lo * 2 ^ (lg - lo) = 2 ^ lg := by rw [← Nat.pow_add]; congr 1; omega
  refine ⟨by rw [← e]; exact Nat.mul_le_mul_right _ h1, ?_⟩
  rw [← e, ← Nat.mul_assoc, Nat.mul_comm 2, ← Nat.pow_succ]
  exact Nat.mul_le_mul_right _ (Nat.le_of_lt h2)
theorem base_val (o lo lg S : Nat) (hS : 2 ^ lg = S) (h1 : 2 ^ lo ≤ o) (h2 : o < 2 ^ (lo + 1)) (hS6 : S ≤ 64) (hlo : lo ≤ lg) (si : Int) (hsi : si = S) : wrap64 (wrap64 ((o : Int) * 2 ^ (lg - lo)) - si) = ((o * 2 ^ (lg - lo) - S : Nat) : Int) := by
  have g := base_bd o lo lg h1 h2 hlo
  rw [hS] at g
  rw [hsi, show (o : Int) * 2 ^ (lg - lo) = ((o * 2 ^ (lg - lo) : Nat) : Int) by simp]
  exact base_val0 _ _ g.1 g.2 hS6
set_option maxRecDepth 100000 in
set_option maxHeartbeats 3200000 in
theorem zTableOf_5 {w : World} {G m c : Nat} {cs : List Int} (hG : G < w.heap.size) (hm : cs.length = m) (hm1 : 1 ≤ m) (hm2 : m ≤ 256)
    (hcs : ∀ k, k < m → w.cell? ⟨G, k, none⟩ = some (.int .i64 (cs.getD k 0))) (hl : Least cs) (hs : sumA cs = 32) :
    Calls Tryf.prog 38 #[.slice (some ⟨G, 0, none⟩) m c, .int .i64 5] w (TabPost w cs 5) := by
  have hmk1 := make_run 125 135 _ 3 24 Tryf.underlying125 info_state 32 32 32 rfl rfl (by omega) (by omega)
  have hmk2 := make_run 29 3 _ 1 8 Tryf.underlying29 info_int m m m rfl rfl (by omega) (by omega)
  have HM := Lib.hid hm
  have HCS := Lib.hid hcs
  have HL := Lib.hid hl
  have HS := Lib.hid hs
  clear hm hcs hl hs
  go_enter Tryf.func38, Tryf.ntmps38
  go_wp2_with fail
  go_region
  all_goals
    go_wp2_with fail
    go_loopw [7, 31] (Rel1 w 5 32 m cs) (fun _ iv _ => m - (intOf iv).toNat)
    case atStart => exact ⟨0, 32, Nat.zero_le _, rfl, rfl, rfl, TabW_start w 5 32 m cs⟩
    case round =>
      obtain ⟨k, hi0, hk, rfl, rfl, hh, hT⟩ := hrel
      have HT := Lib.hid hT
      have HH := Lib.hid hh
      clear hT hh
      by_cases hkm : k < m
      · obtain ⟨ch, hch⟩ : ∃ ch, cs.getD k 0 = ch := ⟨_, rfl⟩
        have k0 : wr.cell? ⟨G, k, none⟩ = some (.int .i64 ch) := by rw [← hch]; exact (HT.out.2.2.2.2.cell (p := ⟨G, k, none⟩) hG).trans (HCS.out k hkm)
        have f1 : wr.frozen? ⟨w.heap.size + 1 + 1 + 1, k, none⟩ = false := HT.out.2.1.frozen k
        have c1 : wr.cell? ⟨w.heap.size + 1 + 1 + 1, k, none⟩ = some (nxV cs k k) := HT.out.2.1.cell k hkm
        have o1 : wr.cell? ⟨w.heap.size + 1 + 1, 1, none⟩ = some (.slice (some ⟨w.heap.size + 1, 0, none⟩) 32 32) := cell_of_row wr _ 1 _ _ (0, 0) HT.out.2.2.1
        have HCH := Lib.hid hch
        by_cases hc0 : ch < 0
        · have hp := low_pos cs 32 k HL.out HS.out (by rw [HM.out]; exact hkm) (by rw [hch]; exact hc0)
          rw [HH.out] at hp
          obtain ⟨p, hpe⟩ : ∃ p, hi0 - 1 = p := ⟨_, rfl⟩
          have ep : (hi0 : Int) - 1 = (p : Int) := by omega
          have hps : p < 32 := by omega
          have f2 : wr.frozen? ⟨w.heap.size + 1, p * 3, none⟩ = false := HT.out.1.frozen _
          have c2 : wr.cell? ⟨w.heap.size + 1, p * 3, none⟩ = some (stV (fun i => cv ((lowK cs 32 k).2 i)) zf zf (p * 3)) := HT.out.1.cell _ (by omega)
          have HPE := Lib.hid hpe
          clear hch hpe
          go_wp2_with fail
          refine ⟨⟨k + 1, p, by omega, congrArg (Value.int .i64) (by omega), by go_num, ?_, ?_⟩, ?_⟩
          · show (if cs.getD k 0 < 0 then ((lowK cs 32 k).1 - 1, upd (lowK cs 32 k).2 ((lowK cs 32 k).1 - 1) k) else lowK cs 32 k).1 = p
            rw [if_pos (by rw [HCH.out]; exact hc0), HH.out]
            exact HPE.out
          · have hlk : (lowK cs 32 (k + 1)).2 = upd (lowK cs 32 k).2 p k := by
              show (if cs.getD k 0 < 0 then ((lowK cs 32 k).1 - 1, upd (lowK cs 32 k).2 ((lowK cs 32 k).1 - 1) k) else lowK cs 32 k).2 = _
              rw [if_pos (by rw [HCH.out]; exact hc0), HH.out, HPE.out]
            rw [hlk, cv_upd _ _ _ (by omega)]
            have h1 := HT.out.setN k (.int .i64 ch)
            have h2 := h1.setT (p * 3) (.int .i64 (k : Nat)) (stV_a _ _ _ p k _)
            have h3 := h2.setN k (.int .i64 1)
            exact h3.cgN (nxV_neg cs k m _ (by rw [HCH.out]; exact hc0))
          · simp [intOf]; omega
        · clear hch
          go_wp2_with fail
          have hlk : lowK cs 32 (k + 1) = lowK cs 32 k := by
            show (if cs.getD k 0 < 0 then ((lowK cs 32 k).1 - 1, upd (lowK cs 32 k).2 ((lowK cs 32 k).1 - 1) k) else lowK cs 32 k) = _
            rw [if_neg (by rw [HCH.out]; omega)]
          refine ⟨⟨k + 1, hi0, by omega, rfl, by go_num, by rw [hlk]; exact HH.out, ?_⟩, ?_⟩
          · rw [hlk]
            exact (HT.out.setN k (.int .i64 ch)).cgN (nxV_pos cs k m ch HCH.out (by omega))
          · simp [intOf]; omega
      · obtain rfl : m = k := by omega
        go_wp2_with fail
        have hH : highF cs 32 = hi0 := by rw [← HH.out]; unfold highF; rw [HM.out]
        have HHF := Lib.hid hH
        have hhS : hi0 ≤ 32 := by rw [← hH]; exact high_le cs 32
        have hfl : (flatF cs).length = hi0 := by rw [← hH]; exact (high_eq cs 32 HL.out HS.out).symm
        have HFL := Lib.hid hfl
        have HT0 := HT.out
        have HLT : Hid (TabW w 5 32 m (fun i => cv (layT cs 32 (preK cs 0) i)) zf zf (nxV cs m) wr) := by
          have := HT.out
          rw [← HM.out] at this
          rw [← HM.out]
          exact Lib.hid this
        clear HT0 hH hfl
        obtain ⟨w1, rfl⟩ : ∃ w1 : World, w1 = wr := ⟨_, rfl⟩
        go_loopw [11, 62] (Rel2 w 5 32 m cs) (fun _ iv _ => m - (intOf iv).toNat)
        case atStart => exact ⟨0, Nat.zero_le _, rfl, rfl, HLT.out⟩
        case round =>
          obtain ⟨k, hk, rfl, rfl, hT⟩ := hrel
          have HTk := Lib.hid hT
          clear hT
          by_cases hkm : k < m
          · obtain ⟨ch, hch⟩ : ∃ ch, cs.getD k 0 = ch := ⟨_, rfl⟩
            have k0 : wr.cell? ⟨G, k, none⟩ = some (.int .i64 ch) := by rw [← hch]; exact (HTk.out.2.2.2.2.cell (p := ⟨G, k, none⟩) hG).trans (HCS.out k hkm)
            have HCH := Lib.hid hch
            rcases (show ch < 0 ∨ ch = 0 ∨ 0 < ch by omega) with hc0 | hc0 | hc0
            · have hpk : preK cs (k + 1) = preK cs k := by rw [preK_succ, hch]; omega
              have HPK := Lib.hid hpk
              clear hch hpk
              go_wp2_with fail
              refine wp_loop_rounds 1 ?_
              rw [rounds_succ]
              go_wp2_with fail
              refine ⟨⟨k + 1, by omega, by rw [HPK.out], by go_num, by rw [HPK.out]; exact HTk.out⟩, ?_⟩
              simp [intOf]; omega
            · subst hc0
              have hpk : preK cs (k + 1) = preK cs k := by rw [preK_succ, hch]; omega
              have HPK := Lib.hid hpk
              clear hch hpk
              go_wp2_with fail
              refine wp_loop_rounds 1 ?_
              rw [rounds_succ]
              go_wp2_with fail
              refine ⟨⟨k + 1, by omega, by rw [HPK.out], by go_num, by rw [HPK.out]; exact HTk.out⟩, ?_⟩
              simp [intOf]; omega
            · obtain ⟨n, hn⟩ : ∃ n : Nat, ch = (n : Int) := ⟨ch.toNat, by omega⟩
              subst hn
              have hnS : n ≤ 32 := by have := abs_le cs 32 HS.out k (by rw [HM.out]; exact hkm); rw [hch] at this; omega
              have hpk : preK cs (k + 1) = preK cs k + n := by rw [preK_succ, hch]; omega
              have HPK := Lib.hid hpk
              clear hch hpk
              go_wp2_with fail
              obtain ⟨w2, rfl⟩ : ∃ w2 : World, w2 = wr := ⟨_, rfl⟩
              go_loopw [11, 69] (Rel3 w 5 32 m cs k n) (fun _ jv _ => n - (intOf jv).toNat)
              case atStart => exact ⟨0, Nat.zero_le _, rfl, rfl, HTk.out⟩
              case round =>
                obtain ⟨j, hj, rfl, rfl, hT⟩ := hrel
                have HTj := Lib.hid hT
                clear hT
                by_cases hjn : j < n
                · have hfg := flat_get cs k j (by rw [HM.out]; exact hkm) (by rw [HCH.out]; omega)
                  obtain ⟨T, hTe⟩ : ∃ T, preK cs k + j = T := ⟨_, rfl⟩
                  rw [hTe, HFL.out] at hfg
                  have hT1 := HTj.out
                  rw [hTe] at hT1
                  have HT1 := Lib.hid hT1
                  obtain ⟨a, ha⟩ : ∃ a, orb 32 (highF cs 32) T = a := ⟨_, rfl⟩
                  have hah : a < hi0 := by rw [← ha, HHF.out]; exact orb_lt 32 hi0 (by omega) (by omega) hhS T hfg.2
                  have f2 : wr.frozen? ⟨w.heap.size + 1, a * 3, none⟩ = false := HT1.out.1.frozen _
                  have c2 : wr.cell? ⟨w.heap.size + 1, a * 3, none⟩ = some (stV (fun i => cv (layT cs 32 T i)) zf zf (a * 3)) := HT1.out.1.cell _ (by omega)
                  have o1 : wr.cell? ⟨w.heap.size + 1 + 1, 1, none⟩ = some (.slice (some ⟨w.heap.size + 1, 0, none⟩) 32 32) := cell_of_row wr _ 1 _ _ (0, 0) HT1.out.2.2.1
                  have haS : a < 32 := by omega
                  have HA := Lib.hid ha
                  have HFG := Lib.hid hfg
                  have HTE := Lib.hid hTe
                  rw [hTe, ha]
                  clear hT1 ha hfg hTe
                  go_wp2_with fail
                  have e4 : ((a : Int) + 23) % 32 = (((a + stepOf 32) % 32 : Nat) : Int) := by unfold stepOf; omega
                  have hnx : nextAt 32 hi0 a = orb 32 hi0 (T + 1) := by show nextAt 32 hi0 a = nextAt 32 hi0 (orb 32 hi0 T); rw [← HHF.out, HA.out]
                  have hlt1 : nextAt 32 hi0 a < hi0 := by rw [hnx]; exact orb_le 32 hi0 (by omega) (by omega) hhS (T + 1) (by have := HFG.out.2; omega)
                  have HE4 := Lib.hid e4
                  have HNX := Lib.hid hnx
                  have HLT1 := Lib.hid hlt1
                  have hTn := HT1.out.setT (a * 3) (.int .i64 (k : Nat)) (stV_a _ _ _ a k _)
                  have HTN := Lib.hid hTn
                  clear e4 hnx hlt1 hTn
                  go_loop [11] (Rel4 32 hi0 (nextAt 32 hi0 a)) (fun av => farOf 32 hi0 (intOf av).toNat)
                  case atStart =>
                    have h4 := rel4_start 32 hi0 a (by omega)
                    rwa [← HE4.out] at h4
                  case round =>
                    obtain ⟨b, f, rfl, hbS, he⟩ := hrel
                    have HEQ := Lib.hid he
                    clear he
                    by_cases hbh : b < hi0
                    · have hbe : b = nextAt 32 hi0 a := by have := HEQ.out; rwa [if_pos hbh] at this
                      have HBE := Lib.hid hbe
                      clear hbe
                      go_wp2_with fail
                      refine ⟨⟨j + 1, by omega, ?_, by go_num, ?_⟩, ?_⟩
                      · rw [show preK cs k + (j + 1) = T + 1 by have := HTE.out; omega, HHF.out, ← HNX.out, ← HBE.out]
                      · rw [show preK cs k + (j + 1) = T + 1 by have := HTE.out; omega]
                        have hl : layT cs 32 (T + 1) = upd (layT cs 32 T) a k := by
                          show upd (layT cs 32 T) (orb 32 (highF cs 32) T) ((flatF cs).getD T 0) = _
                          rw [HA.out, HFG.out.1]
                        rw [hl, cv_upd _ _ _ (by omega)]
                        exact HTN.out
                      · simp [intOf]; omega
                    · have e5 : ((b : Int) + 23) % 32 = (((b + stepOf 32) % 32 : Nat) : Int) := by unfold stepOf; omega
                      have HE5 := Lib.hid e5
                      have h4 := rel4_step 32 hi0 (nextAt 32 hi0 a) b f (by omega) (by omega) HLT1.out HEQ.out
                      have h5 := far_less 32 hi0 b (by omega) (by omega) hbS (by omega)
                      rw [← e5] at h4
                      have h6 : (((b : Int) + 23) % 32).toNat = (b + stepOf 32) % 32 := by omega
                      have H4 := Lib.hid h4
                      have H5 := Lib.hid h5
                      have H6 := Lib.hid h6
                      clear e5 h4 h5 h6
                      go_wp2_with fail
                      refine ⟨H4.out, ?_⟩
                      simp only [intOf]
                      rw [H6.out, Int.toNat_natCast]
                      exact H5.out
                · obtain rfl : n = j := by omega
                  go_wp2_with fail
                  refine ⟨⟨k + 1, by omega, by rw [HPK.out], by go_num, by rw [HPK.out]; exact HTj.out⟩, ?_⟩
                  simp [intOf]; omega
          · obtain rfl : m = k := by omega
            have o1 : wr.cell? ⟨w.heap.size + 1 + 1, 1, none⟩ = some (.slice (some ⟨w.heap.size + 1, 0, none⟩) 32 32) := cell_of_row wr _ 1 _ _ (0, 0) HTk.out.2.2.1
            have hTs : TabW w 5 32 m (fun k => cv (symF cs 32 k)) zf zf (nxV cs m) wr := by
              have h := HTk.out
              have e : preK cs m = (flatF cs).length := by unfold flatF preK; rw [HM.out]
              rw [e] at h
              exact h
            have HTS : Hid (Rel5 w 5 32 m cs (.int .i64 0) wr) := Lib.hid ⟨0, Nat.zero_le _, rfl, hTs.cgN (fun k hk => by unfold nxV nxW; rw [if_pos hk]; simp [cnt])⟩
            clear hTs
            go_wp2_with fail
            clear o1
            obtain ⟨w3, rfl⟩ : ∃ w3 : World, w3 = wr := ⟨_, rfl⟩
            go_loopw [95] (Rel5 w 5 32 m cs) (fun iv _ => 32 - (intOf iv).toNat)
            case atStart => exact HTS.out
            case round =>
              obtain ⟨i, hi, rfl, hT⟩ := hrel
              have HTi := Lib.hid hT
              clear hT
              by_cases hiS : i < 32
              · have hso := sym_ok cs 32 HL.out HS.out (by omega) i hiS
                have how := own_facts cs 32 HL.out HS.out (by omega) (by rw [HM.out]; exact hm2) i hiS
                obtain ⟨s, hs⟩ : ∃ s, symF cs 32 i = s := ⟨_, rfl⟩
                obtain ⟨o, ho⟩ : ∃ o, ownF cs 32 i = o := ⟨_, rfl⟩
                rw [hs, HM.out] at hso
                rw [ho] at how
                have hcvs : cv (symF cs 32 i) = s := by unfold cv; rw [hs, if_neg (by omega)]
                have c1 : wr.cell? ⟨w.heap.size + 1, i * 3, none⟩ = some (.int .i64 (s : Nat)) := HTi.out.1.cellv (i * 3) (by omega) _ (by unfold stV; rw [if_pos (by omega), show i * 3 / 3 = i by omega]; exact congrArg (fun z : Nat => Value.int .i64 (z : Int)) hcvs)
                have ho2 : nxt cs s + cnt (symF cs 32) i s = o := by rw [← ho]; unfold ownF; rw [hs]
                have c2 : wr.cell? ⟨w.heap.size + 1 + 1 + 1, s, none⟩ = some (.int .i64 (o : Nat)) := HTi.out.2.1.cellv s hso.1 _ (by unfold nxW; rw [ho2])
                have f2 : wr.frozen? ⟨w.heap.size + 1 + 1 + 1, s, none⟩ = false := HTi.out.2.1.frozen s
                have o1 : wr.cell? ⟨w.heap.size + 1 + 1, 1, none⟩ = some (.slice (some ⟨w.heap.size + 1, 0, none⟩) 32 32) := cell_of_row wr _ 1 _ _ (0, 0) HTi.out.2.2.1
                obtain ⟨vb, hvb⟩ : ∃ vb, stV (fun k => cv (symF cs 32 k)) (fun k => if k < i then bitsF cs 5 k else 0) (fun k => if k < i then baseF cs 5 k else 0) (i * 3 + 1) = vb := ⟨_, rfl⟩
                obtain ⟨vc, hvc⟩ : ∃ vc, stV (fun k => cv (symF cs 32 k)) (fun k => if k < i then bitsF cs 5 k else 0) (fun k => if k < i then baseF cs 5 k else 0) (i * 3 + 2) = vc := ⟨_, rfl⟩
                have c3 : wr.cell? ⟨w.heap.size + 1, i * 3 + 1, none⟩ = some vb := HTi.out.1.cellv _ (by omega) _ hvb
                have f3 : wr.frozen? ⟨w.heap.size + 1, i * 3 + 1, none⟩ = false := HTi.out.1.frozen _
                have c4 : wr.cell? ⟨w.heap.size + 1, i * 3 + 2, none⟩ = some vc := HTi.out.1.cellv _ (by omega) _ hvc
                have f4 : wr.frozen? ⟨w.heap.size + 1, i * 3 + 2, none⟩ = false := HTi.out.1.frozen _
                have hsm : s < m := hso.1
                have ho3 : 1 ≤ o := how.1
                have ho4 : o < 2 * 32 := how.2.2
                obtain ⟨lo, hlo⟩ : ∃ lo, o.log2 = lo := ⟨_, rfl⟩
                have KL := Lib.hid (zLog_any o (by omega) (o : Int) rfl)
                rw [hlo] at KL
                have hll := Nat.log2_self_le (n := o) (by omega)
                have hlu := Nat.lt_log2_self (n := o)
                rw [hlo] at hll hlu
                have hlo6 : lo ≤ 5 := by
                  have h1 : 2 ^ lo < 2 ^ (5 + 1) := by omega
                  have := (Nat.pow_lt_pow_iff_right (a := 2) (by omega)).1 h1
                  omega
                have HSS := Lib.hid hs
                have HO := Lib.hid ho
                have HO2 := Lib.hid ho2
                have HLO := Lib.hid hlo
                have HLL := Lib.hid hll
                have HLU := Lib.hid hlu
                clear hso how hs ho hcvs ho2 hvb hvc hlo hll hlu
                go_wp2_with fail
                refine (KL.out _).mono ?_
                rintro e w5 ⟨rfl, rfl⟩
                go_wp2_with fail
                have hbt : bitsF cs 5 i = 5 - lo := by unfold bitsF; rw [show (2 : Nat) ^ 5 = 32 from rfl, HO.out, HLO.out]
                have hbs : baseF cs 5 i = o * 2 ^ (5 - lo) - 32 := by unfold baseF; rw [hbt, show (2 : Nat) ^ 5 = 32 from rfl, HO.out]
                have e1 : (5 : Int) - (lo : Int) = ((5 - lo : Nat) : Int) := by omega
                have e2 : (o : Int) + 1 = ((o + 1 : Nat) : Int) := by omega
                refine ⟨⟨i + 1, by omega, by go_num, ?_⟩, by simp [intOf]; omega⟩
                rw [base_val o lo 5 32 rfl HLL.out HLU.out (by omega) hlo6 32 rfl, e1, e2]
                have h := ((HTi.out.setN s (.int .i64 (o + 1 : Nat))).setT (i * 3 + 1) (.int .i64 (5 - lo : Nat)) (stV_b _ _ _ i (5 - lo) _)).setT (i * 3 + 2) (.int .i64 (o * 2 ^ (5 - lo) - 32 : Nat)) (stV_c _ _ _ i (o * 2 ^ (5 - lo) - 32) _)
                rw [upd_upto (bitsF cs 5) i _ hbt, upd_upto (baseF cs 5) i _ hbs] at h
                exact h.cgN (nxW_step cs 32 i s o m HSS.out HO2.out)
              · obtain rfl : i = 32 := by omega
                have o0 : wr.cell? ⟨w.heap.size + 1 + 1, 0, none⟩ = some (.int .i64 5) := cell_of_row wr _ 0 _ _ (0, 0) HTi.out.2.2.1
                have o1 : wr.cell? ⟨w.heap.size + 1 + 1, 1, none⟩ = some (.slice (some ⟨w.heap.size + 1, 0, none⟩) 32 32) := cell_of_row wr _ 1 _ _ (0, 0) HTi.out.2.2.1
                have r0 : wr.cell? ⟨w.heap.size, 0, none⟩ = some (.int .i64 0) := cell_of_row wr _ 0 _ _ (0, 0) HTi.out.2.2.2.1
                have r1 : wr.cell? ⟨w.heap.size, 1, none⟩ = some (.slice none 0 0) := cell_of_row wr _ 1 _ _ (0, 0) HTi.out.2.2.2.1
                have g0 : wr.frozen? ⟨w.heap.size, 0, none⟩ = false := frozen_of_row wr _ 0 _ _ HTi.out.2.2.2.1
                have g1 : wr.frozen? ⟨w.heap.size, 1, none⟩ = false := frozen_of_row wr _ 1 _ _ HTi.out.2.2.2.1
                go_wp2_with fail
                refine bodyPost_ret (v := .agg #[.int .i64 5, .slice (some ⟨w.heap.size + 1, 0, none⟩) 32 32]) (by simp [results, Tryf.results38, go_sem, r0, r1]) rfl ?_
                have hb1 : Below w.heap.size w ((wr.setCell ⟨w.heap.size, 0, none⟩ (.int .i64 5)).setCell ⟨w.heap.size, 1, none⟩ (.slice (some ⟨w.heap.size + 1, 0, none⟩) 32 32)) := (HTi.out.2.2.2.2.setCell (by simp) _).setCell (by simp) _
                refine ⟨w.heap.size + 1, by omega, rfl, ?_, hb1⟩
                refine ((HTi.out.1.other _ (by simp)).other _ (by simp)).congr fun k hk => ?_
                have hk3 : k / 3 < 32 := by omega
                have h3 := sym_ok cs 32 HL.out HS.out (by omega) (k / 3) hk3
                rw [HM.out] at h3
                unfold stV
                simp only [hk3, if_true]
                rw [show cv (symF cs 32 (k / 3)) = symF cs 32 (k / 3) by unfold cv; rw [if_neg (by omega)]]
set_option maxRecDepth 100000 in
set_option maxHeartbeats 3200000 in
theorem zTableOf_6 {w : World} {G m c : Nat} {cs : List Int} (hG : G < w.heap.size) (hm : cs.length = m) (hm1 : 1 ≤ m) (hm2 : m ≤ 256)
    (hcs : ∀ k, k < m → w.cell? ⟨G, k, none⟩ = some (.int .i64 (cs.getD k 0))) (hl : Least cs) (hs : sumA cs = 64) :
    Calls Tryf.prog 38 #[.slice (some ⟨G, 0, none⟩) m c, .int .i64 6] w (TabPost w cs 6) := by
  have hmk1 := make_run 125 135 _ 3 24 Tryf.underlying125 info_state 64 64 64 rfl rfl (by omega) (by omega)
  have hmk2 := make_run 29 3 _ 1 8 Tryf.underlying29 info_int m m m rfl rfl (by omega) (by omega)
  have HM := Lib.hid hm
  have HCS := Lib.hid hcs
  have HL := Lib.hid hl
  have HS := Lib.hid hs
  clear hm hcs hl hs
  go_enter Tryf.func38, Tryf.ntmps38
  go_wp2_with fail
  go_region
  all_goals
    go_wp2_with fail
    go_loopw [7, 31] (Rel1 w 6 64 m cs) (fun _ iv _ => m - (intOf iv).toNat)
    case atStart => exact ⟨0, 64, Nat.zero_le _, rfl, rfl, rfl, TabW_start w 6 64 m cs⟩
    case round =>
      obtain ⟨k, hi0, hk, rfl, rfl, hh, hT⟩ := hrel
      have HT := Lib.hid hT
      have HH := Lib.hid hh
      clear hT hh
      by_cases hkm : k < m
      · obtain ⟨ch, hch⟩ : ∃ ch, cs.getD k 0 = ch := ⟨_, rfl⟩
        have k0 : wr.cell? ⟨G, k, none⟩ = some (.int .i64 ch) := by rw [← hch]; exact (HT.out.2.2.2.2.cell (p := ⟨G, k, none⟩) hG).trans (HCS.out k hkm)
        have f1 : wr.frozen? ⟨w.heap.size + 1 + 1 + 1, k, none⟩ = false := HT.out.2.1.frozen k
        have c1 : wr.cell? ⟨w.heap.size + 1 + 1 + 1, k, none⟩ = some (nxV cs k k) := HT.out.2.1.cell k hkm
        have o1 : wr.cell? ⟨w.heap.size + 1 + 1, 1, none⟩ = some (.slice (some ⟨w.heap.size + 1, 0, none⟩) 64 64) := cell_of_row wr _ 1 _ _ (0, 0) HT.out.2.2.1
        have HCH := Lib.hid hch
        by_cases hc0 : ch < 0
        · have hp := low_pos cs 64 k HL.out HS.out (by rw [HM.out]; exact hkm) (by rw [hch]; exact hc0)
          rw [HH.out] at hp
          obtain ⟨p, hpe⟩ : ∃ p, hi0 - 1 = p := ⟨_, rfl⟩
          have ep : (hi0 : Int) - 1 = (p : Int) := by omega
          have hps : p < 64 := by omega
          have f2 : wr.frozen? ⟨w.heap.size + 1, p * 3, none⟩ = false := HT.out.1.frozen _
          have c2 : wr.cell? ⟨w.heap.size + 1, p * 3, none⟩ = some (stV (fun i => cv ((lowK cs 64 k).2 i)) zf zf (p * 3)) := HT.out.1.cell _ (by omega)
          have HPE := Lib.hid hpe
          clear hch hpe
          go_wp2_with fail
          refine ⟨⟨k + 1, p, by omega, congrArg (Value.int .i64) (by omega), by go_num, ?_, ?_⟩, ?_⟩
          · show (if cs.getD k 0 < 0 then ((lowK cs 64 k).1 - 1, upd (lowK cs 64 k).2 ((lowK cs 64 k).1 - 1) k) else lowK cs 64 k).1 = p
            rw [if_pos (by rw [HCH.out]; exact hc0), HH.out]
            exact HPE.out
          · have hlk : (lowK cs 64 (k + 1)).2 = upd (lowK cs 64 k).2 p k := by
              show (if cs.getD k 0 < 0 then ((lowK cs 64 k).1 - 1, upd (lowK cs 64 k).2 ((lowK cs 64 k).1 - 1) k) else lowK cs 64 k).2 = _
              rw [if_pos (by rw [HCH.out]; exact hc0), HH.out, HPE.out]
            rw [hlk, cv_upd _ _ _ (by omega)]
            have h1 := HT.out.setN k (.int .i64 ch)
            have h2 := h1.setT (p * 3) (.int .i64 (k : Nat)) (stV_a _ _ _ p k _)
            have h3 := h2.setN k (.int .i64 1)
            exact h3.cgN (nxV_neg cs k m _ (by rw [HCH.out]; exact hc0))
          · simp [intOf]; omega
        · clear hch
          go_wp2_with fail
          have hlk : lowK cs 64 (k + 1) = lowK cs 64 k := by
            show (if cs.getD k 0 < 0 then ((lowK cs 64 k).1 - 1, upd (lowK cs 64 k).2 ((lowK cs 64 k).1 - 1) k) else lowK cs 64 k) = _
            rw [if_neg (by rw [HCH.out]; omega)]
          refine ⟨⟨k + 1, hi0, by omega, rfl, by go_num, by rw [hlk]; exact HH.out, ?_⟩, ?_⟩
          · rw [hlk]
            exact (HT.out.setN k (.int .i64 ch)).cgN (nxV_pos cs k m ch HCH.out (by omega))
          · simp [intOf]; omega
      · obtain rfl : m = k := by omega
        go_wp2_with fail
        have hH : highF cs 64 = hi0 := by rw [← HH.out]; unfold highF; rw [HM.out]
        have HHF := Lib.hid hH
        have hhS : hi0 ≤ 64 := by rw [← hH]; exact high_le cs 64
        have hfl : (flatF cs).length = hi0 := by rw [← hH]; exact (high_eq cs 64 HL.out HS.out).symm
        have HFL := Lib.hid hfl
        have HT0 := HT.out
        have HLT : Hid (TabW w 6 64 m (fun i => cv (layT cs 64 (preK cs 0) i)) zf zf (nxV cs m) wr) := by
          have := HT.out
          rw [← HM.out] at this
          rw [← HM.out]
          exact Lib.hid this
        clear HT0 hH hfl
        obtain ⟨w1, rfl⟩ : ∃ w1 : World, w1 = wr := ⟨_, rfl⟩
        go_loopw [11, 62] (Rel2 w 6 64 m cs) (fun _ iv _ => m - (intOf iv).toNat)
        case atStart => exact ⟨0, Nat.zero_le _, rfl, rfl, HLT.out⟩
        case round =>
          obtain ⟨k, hk, rfl, rfl, hT⟩ := hrel
          have HTk := Lib.hid hT
          clear hT
          by_cases hkm : k < m
          · obtain ⟨ch, hch⟩ : ∃ ch, cs.getD k 0 = ch := ⟨_, rfl⟩
            have k0 : wr.cell? ⟨G, k, none⟩ = some (.int .i64 ch) := by rw [← hch]; exact (HTk.out.2.2.2.2.cell (p := ⟨G, k, none⟩) hG).trans (HCS.out k hkm)
            have HCH := Lib.hid hch
            rcases (show ch < 0 ∨ ch = 0 ∨ 0 < ch by omega) with hc0 | hc0 | hc0
            · have hpk : preK cs (k + 1) = preK cs k := by rw [preK_succ, hch]; omega
              have HPK := Lib.hid hpk
              clear hch hpk
              go_wp2_with fail
              refine wp_loop_rounds 1 ?_
              rw [rounds_succ]
              go_wp2_with fail
              refine ⟨⟨k + 1, by omega, by rw [HPK.out], by go_num, by rw [HPK.out]; exact HTk.out⟩, ?_⟩
              simp [intOf]; omega
            · subst hc0
              have hpk : preK cs (k + 1) = preK cs k := by rw [preK_succ, hch]; omega
              have HPK := Lib.hid hpk
              clear hch hpk
              go_wp2_with fail
              refine wp_loop_rounds 1 ?_
              rw [rounds_succ]
              go_wp2_with fail
              refine ⟨⟨k + 1, by omega, by rw [HPK.out], by go_num, by rw [HPK.out]; exact HTk.out⟩, ?_⟩
              simp [intOf]; omega
            · obtain ⟨n, hn⟩ : ∃ n : Nat, ch = (n : Int) := ⟨ch.toNat, by omega⟩
              subst hn
              have hnS : n ≤ 64 := by have := abs_le cs 64 HS.out k (by rw [HM.out]; exact hkm); rw [hch] at this; omega
              have hpk : preK cs (k + 1) = preK cs k + n := by rw [preK_succ, hch]; omega
              have HPK := Lib.hid hpk
              clear hch hpk
              go_wp2_with fail
              obtain ⟨w2, rfl⟩ : ∃ w2 : World, w2 = wr := ⟨_, rfl⟩
              go_loopw [11, 69] (Rel3 w 6 64 m cs k n) (fun _ jv _ => n - (intOf jv).toNat)
              case atStart => exact ⟨0, Nat.zero_le _, rfl, rfl, HTk.out⟩
              case round =>
                obtain ⟨j, hj, rfl, rfl, hT⟩ := hrel
                have HTj := Lib.hid hT
                clear hT
                by_cases hjn : j < n
                · have hfg := flat_get cs k j (by rw [HM.out]; exact hkm) (by rw [HCH.out]; omega)
                  obtain ⟨T, hTe⟩ : ∃ T, preK cs k + j = T := ⟨_, rfl⟩
                  rw [hTe, HFL.out] at hfg
                  have hT1 := HTj.out
                  rw [hTe] at hT1
                  have HT1 := Lib.hid hT1
                  obtain ⟨a, ha⟩ : ∃ a, orb 64 (highF cs 64) T = a := ⟨_, rfl⟩
                  have hah : a < hi0 := by rw [← ha, HHF.out]; exact orb_lt 64 hi0 (by omega) (by omega) hhS T hfg.2
                  have f2 : wr.frozen? ⟨w.heap.size + 1, a * 3, none⟩ = false := HT1.out.1.frozen _
                  have c2 : wr.cell? ⟨w.heap.size + 1, a * 3, none⟩ = some (stV (fun i => cv (layT cs 64 T i)) zf zf (a * 3)) := HT1.out.1.cell _ (by omega)
                  have o1 : wr.cell? ⟨w.heap.size + 1 + 1, 1, none⟩ = some (.slice (some ⟨w.heap.size + 1, 0, none⟩) 64 64) := cell_of_row wr _ 1 _ _ (0, 0) HT1.out.2.2.1
                  have haS : a < 64 := by omega
                  have HA := Lib.hid ha
                  have HFG := Lib.hid hfg
                  have HTE := Lib.hid hTe
                  rw [hTe, ha]
                  clear hT1 ha hfg hTe
                  go_wp2_with fail
                  have e4 : ((a : Int) + 43) % 64 = (((a + stepOf 64) % 64 : Nat) : Int) := by unfold stepOf; omega
                  have hnx : nextAt 64 hi0 a = orb 64 hi0 (T + 1) := by show nextAt 64 hi0 a = nextAt 64 hi0 (orb 64 hi0 T); rw [← HHF.out, HA.out]
                  have hlt1 : nextAt 64 hi0 a < hi0 := by rw [hnx]; exact orb_le 64 hi0 (by omega) (by omega) hhS (T + 1) (by have := HFG.out.2; omega)
                  have HE4 := Lib.hid e4
                  have HNX := Lib.hid hnx
                  have HLT1 := Lib.hid hlt1
                  have hTn := HT1.out.setT (a * 3) (.int .i64 (k : Nat)) (stV_a _ _ _ a k _)
                  have HTN := Lib.hid hTn
                  clear e4 hnx hlt1 hTn
                  go_loop [11] (Rel4 64 hi0 (nextAt 64 hi0 a)) (fun av => farOf 64 hi0 (intOf av).toNat)
                  case atStart =>
                    have h4 := rel4_start 64 hi0 a (by omega)
                    rwa [← HE4.out] at h4
                  case round =>
                    obtain ⟨b, f, rfl, hbS, he⟩ := hrel
                    have HEQ := Lib.hid he
                    clear he
                    by_cases hbh : b < hi0
                    · have hbe : b = nextAt 64 hi0 a := by have := HEQ.out; rwa [if_pos hbh] at this
                      have HBE := Lib.hid hbe
                      clear hbe
                      go_wp2_with fail
                      refine ⟨⟨j + 1, by omega, ?_, by go_num, ?_⟩, ?_⟩
                      · rw [show preK cs k + (j + 1) = T + 1 by have := HTE.out; omega, HHF.out, ← HNX.out, ← HBE.out]
                      · rw [show preK cs k + (j + 1) = T + 1 by have := HTE.out; omega]
                        have hl : layT cs 64 (T + 1) = upd (layT cs 64 T) a k := by
                          show upd (layT cs 64 T) (orb 64 (highF cs 64) T) ((flatF cs).getD T 0) = _
                          rw [HA.out, HFG.out.1]
                        rw [hl, cv_upd _ _ _ (by omega)]
                        exact HTN.out
                      · simp [intOf]; omega
                    · have e5 : ((b : Int) + 43) % 64 = (((b + stepOf 64) % 64 : Nat) : Int) := by unfold stepOf; omega
                      have HE5 := Lib.hid e5
                      have h4 := rel4_step 64 hi0 (nextAt 64 hi0 a) b f (by omega) (by omega) HLT1.out HEQ.out
                      have h5 := far_less 64 hi0 b (by omega) (by omega) hbS (by omega)
                      rw [← e5] at h4
                      have h6 : (((b : Int) + 43) % 64).toNat = (b + stepOf 64) % 64 := by omega
                      have H4 := Lib.hid h4
                      have H5 := Lib.hid h5
                      have H6 := Lib.hid h6
                      clear e5 h4 h5 h6
                      go_wp2_with fail
                      refine ⟨H4.out, ?_⟩
                      simp only [intOf]
                      rw [H6.out, Int.toNat_natCast]
                      exact H5.out
                · obtain rfl : n = j := by omega
                  go_wp2_with fail
                  refine ⟨⟨k + 1, by omega, by rw [HPK.out], by go_num, by rw [HPK.out]; exact HTj.out⟩, ?_⟩
                  simp [intOf]; omega
          · obtain rfl : m = k := by omega
            have o1 : wr.cell? ⟨w.heap.size + 1 + 1, 1, none⟩ = some (.slice (some ⟨w.heap.size + 1, 0, none⟩) 64 64) := cell_of_row wr _ 1 _ _ (0, 0) HTk.out.2.2.1
            have hTs : TabW w 6 64 m (fun k => cv (symF cs 64 k)) zf zf (nxV cs m) wr := by
              have h := HTk.out
              have e : preK cs m = (flatF cs).length := by unfold flatF preK; rw [HM.out]
              rw [e] at h
              exact h
            have HTS : Hid (Rel5 w 6 64 m cs (.int .i64 0) wr) := Lib.hid ⟨0, Nat.zero_le _, rfl, hTs.cgN (fun k hk => by unfold nxV nxW; rw [if_pos hk]; simp [cnt])⟩
            clear hTs
            go_wp2_with fail
            clear o1
            obtain ⟨w3, rfl⟩ : ∃ w3 : World, w3 = wr := ⟨_, rfl⟩
            go_loopw [95] (Rel5 w 6 64 m cs) (fun iv _ => 64 - (intOf iv).toNat)
            case atStart => exact HTS.out
            case round =>
              obtain ⟨i, hi, rfl, hT⟩ := hrel
              have HTi := Lib.hid hT
              clear hT
              by_cases hiS : i < 64
              · have hso := sym_ok cs 64 HL.out HS.out (by omega) i hiS
                have how := own_facts cs 64 HL.out HS.out (by omega) (by rw [HM.out]; exact hm2) i hiS
                obtain ⟨s, hs⟩ : ∃ s, symF cs 64 i = s := ⟨_, rfl⟩
                obtain ⟨o, ho⟩ : ∃ o, ownF cs 64 i = o := ⟨_, rfl⟩
                rw [hs, HM.out] at hso
                rw [ho] at how
                have hcvs : cv (symF cs 64 i) = s := by unfold cv; rw [hs, if_neg (by omega)]
                have c1 : wr.cell? ⟨w.heap.size + 1, i * 3, none⟩ = some (.int .i64 (s : Nat)) := HTi.out.1.cellv (i * 3) (by omega) _ (by unfold stV; rw [if_pos (by omega), show i * 3 / 3 = i by omega]; exact congrArg (fun z : Nat => Value.int .i64 (z : Int)) hcvs)
                have ho2 : nxt cs s + cnt (symF cs 64) i s = o := by rw [← ho]; unfold ownF; rw [hs]
                have c2 : wr.cell? ⟨w.heap.size + 1 + 1 + 1, s, none⟩ = some (.int .i64 (o : Nat)) := HTi.out.2.1.cellv s hso.1 _ (by unfold nxW; rw [ho2])
                have f2 : wr.frozen? ⟨w.heap.size + 1 + 1 + 1, s, none⟩ = false := HTi.out.2.1.frozen s
                have o1 : wr.cell? ⟨w.heap.size + 1 + 1, 1, none⟩ = some (.slice (some ⟨w.heap.size + 1, 0, none⟩) 64 64) := cell_of_row wr _ 1 _ _ (0, 0) HTi.out.2.2.1
                obtain ⟨vb, hvb⟩ : ∃ vb, stV (fun k => cv (symF cs 64 k)) (fun k => if k < i then bitsF cs 6 k else 0) (fun k => if k < i then baseF cs 6 k else 0) (i * 3 + 1) = vb := ⟨_, rfl⟩
                obtain ⟨vc, hvc⟩ : ∃ vc, stV (fun k => cv (symF cs 64 k)) (fun k => if k < i then bitsF cs 6 k else 0) (fun k => if k < i then baseF cs 6 k else 0) (i * 3 + 2) = vc := ⟨_, rfl⟩
                have c3 : wr.cell? ⟨w.heap.size + 1, i * 3 + 1, none⟩ = some vb := HTi.out.1.cellv _ (by omega) _ hvb
                have f3 : wr.frozen? ⟨w.heap.size + 1, i * 3 + 1, none⟩ = false := HTi.out.1.frozen _
                have c4 : wr.cell? ⟨w.heap.size + 1, i * 3 + 2, none⟩ = some vc := HTi.out.1.cellv _ (by omega) _ hvc
                have f4 : wr.frozen? ⟨w.heap.size + 1, i * 3 + 2, none⟩ = false := HTi.out.1.frozen _
                have hsm : s < m := hso.1
                have ho3 : 1 ≤ o := how.1
                have ho4 : o < 2 * 64 := how.2.2
                obtain ⟨lo, hlo⟩ : ∃ lo, o.log2 = lo := ⟨_, rfl⟩
                have KL := Lib.hid (zLog_any o (by omega) (o : Int) rfl)
                rw [hlo] at KL
                have hll := Nat.log2_self_le (n := o) (by omega)
                have hlu := Nat.lt_log2_self (n := o)
                rw [hlo] at hll hlu
                have hlo6 : lo ≤ 6 := by
                  have h1 : 2 ^ lo < 2 ^ (6 + 1) := by omega
                  have := (Nat.pow_lt_pow_iff_right (a := 2) (by omega)).1 h1
                  omega
                have HSS := Lib.hid hs
                have HO := Lib.hid ho
                have HO2 := Lib.hid ho2
                have HLO := Lib.hid hlo
                have HLL := Lib.hid hll
                have HLU := Lib.hid hlu
                clear hso how hs ho hcvs ho2 hvb hvc hlo hll hlu
                go_wp2_with fail
                refine (KL.out _).mono ?_
                rintro e w5 ⟨rfl, rfl⟩
                go_wp2_with fail
                have hbt : bitsF cs 6 i = 6 - lo := by unfold bitsF; rw [show (2 : Nat) ^ 6 = 64 from rfl, HO.out, HLO.out]
                have hbs : baseF cs 6 i = o * 2 ^ (6 - lo) - 64 := by unfold baseF; rw [hbt, show (2 : Nat) ^ 6 = 64 from rfl, HO.out]
                have e1 : (6 : Int) - (lo : Int) = ((6 - lo : Nat) : Int) := by omega
                have e2 : (o : Int) + 1 = ((o + 1 : Nat) : Int) := by omega
                refine ⟨⟨i + 1, by omega, by go_num, ?_⟩, by simp [intOf]; omega⟩
                rw [base_val o lo 6 64 rfl HLL.out HLU.out (by omega) hlo6 64 rfl, e1, e2]
                have h := ((HTi.out.setN s (.int .i64 (o + 1 : Nat))).setT (i * 3 + 1) (.int .i64 (6 - lo : Nat)) (stV_b _ _ _ i (6 - lo) _)).setT (i * 3 + 2) (.int .i64 (o * 2 ^ (6 - lo) - 64 : Nat)) (stV_c _ _ _ i (o * 2 ^ (6 - lo) - 64) _)
                rw [upd_upto (bitsF cs 6) i _ hbt, upd_upto (baseF cs 6) i _ hbs] at h
                exact h.cgN (nxW_step cs 64 i s o m HSS.out HO2.out)
              · obtain rfl : i = 64 := by omega
                have o0 : wr.cell? ⟨w.heap.size + 1 + 1, 0, none⟩ = some (.int .i64 6) := cell_of_row wr _ 0 _ _ (0, 0) HTi.out.2.2.1
                have o1 : wr.cell? ⟨w.heap.size + 1 + 1, 1, none⟩ = some (.slice (some ⟨w.heap.size + 1, 0, none⟩) 64 64) := cell_of_row wr _ 1 _ _ (0, 0) HTi.out.2.2.1
                have r0 : wr.cell? ⟨w.heap.size, 0, none⟩ = some (.int .i64 0) := cell_of_row wr _ 0 _ _ (0, 0) HTi.out.2.2.2.1
                have r1 : wr.cell? ⟨w.heap.size, 1, none⟩ = some (.slice none 0 0) := cell_of_row wr _ 1 _ _ (0, 0) HTi.out.2.2.2.1
                have g0 : wr.frozen? ⟨w.heap.size, 0, none⟩ = false := frozen_of_row wr _ 0 _ _ HTi.out.2.2.2.1
                have g1 : wr.frozen? ⟨w.heap.size, 1, none⟩ = false := frozen_of_row wr _ 1 _ _ HTi.out.2.2.2.1
                go_wp2_with fail
                refine bodyPost_ret (v := .agg #[.int .i64 6, .slice (some ⟨w.heap.size + 1, 0, none⟩) 64 64]) (by simp [results, Tryf.results38, go_sem, r0, r1]) rfl ?_
                have hb1 : Below w.heap.size w ((wr.setCell ⟨w.heap.size, 0, none⟩ (.int .i64 6)).setCell ⟨w.heap.size, 1, none⟩ (.slice (some ⟨w.heap.size + 1, 0, none⟩) 64 64)) := (HTi.out.2.2.2.2.setCell (by simp) _).setCell (by simp) _
                refine ⟨w.heap.size + 1, by omega, rfl, ?_, hb1⟩
                refine ((HTi.out.1.other _ (by simp)).other _ (by simp)).congr fun k hk => ?_
                have hk3 : k / 3 < 64 := by omega
                have h3 := sym_ok cs 64 HL.out HS.out (by omega) (k / 3) hk3
                rw [HM.out] at h3
                unfold stV
                simp only [hk3, if_true]
                rw [show cv (symF cs 64 (k / 3)) = symF cs 64 (k / 3) by unfold cv; rw [if_neg (by omega)]]
theorem zTableOf_any {w : World} {G m c lg S : Nat} {cs : List Int} (hlg : lg = 5 ∧ S = 32 ∨ lg = 6 ∧ S = 64) (hG : G < w.heap.size) (hm : cs.length = m) (hm1 : 1 ≤ m) (hm2 : m ≤ 256)
    (hcs : ∀ k, k < m → w.cell? ⟨G, k, none⟩ = some (.int .i64 (cs.getD k 0))) (hl : Least cs) (hs : sumA cs = S) :
    Calls Tryf.prog 38 #[.slice (some ⟨G, 0, none⟩) m c, .int .i64 (lg : Nat)] w (TabPost w cs lg) := by
  rcases hlg with ⟨rfl, rfl⟩ | ⟨rfl, rfl⟩
  · exact zTableOf_5 hG hm hm1 hm2 hcs hl hs
  · exact zTableOf_6 hG hm hm1 hm2 hcs hl hs
end Go.Proofs.YthkklojjpgjiiaaFmt
