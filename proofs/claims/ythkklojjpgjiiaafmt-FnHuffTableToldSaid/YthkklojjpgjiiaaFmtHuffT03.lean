/-
  spec.zBackOf: a reader of bits backwards. Conditions: those of the theorem.
  A block known by its cells: what a store, a new block, another block's store do to it. Plain lemmas; conditions: those of each.
  The table of chances, plain: where the symbols lie, how often, and what a state asks for. Conditions: those of each.
-/
import Derived.Test.YthkklojjpgjiiaaFmtHuffT02
namespace Go.Proofs.YthkklojjpgjiiaaFmt
open Go.RowKit

/-- the byte that a stream ends with -/
def lastB (l : List UInt8) : Nat := (l.getD (l.length - 1) 0).toNat
/-- how many bits a stream has -/
def backL (l : List UInt8) : Nat := 8 * (l.length - 1) + (lastB l).log2
def BackPost (w : World) (A : Option Addr) (n c : Nat) (l : List UInt8) (e : Ending) (w' : World) : Prop :=
  ((l = [] ∨ lastB l = 0) ∧ e = .returned (.tuple #[.pointer none, .bool false]) ∧ w = w') ∨
  (l ≠ [] ∧ lastB l ≠ 0 ∧ e = .returned (.tuple #[.pointer (some ⟨w.heap.size, 0, none⟩), .bool true]) ∧ w' = w.alloc (.cells #[.slice A n c, .int .i64 (backL l : Nat)] 133))
theorem bit_last (l : List UInt8) (n k : Nat) (hl : l.length = n) (hn : 0 < n) (hk : k < 8) : bitAt l (8 * (n - 1) + k) = lastB l / 2 ^ k % 2 := by
  unfold bitAt lastB
  rw [show (8 * (n - 1) + k) / 8 = l.length - 1 by omega, show (8 * (n - 1) + k) % 8 = k by omega]

set_option maxRecDepth 100000 in
set_option maxHeartbeats 1600000 in
theorem zBackOf_any {w : World} {B : Nat} {A : Option Addr} {n c : Nat} {l : List UInt8} (hs : Sl w B A n c l) (hn : n ≤ 130) :
    Calls Tryf.prog 37 #[.slice A n c] w (BackPost w A n c l) := by
  have HS := Lib.hid hs
  have hnl := hs.len
  have HNL := Lib.hid hnl
  by_cases hn0 : n = 0
  · subst hn0
    clear hs hnl
    go_enter Tryf.func37, Tryf.ntmps37
    go_wp2_with fail
    go_ret2
    exact .inl ⟨.inl (List.length_eq_zero_iff.1 HNL.out), rfl, rfl⟩
  · have hnd : ((n : Int) == 0) = false := by simpa using hn0
    obtain ⟨g, o, rfl, _, hc⟩ := hs.at_ (by omega)
    have k0 := hc (n - 1) (by omega)
    obtain ⟨v, hv⟩ : ∃ v, (l[n - 1]'(by omega)).toNat = v := ⟨_, rfl⟩
    have hv256 : v < 256 := by rw [← hv]; exact UInt8.toNat_lt _
    rw [hv] at k0
    have hlb : lastB l = v := by
      unfold lastB
      rw [hnl, List.getD_eq_getElem?_getD, List.getElem?_eq_getElem (by omega), Option.getD_some, hv]
    have HLB := Lib.hid hlb
    have HV := Lib.hid hv256
    have e1 : wrap64 ((n : Int) - 1) = ((n - 1 : Nat) : Int) := by unfold wrap64; omega
    have hcc := hs.cap
    have hcm := hs.most
    clear hs hnl hc hv hlb hv256
    by_cases hv0 : v = 0
    · subst hv0
      go_enter Tryf.func37, Tryf.ntmps37
      go_wp2_with fail
      go_ret2
      exact .inl ⟨.inr HLB.out, rfl, rfl⟩
    · have hve : ((v : Int) == 0) = false := by simpa using hv0
      have hv1 : 1 ≤ v := by omega
      have HV1 := Lib.hid hv1
      have hne : l ≠ [] := by have := HNL.out; intro h; rw [h] at this; simp at this; omega
      have HNE := Lib.hid hne
      clear hv0 hv1 hne
      go_enter Tryf.func37, Tryf.ntmps37
      go_wp2_with fail
      go_loop [4] (fun lv => ∃ p k : Nat, k < 8 ∧ lv = .int .i64 (p : Nat) ∧ 8 * (n - 1) + k = p ∧ v < 2 ^ (k + 1)) (fun lv => (intOf lv).toNat)
      case atStart => exact ⟨8 * (n - 1) + 7, 7, by omega, congrArg (Value.int .i64) (by omega), rfl, HV.out⟩
      case round =>
        obtain ⟨p, k, hk, rfl, hp, hvk⟩ := hrel
        have hb := bit_last l n k HNL.out (by omega) hk
        rw [HLB.out] at hb
        rw [hp] at hb
        have KB := zBit_any HS.out (p : Int) p rfl (by omega)
        rw [hb] at KB
        have HVK := Lib.hid hvk
        have HK := Lib.hid hk
        have HP := Lib.hid hp
        have hpb : p ≤ 2000 := by omega
        rcases (show v / 2 ^ k % 2 = 0 ∨ v / 2 ^ k % 2 = 1 by omega) with h0 | h1
        · rw [h0] at KB
          have HKB := Lib.hid KB
          have hlt : v < 2 ^ k := by
            have h3 : v / 2 ^ k < 2 := by rw [Nat.div_lt_iff_lt_mul (Nat.two_pow_pos k), Nat.mul_comm, ← Nat.pow_succ]; exact hvk
            have h4 : v / 2 ^ k = 0 := by generalize v / 2 ^ k = z at *; omega
            rcases Nat.lt_or_ge v (2 ^ k) with h | h
            · exact h
            · have := Nat.div_pos h (Nat.two_pow_pos k); omega
          have hk0 : 0 < k := by
            rcases Nat.eq_zero_or_pos k with h | h
            · subst h; have := HV1.out; omega
            · exact h
          have HLT := Lib.hid hlt
          have hpk : 1 ≤ p := by omega
          have ep : (p : Int) - 1 = ((p - 1 : Nat) : Int) := by omega
          have HEP := Lib.hid ep
          clear KB hb h0 hvk hk hp hlt ep
          go_wp2_with fail
          refine HKB.out.mono ?_
          rintro e w1 ⟨rfl, rfl⟩
          go_wp2_with fail
          refine ⟨⟨p - 1, k - 1, by have := HK.out; omega, congrArg (Value.int .i64) HEP.out, by have := HP.out; omega, by rw [show k - 1 + 1 = k by omega]; exact HLT.out⟩, ?_⟩
          have := HEP.out
          have := HP.out
          simp only [intOf]
          omega
        · rw [h1] at KB
          have HKB := Lib.hid KB
          have HH1 := Lib.hid h1
          clear KB hb h1 hvk hk hp
          go_wp2_with fail
          refine HKB.out.mono ?_
          rintro e w1 ⟨rfl, rfl⟩
          go_wp2_with fail
          go_ret2
          have hL : v.log2 = k := by
            have h1 := HV1.out
            refine (Nat.log2_eq_iff (by omega)).2 ⟨?_, HVK.out⟩
            rcases Nat.lt_or_ge v (2 ^ k) with h | h
            · have := HH1.out
              rw [Nat.div_eq_of_lt h] at this
              omega
            · exact h
          have hbl : backL l = p := by
            unfold backL
            rw [HNL.out, HLB.out, hL, HP.out]
          refine .inr ⟨HNE.out, by have := HV1.out; rw [HLB.out]; omega, rfl, ?_⟩
          rw [hbl]
end Go.Proofs.YthkklojjpgjiiaaFmt
namespace Go.Proofs.YthkklojjpgjiiaaFmt
open Go.RowKit

/-- block g has N cells of type T, cell k holds f k -/
def RowF (w : World) (g : Nat) (T : TypeId) (N : Nat) (f : Nat → Value) : Prop :=
  ∃ arr : Array Value, w.heap[g]? = some (.cells arr T (0, 0)) ∧ arr.size = N ∧ ∀ k, k < N → arr[k]? = some (f k)
def updV (f : Nat → Value) (p : Nat) (v : Value) : Nat → Value := fun k => if k = p then v else f k
section
variable {w w' : World} {g : Nat} {T : TypeId} {N : Nat} {f f' : Nat → Value}
theorem RowF.cell (h : RowF w g T N f) (k : Nat) (hk : k < N) : w.cell? ⟨g, k, none⟩ = some (f k) := by
  obtain ⟨arr, h1, h2, h3⟩ := h
  simp only [World.cell?, h1]
  exact h3 k hk
theorem RowF.cellv (h : RowF w g T N f) (k : Nat) (hk : k < N) (v : Value) (hv : f k = v) : w.cell? ⟨g, k, none⟩ = some v := hv ▸ h.cell k hk
theorem RowF.frozen (h : RowF w g T N f) (k : Nat) : w.frozen? ⟨g, k, none⟩ = false := by
  obtain ⟨arr, h1, _, _⟩ := h
  simp [World.frozen?, h1]
theorem RowF.lt (h : RowF w g T N f) : g < w.heap.size := by
  obtain ⟨arr, h1, _, _⟩ := h
  rcases Nat.lt_or_ge g w.heap.size with hlt | hge
  · exact hlt
  · rw [Array.getElem?_eq_none hge] at h1; cases h1
theorem RowF.congr (h : RowF w g T N f) (he : ∀ k, k < N → f k = f' k) : RowF w g T N f' := by
  obtain ⟨arr, h1, h2, h3⟩ := h
  exact ⟨arr, h1, h2, fun k hk => by rw [h3 k hk, he k hk]⟩
theorem RowF.same (h : RowF w g T N f) (he : w'.heap[g]? = w.heap[g]?) : RowF w' g T N f := by
  obtain ⟨arr, h1, h2, h3⟩ := h
  exact ⟨arr, by rw [he]; exact h1, h2, h3⟩
theorem RowF.alloc (h : RowF w g T N f) (o : Obj) : RowF (w.alloc o) g T N f := h.same (Below.heap_alloc w o g h.lt)
theorem RowF.below (h : RowF w g T N f) {B : Nat} (hb : Below B w w') (hg : g < B) : RowF w' g T N f := h.same (hb.block g hg)
theorem RowF.drewN (h : RowF w g T N f) (q : Nat) : RowF (w.drewN q) g T N f := h
theorem RowF.other (h : RowF w g T N f) {p : Addr} (v : Value) (hp : p.block ≠ g) : RowF (w.setCell p v) g T N f := by
  refine h.same ?_
  simp [World.setCell, Array.getElem?_modify, hp]
theorem RowF.set_ (h : RowF w g T N f) (k : Nat) (v : Value) : RowF (w.setCell ⟨g, k, none⟩ v) g T N (updV f k v) := by
  obtain ⟨arr, h1, h2, h3⟩ := h
  refine ⟨arr.setIfInBounds k v, ?_, by simp [h2], fun j hj => ?_⟩
  · simp [World.setCell, Array.getElem?_modify, h1]
  · unfold updV
    by_cases hjk : j = k
    · subst hjk; rw [if_pos rfl, Array.getElem?_setIfInBounds_self_of_lt (by omega)]
    · rw [if_neg hjk, Array.getElem?_setIfInBounds_ne (Ne.symm hjk)]; exact h3 j hj
theorem RowF.new (w : World) (arr : Array Value) (T : TypeId) (f : Nat → Value) (h : ∀ k, k < arr.size → arr[k]? = some (f k)) : RowF (w.alloc (.cells arr T)) w.heap.size T arr.size f :=
  ⟨arr, heap_alloc_new _ _, rfl, h⟩
theorem setCell_size (p : Addr) (v : Value) : (w.setCell p v).heap.size = w.heap.size := by simp
theorem setCell_heap {p : Addr} (v : Value) {k : Nat} (h : k ≠ p.block) : (w.setCell p v).heap[k]? = w.heap[k]? := by
  simp [World.setCell, Array.getElem?_modify, Ne.symm h]
end

/-- the cells that make lays: the zero's cells over and over -/
theorem madeCells_get (z : Array Value) (n k : Nat) (hk : k < n) : (madeCells z n)[k]? = some z[k % z.size]! := by
  unfold madeCells
  simp [hk]
theorem make_run (t e : TypeId) (z : Value) (size bytes : Nat) (ht : Tryf.prog.underlying t = some (.slice e)) (hi : (Tryf.prog.info? e).map (fun i => (i.zero, i.size, i.bytes)) = some (some z, size, bytes))
    (n : Nat) (ni mi : Int) (hn : ni = n) (hm : mi = n) (hb : bytes * n ≤ 1000000) (hb1 : 1 ≤ bytes) (w : World) :
    (Instr.makeSlice t (.int .i64 ni) (.int .i64 mi)).run Tryf.prog w = .ok (.slice (some ⟨w.heap.size, 0, none⟩) n n) (w.alloc (.cells (madeCells z.cells (n * size)) e)) := by
  obtain ⟨i, h1, h2, h3, h4⟩ := info_parts hi
  subst hn
  subst hm
  have hn2 : n ≤ 1000000 := Nat.le_trans (Nat.le_mul_of_pos_left n hb1) hb
  have h := run_make (P := Tryf.prog) w t e i z ht h1 h2 .i64 .i64 n n (by omega) (Int.le_refl _) (by rw [h4]; have h5 : ((bytes * n : Nat) : Int) ≤ 1000000 := (by omega); rw [Int.natCast_mul] at h5; omega) (by omega)
  simp only [Int.toNat_natCast] at h
  rw [h3] at h
  exact h
end Go.Proofs.YthkklojjpgjiiaaFmt
namespace Go.Proofs.YthkklojjpgjiiaaFmt

def stepOf (S : Nat) : Nat := S / 2 + S / 8 + 3
def nxF (S high : Nat) : Nat → Nat → Nat
  | 0, a => a
  | m + 1, a => if (a + stepOf S) % S < high then (a + stepOf S) % S else nxF S high m ((a + stepOf S) % S)
/-- the place behind a place -/
def nextAt (S high a : Nat) : Nat := nxF S high S a
/-- the place of the T-th symbol -/
def orb (S high : Nat) : Nat → Nat
  | 0 => 0
  | t + 1 => nextAt S high (orb S high t)
def orbL (S high : Nat) : Nat → Nat → List Nat
  | 0, _ => []
  | n + 1, a => a :: orbL S high n (nextAt S high a)
theorem orbL_get (S high : Nat) : ∀ (n t j : Nat), j < n → (orbL S high n (orb S high t))[j]? = some (orb S high (t + j))
  | 0, _, _, h => by omega
  | n + 1, t, 0, _ => rfl
  | n + 1, t, j + 1, h => by
    rw [show t + (j + 1) = t + 1 + j by omega]
    exact orbL_get S high n (t + 1) j (by omega)
theorem orbL_length (S high : Nat) : ∀ (n a : Nat), (orbL S high n a).length = n
  | 0, _ => rfl
  | n + 1, a => by simp [orbL, orbL_length S high n]
def chk (S high : Nat) : Bool :=
  let L := orbL S high (high + 1) 0
  L.getD high 1 == 0 && (L.take high).all (· < high) && (List.range high).all fun i => (L.take high).contains i
theorem chk32 : (List.range 33).all (fun h => h == 0 || chk 32 h) = true := by decide +kernel
theorem chk64 : (List.range 65).all (fun h => h == 0 || chk 64 h) = true := by decide +kernel
theorem chk_all (S high : Nat) (hS : S = 32 ∨ S = 64) (h0 : 0 < high) (h : high ≤ S) : chk S high = true := by
  rcases hS with rfl | rfl
  · have := List.all_eq_true.1 chk32 high (List.mem_range.2 (by omega))
    simpa [show (high == 0) = false by simp; omega] using this
  · have := List.all_eq_true.1 chk64 high (List.mem_range.2 (by omega))
    simpa [show (high == 0) = false by simp; omega] using this
section
variable (S high : Nat) (hS : S = 32 ∨ S = 64) (h0 : 0 < high) (h : high ≤ S)
include hS h0 h
theorem orb_end : orb S high high = 0 := by
  have hc := chk_all S high hS h0 h
  simp only [chk, Bool.and_eq_true] at hc
  have h1 := hc.1.1
  rw [List.getD_eq_getElem?_getD, show (0 : Nat) = orb S high 0 from rfl, orbL_get S high (high + 1) 0 high (by omega)] at h1
  exact show orb S high high = orb S high 0 by simpa using h1
theorem orb_lt (t : Nat) (ht : t < high) : orb S high t < high := by
  have hc := chk_all S high hS h0 h
  simp only [chk, Bool.and_eq_true] at hc
  have h1 := List.all_eq_true.1 hc.1.2 (orb S high t) (by
    rw [List.mem_iff_getElem?]
    refine ⟨t, ?_⟩
    rw [List.getElem?_take_of_lt ht]
    have := orbL_get S high (high + 1) 0 t (by omega)
    rwa [Nat.zero_add] at this)
  simpa using h1
theorem orb_hit (i : Nat) (hi : i < high) : ∃ t, t < high ∧ orb S high t = i := by
  have hc := chk_all S high hS h0 h
  simp only [chk, Bool.and_eq_true] at hc
  have h1 := List.all_eq_true.1 hc.2 i (List.mem_range.2 hi)
  rw [List.contains_iff_mem] at h1
  obtain ⟨t, ht⟩ := List.mem_iff_getElem?.1 h1
  have htl : t < high := by
    have := (List.getElem?_eq_some_iff.1 ht).1
    simp [orbL_length] at this
    omega
  refine ⟨t, htl, ?_⟩
  rw [List.getElem?_take_of_lt htl] at ht
  have h2 := orbL_get S high (high + 1) 0 t (by omega)
  rw [Nat.zero_add] at h2
  rw [show orb S high 0 = 0 from rfl] at h2
  rw [ht] at h2
  injection h2 with h2
  exact h2.symm
theorem orb_le (t : Nat) (ht : t ≤ high) : orb S high t < high := by
  rcases Nat.lt_or_eq_of_le ht with h1 | h1
  · exact orb_lt S high hS h0 h t h1
  · rw [h1, orb_end S high hS h0 h]; exact h0
end

def upd (f : Nat → Nat) (p v : Nat) : Nat → Nat := fun x => if x = p then v else f x
/-- the places of the symbols with less than one part: how many places are left, and what lies where (1000: nothing yet) -/
def lowK (cs : List Int) (S : Nat) : Nat → Nat × (Nat → Nat)
  | 0 => (S, fun _ => 1000)
  | k + 1 => if cs.getD k 0 < 0 then ((lowK cs S k).1 - 1, upd (lowK cs S k).2 ((lowK cs S k).1 - 1) k) else lowK cs S k
def highF (cs : List Int) (S : Nat) : Nat := (lowK cs S cs.length).1
/-- each symbol as often as it has parts -/
def flatK (cs : List Int) : Nat → List Nat
  | 0 => []
  | k + 1 => flatK cs k ++ List.replicate (cs.getD k 0).toNat k
def preK (cs : List Int) (k : Nat) : Nat := (flatK cs k).length
def flatF (cs : List Int) : List Nat := flatK cs cs.length
def layT (cs : List Int) (S : Nat) : Nat → (Nat → Nat)
  | 0 => (lowK cs S cs.length).2
  | T + 1 => upd (layT cs S T) (orb S (highF cs S) T) ((flatF cs).getD T 0)
def symF (cs : List Int) (S : Nat) : Nat → Nat := layT cs S (flatF cs).length
def nxt (cs : List Int) (s : Nat) : Nat := if cs.getD s 0 < 0 then 1 else (cs.getD s 0).toNat
def cnt (f : Nat → Nat) (n s : Nat) : Nat := (List.range n).countP fun j => f j == s
def ownF (cs : List Int) (S i : Nat) : Nat := nxt cs (symF cs S i) + cnt (symF cs S) i (symF cs S i)
def bitsF (cs : List Int) (lg i : Nat) : Nat := lg - (ownF cs (2 ^ lg) i).log2
def baseF (cs : List Int) (lg i : Nat) : Nat := ownF cs (2 ^ lg) i * 2 ^ bitsF cs lg i - 2 ^ lg
def LoopsF (cs : List Int) (lg : Nat) : Prop := ∃ i, i < 2 ^ lg ∧ bitsF cs lg i = 0 ∧ baseF cs lg i = i

/-- parts of the first k symbols with less than one part -/
def negK (cs : List Int) : Nat → Nat
  | 0 => 0
  | k + 1 => negK cs k + (if cs.getD k 0 < 0 then 1 else 0)
theorem negK_succ (cs : List Int) (k : Nat) : negK cs (k + 1) = negK cs k + (if cs.getD k 0 < 0 then 1 else 0) := rfl
theorem lowK_fst (cs : List Int) (S : Nat) : ∀ k, (lowK cs S k).1 = S - negK cs k
  | 0 => rfl
  | k + 1 => by
    have ih := lowK_fst cs S k
    unfold lowK negK
    split
    · show (lowK cs S k).1 - 1 = _
      rw [ih]; omega
    · rw [ih]; rfl
theorem preK_succ (cs : List Int) (k : Nat) : preK cs (k + 1) = preK cs k + (cs.getD k 0).toNat := by simp [preK, flatK]
theorem parts_take (cs : List Int) (hl : Least cs) : ∀ k, k ≤ cs.length → negK cs k + preK cs k = sumA (cs.take k)
  | 0, _ => rfl
  | k + 1, h => by
    have ih := parts_take cs hl k (by omega)
    have hk : k < cs.length := by omega
    have hg : cs.getD k 0 = cs[k] := by rw [List.getD_eq_getElem?_getD, List.getElem?_eq_getElem hk, Option.getD_some]
    have hm := hl cs[k] (List.getElem_mem hk)
    rw [List.take_succ_eq_append_getElem hk, sumA_append, sumA_one, preK_succ, ← ih, negK_succ, hg]
    split <;> omega
theorem parts_all (cs : List Int) (S : Nat) (hl : Least cs) (hs : sumA cs = S) : negK cs cs.length + (flatF cs).length = S := by
  have := parts_take cs hl cs.length (Nat.le_refl _)
  rw [List.take_length, hs] at this
  exact this
theorem high_eq (cs : List Int) (S : Nat) (hl : Least cs) (hs : sumA cs = S) : highF cs S = (flatF cs).length := by
  have := parts_all cs S hl hs
  unfold highF
  rw [lowK_fst]
  omega
theorem negK_le (cs : List Int) : ∀ k m, k ≤ m → negK cs k ≤ negK cs m := by
  intro k m h
  induction h with
  | refl => exact Nat.le_refl _
  | step _ ih => exact Nat.le_trans ih (by rw [negK_succ]; omega)
theorem preK_le (cs : List Int) : ∀ k m, k ≤ m → preK cs k ≤ preK cs m := by
  intro k m h
  induction h with
  | refl => exact Nat.le_refl _
  | @step m _ ih => exact Nat.le_trans ih (by rw [preK_succ]; omega)
/-- while a symbol with less than one part is still to come, a place is left -/
theorem low_pos (cs : List Int) (S k : Nat) (hl : Least cs) (hs : sumA cs = S) (hk : k < cs.length) (hc : cs.getD k 0 < 0) : 0 < (lowK cs S k).1 ∧ (lowK cs S k).1 ≤ S := by
  have h1 := negK_le cs (k + 1) cs.length (by omega)
  have h2 := parts_all cs S hl hs
  rw [lowK_fst]
  rw [negK_succ, if_pos hc] at h1
  omega
theorem flat_get (cs : List Int) (k j : Nat) (hk : k < cs.length) (hj : j < (cs.getD k 0).toNat) : (flatF cs).getD (preK cs k + j) 0 = k ∧ preK cs k + j < (flatF cs).length := by
  have h : ∀ m, k + 1 ≤ m → (flatK cs m)[preK cs k + j]? = some k := by
    intro m hm
    induction hm with
    | refl =>
      show (flatK cs k ++ List.replicate (cs.getD k 0).toNat k)[(flatK cs k).length + j]? = some k
      rw [List.getElem?_append_right (by omega), Nat.add_sub_cancel_left, List.getElem?_replicate, if_pos hj]
    | @step m hm ih =>
      show (flatK cs m ++ _)[_]? = _
      rw [List.getElem?_append_left (List.getElem?_eq_some_iff.1 ih).1, ih]
  have h2 := h cs.length (by omega)
  refine ⟨?_, (List.getElem?_eq_some_iff.1 h2).1⟩
  unfold flatF
  rw [List.getD_eq_getElem?_getD, h2, Option.getD_some]
theorem flat_mem (cs : List Int) : ∀ m, ∀ s ∈ flatK cs m, s < m ∧ 0 < cs.getD s 0
  | 0, s, h => by simp [flatK] at h
  | m + 1, s, h => by
    rcases List.mem_append.1 h with h1 | h1
    · have := flat_mem cs m s h1
      exact ⟨by omega, this.2⟩
    · obtain ⟨h2, h3⟩ := List.mem_replicate.1 h1
      subst h3
      exact ⟨by omega, by omega⟩
theorem cnt_upd (f : Nat → Nat) (p v n s : Nat) : cnt (upd f p v) n s ≤ cnt f n s + (if v = s then 1 else 0) := by
  induction n with
  | zero => simp [cnt]
  | succ n ih =>
    unfold cnt at *
    rw [List.range_succ, List.countP_append, List.countP_append, List.countP_singleton, List.countP_singleton]
    by_cases hp : n = p
    · subst hp
      have he : (List.range n).countP (fun j => upd f n v j == s) = (List.range n).countP (fun j => f j == s) := by
        refine List.countP_congr fun j hj => ?_
        have := List.mem_range.1 hj
        unfold upd
        rw [if_neg (by omega)]
      rw [he]
      have : upd f n v n = v := by simp [upd]
      rw [this]
      by_cases hv : v = s <;> simp [hv] <;> omega
    · have : upd f p v n = f n := by simp [upd, hp]
      rw [this]
      omega
theorem cnt_low (cs : List Int) (S s : Nat) (hs : s < 1000) : ∀ k n, cnt (lowK cs S k).2 n s ≤ if s < k ∧ cs.getD s 0 < 0 then 1 else 0
  | 0, n => by
    have : cnt (lowK cs S 0).2 n s = 0 := by
      unfold cnt
      rw [List.countP_eq_zero]
      intro j _
      simp [lowK]; omega
    omega
  | k + 1, n => by
    have ih := cnt_low cs S s hs k n
    unfold lowK
    split
    · rename_i hc
      have := cnt_upd (lowK cs S k).2 ((lowK cs S k).1 - 1) k n s
      show cnt (upd (lowK cs S k).2 ((lowK cs S k).1 - 1) k) n s ≤ _
      by_cases hk : k = s
      · subst hk
        rw [if_neg (by omega)] at ih
        rw [if_pos rfl] at this
        rw [if_pos ⟨by omega, hc⟩]
        omega
      · rw [if_neg hk] at this
        refine Nat.le_trans this (Nat.le_trans (by simpa using ih) ?_)
        split
        · rename_i h; rw [if_pos ⟨by omega, h.2⟩]; exact Nat.le_refl _
        · exact Nat.zero_le _
    · refine Nat.le_trans ih ?_
      split
      · rename_i h; rw [if_pos ⟨by omega, h.2⟩]; exact Nat.le_refl _
      · exact Nat.zero_le _
theorem cnt_lay (cs : List Int) (S s : Nat) (hs : s < 1000) (n : Nat) : ∀ T, T ≤ (flatF cs).length → cnt (layT cs S T) n s ≤ (if s < cs.length ∧ cs.getD s 0 < 0 then 1 else 0) + ((flatF cs).take T).count s
  | 0, _ => by simpa [layT] using cnt_low cs S s hs cs.length n
  | T + 1, h => by
    have ih := cnt_lay cs S s hs n T (by omega)
    have := cnt_upd (layT cs S T) (orb S (highF cs S) T) ((flatF cs).getD T 0) n s
    unfold layT
    rw [List.take_succ_eq_append_getElem (by omega), List.count_append, List.count_singleton]
    have hg : (flatF cs).getD T 0 = (flatF cs)[T]'(by omega) := by rw [List.getD_eq_getElem?_getD, List.getElem?_eq_getElem (by omega), Option.getD_some]
    rw [hg] at this
    have hb : (if ((flatF cs)[T]'(by omega) == s) = true then 1 else 0) = (if (flatF cs)[T]'(by omega) = s then 1 else 0) := by simp
    rw [hb]
    rw [← hg] at this ⊢
    omega
theorem flat_count (cs : List Int) (s : Nat) : ∀ m, (flatK cs m).count s = if s < m then (cs.getD s 0).toNat else 0
  | 0 => by simp [flatK]
  | m + 1 => by
    unfold flatK
    rw [List.count_append, flat_count cs s m, List.count_replicate]
    by_cases h : m = s
    · subst h; simp
    · have hb : (m == s) = false := by simpa using h
      rw [hb]
      by_cases h2 : s < m
      · rw [if_pos h2, if_pos (show s < m + 1 by omega)]; simp
      · rw [if_neg h2, if_neg (show ¬ s < m + 1 by omega)]; simp
theorem low_mem (cs : List Int) (S : Nat) : ∀ k i, (lowK cs S k).1 ≤ i → i < S → negK cs k ≤ S → (lowK cs S k).2 i < k ∧ cs.getD ((lowK cs S k).2 i) 0 < 0
  | 0, i, h, h2, _ => by exact absurd h2 (Nat.not_lt.2 h)
  | k + 1, i, h, h2, h3 => by
    have h4 := lowK_fst cs S k
    unfold lowK at h ⊢
    rw [negK_succ] at h3
    split
    · rename_i hc
      rw [if_pos hc] at h h3
      have h' : (lowK cs S k).1 - 1 ≤ i := h
      show upd (lowK cs S k).2 ((lowK cs S k).1 - 1) k i < k + 1 ∧ cs.getD (upd (lowK cs S k).2 ((lowK cs S k).1 - 1) k i) 0 < 0
      unfold upd
      by_cases he : i = (lowK cs S k).1 - 1
      · rw [if_pos he]; exact ⟨by omega, hc⟩
      · rw [if_neg he]
        have := low_mem cs S k i (by omega) h2 (by omega)
        exact ⟨by omega, this.2⟩
    · rename_i hc
      rw [if_neg hc] at h h3
      have := low_mem cs S k i h h2 (by omega)
      exact ⟨by omega, this.2⟩

theorem high_le (cs : List Int) (S : Nat) : highF cs S ≤ S := by unfold highF; rw [lowK_fst]; omega
theorem lay_high (cs : List Int) (S : Nat) (hS : S = 32 ∨ S = 64) (i : Nat) (hi : highF cs S ≤ i) : ∀ T, T ≤ highF cs S → layT cs S T i = (lowK cs S cs.length).2 i
  | 0, _ => rfl
  | T + 1, hT => by
    have ih := lay_high cs S hS i hi T (by omega)
    have hlt := orb_lt S (highF cs S) hS (by omega) (high_le cs S) T (by omega)
    unfold layT upd
    rw [if_neg (by omega), ih]
theorem lay_low (cs : List Int) (S : Nat) (i : Nat) : ∀ T, (∃ t, t < T ∧ orb S (highF cs S) t = i) → T ≤ (flatF cs).length → layT cs S T i ∈ flatF cs
  | 0, h, _ => by obtain ⟨t, h, _⟩ := h; omega
  | T + 1, h, hT => by
    unfold layT upd
    by_cases he : i = orb S (highF cs S) T
    · rw [if_pos he, List.getD_eq_getElem?_getD, List.getElem?_eq_getElem (by omega), Option.getD_some]
      exact List.getElem_mem _
    · rw [if_neg he]
      obtain ⟨t, ht, hte⟩ := h
      refine lay_low cs S i T ⟨t, ?_, hte⟩ (by omega)
      rcases Nat.lt_or_eq_of_le (Nat.le_of_lt_succ ht) with h1 | h1
      · exact h1
      · subst h1; exact absurd hte.symm he
/-- each state has a symbol with a chance -/
theorem sym_ok (cs : List Int) (S : Nat) (hl : Least cs) (hs : sumA cs = S) (hS : S = 32 ∨ S = 64) (i : Nat) (hi : i < S) : symF cs S i < cs.length ∧ cs.getD (symF cs S i) 0 ≠ 0 := by
  have hh := high_eq cs S hl hs
  rcases Nat.lt_or_ge i (highF cs S) with h1 | h1
  · have h2 := orb_hit S (highF cs S) hS (by omega) (high_le cs S) i h1
    rw [hh] at h2
    have h3 := lay_low cs S i (flatF cs).length (by rw [hh]; exact h2) (Nat.le_refl _)
    have h4 := flat_mem cs cs.length _ h3
    exact ⟨h4.1, by unfold symF; have := h4.2; omega⟩
  · have h2 := lay_high cs S hS i h1 (flatF cs).length (by rw [hh]; exact Nat.le_refl _)
    unfold symF
    rw [h2]
    have := low_mem cs S cs.length i h1 hi (by have := parts_all cs S hl hs; omega)
    exact ⟨this.1, by omega⟩
theorem sym_cnt (cs : List Int) (S : Nat) (hlen : cs.length ≤ 256) (s n : Nat) (h : s < cs.length) : cnt (symF cs S) n s ≤ (cs.getD s 0).natAbs := by
  have h1 := cnt_lay cs S s (by omega) n (flatF cs).length (Nat.le_refl _)
  rw [List.take_length] at h1
  have h2 : (flatF cs).count s = (cs.getD s 0).toNat := by unfold flatF; rw [flat_count, if_pos h]
  rw [h2] at h1
  unfold symF
  split at h1 <;> omega
theorem nxt_eq (cs : List Int) (hl : Least cs) (s : Nat) (h : s < cs.length) : nxt cs s = (cs.getD s 0).natAbs := by
  have hg : cs.getD s 0 = cs[s] := by rw [List.getD_eq_getElem?_getD, List.getElem?_eq_getElem h, Option.getD_some]
  have := hl cs[s] (List.getElem_mem h)
  unfold nxt
  rw [hg]
  split <;> omega
theorem abs_le (cs : List Int) (S : Nat) (hs : sumA cs = S) (s : Nat) (h : s < cs.length) : (cs.getD s 0).natAbs ≤ S := by
  have hg : cs.getD s 0 = cs[s] := by rw [List.getD_eq_getElem?_getD, List.getElem?_eq_getElem h, Option.getD_some]
  have h1 : sumA (cs.take (s + 1)) ≤ sumA cs := by
    have := sumA_append (cs.take (s + 1)) (cs.drop (s + 1))
    rw [List.take_append_drop] at this
    omega
  rw [List.take_succ_eq_append_getElem h, sumA_append, sumA_one] at h1
  rw [hg]
  omega
theorem own_facts (cs : List Int) (S : Nat) (hl : Least cs) (hs : sumA cs = S) (hS : S = 32 ∨ S = 64) (hlen : cs.length ≤ 256) (i : Nat) (hi : i < S) : 1 ≤ ownF cs S i ∧ ownF cs S i < 2 * (cs.getD (symF cs S i) 0).natAbs ∧ ownF cs S i < 2 * S := by
  have h1 := sym_ok cs S hl hs hS i hi
  have h2 := sym_cnt cs S hlen (symF cs S i) (i + 1) h1.1
  have h3 := nxt_eq cs hl (symF cs S i) h1.1
  have h4 := abs_le cs S hs (symF cs S i) h1.1
  have h5 : cnt (symF cs S) (i + 1) (symF cs S i) = cnt (symF cs S) i (symF cs S i) + 1 := by
    unfold cnt
    rw [List.range_succ, List.countP_append, List.countP_singleton]
    simp
  unfold ownF
  omega
theorem cnt_le (f : Nat → Nat) (n s : Nat) : cnt f n s ≤ n := by
  unfold cnt
  have := List.countP_le_length (p := fun j => f j == s) (l := List.range n)
  rwa [List.length_range] at this
theorem cnt_succ (f : Nat → Nat) (n s : Nat) : cnt f (n + 1) s = cnt f n s + (if f n = s then 1 else 0) := by
  unfold cnt
  rw [List.range_succ, List.countP_append, List.countP_singleton]
  by_cases h : f n = s <;> simp [h]
end Go.Proofs.YthkklojjpgjiiaaFmt
