/-
  spec.zBackOf: a reader of bits backwards. Conditions: those of the theorem.
  A block known by its cells: what a store, a new block, another block's store do to it. Plain lemmas; conditions: those of each.
-/
import Derived.Test.YthkklojjpgjiiaaFmtCodeT09
namespace Go.Proofs.YthkklojjpgjiiaaFmt
open Go.RowKit

/-- the byte that a stream ends with -/
def lastB (l : List UInt8) : Nat := (l.getD (l.length - 1) 0).toNat
/-- how many bits a stream has -/
def backL (l : List UInt8) : Nat := 8 * (l.length - 1) + (lastB l).log2
def BackPost (w : World) (A : Option Addr) (n c : Nat) (l : List UInt8) (e : Ending) (w' : World) : Prop :=
  ((l = [] ∨ lastB l = 0) ∧ e = .returned (.tuple #[.pointer none, .bool false]) ∧ w = w') ∨
  (l ≠ [] ∧ lastB l ≠ 0 ∧ e = .returned (.tuple #[.pointer (some ⟨w.heap.size, 0, none⟩), .bool true]) ∧ w' = w.alloc (.cells #[.slice A n c, .int .i64 (backL l : Nat)] 133))
theorem bit_last (l : List UInt8) (n k : Nat) (hl : l.length = n) (hn : 0 < n) (hk : k < 8) : bitAt l (8 * (n - 1) + k) = lastB l / 2 ^ k % 2 := by
  unfold bitAt lastB
  rw [show (8 * (n - 1) + k) / 8 = l.length - 1 by omega, show (8 * (n - 1) + k) % 8 = k by omega]

set_option maxRecDepth 100000 in
set_option maxHeartbeats 1600000 in
theorem zBackOf_any {w : World} {B : Nat} {A : Option Addr} {n c : Nat} {l : List UInt8} (hs : Sl w B A n c l) (hn : n ≤ 130) :
    Calls Tryf.prog 37 #[.slice A n c] w (BackPost w A n c l) := by
  have HS := Lib.hid hs
  have hnl := hs.len
  have HNL := Lib.hid hnl
  by_cases hn0 : n = 0
  · subst hn0
    clear hs hnl
    go_enter Tryf.func37, Tryf.ntmps37
    go_wp2_with fail
    go_ret2
    exact .inl ⟨.inl (List.length_eq_zero_iff.1 HNL.out), rfl, rfl⟩
  · have hnd : ((n : Int) == 0) = false := by simpa using hn0
    obtain ⟨g, o, rfl, _, hc⟩ := hs.at_ (by omega)
    have k0 := hc (n - 1) (by omega)
    obtain ⟨v, hv⟩ : ∃ v, (l[n - 1]'(by omega)).toNat = v := ⟨_, rfl⟩
    have hv256 : v < 256 := by rw [← hv]; exact UInt8.toNat_lt _
    rw [hv] at k0
    have hlb : lastB l = v := by
      unfold lastB
      rw [hnl, List.getD_eq_getElem?_getD, List.getElem?_eq_getElem (by omega), Option.getD_some, hv]
    have HLB := Lib.hid hlb
    have HV := Lib.hid hv256
    have e1 : wrap64 ((n : Int) - 1) = ((n - 1 : Nat) : Int) := by unfold wrap64; omega
    have hcc := hs.cap
    have hcm := hs.most
    clear hs hnl hc hv hlb hv256
    by_cases hv0 : v = 0
    · subst hv0
      go_enter Tryf.func37, Tryf.ntmps37
      go_wp2_with fail
      go_ret2
      exact .inl ⟨.inr HLB.out, rfl, rfl⟩
    · have hve : ((v : Int) == 0) = false := by simpa using hv0
      have hv1 : 1 ≤ v := by omega
      have HV1 := Lib.hid hv1
      have hne : l ≠ [] := by have := HNL.out; intro h; rw [h] at this; simp at this; omega
      have HNE := Lib.hid hne
      clear hv0 hv1 hne
      go_enter Tryf.func37, Tryf.ntmps37
      go_wp2_with fail
      go_loop [4] (fun lv => ∃ p k : Nat, k < 8 ∧ lv = .int .i64 (p : Nat) ∧ 8 * (n - 1) + k = p ∧ v < 2 ^ (k + 1)) (fun lv => (intOf lv).toNat)
      case atStart => exact ⟨8 * (n - 1) + 7, 7, by omega, congrArg (Value.int .i64) (by omega), rfl, HV.out⟩
      case round =>
        obtain ⟨p, k, hk, rfl, hp, hvk⟩ := hrel
        have hb := bit_last l n k HNL.out (by omega) hk
        rw [HLB.out] at hb
        rw [hp] at hb
        have KB := zBit_any HS.out (p : Int) p rfl (by omega)
        rw [hb] at KB
        have HVK := Lib.hid hvk
        have HK := Lib.hid hk
        have HP := Lib.hid hp
        have hpb : p ≤ 2000 := by omega
        rcases (show v / 2 ^ k % 2 = 0 ∨ v / 2 ^ k % 2 = 1 by omega) with h0 | h1
        · rw [h0] at KB
          have HKB := Lib.hid KB
          have hlt : v < 2 ^ k := by
            have h3 : v / 2 ^ k < 2 := by rw [Nat.div_lt_iff_lt_mul (Nat.two_pow_pos k), Nat.mul_comm, ← Nat.pow_succ]; exact hvk
            have h4 : v / 2 ^ k = 0 := by generalize v / 2 ^ k = z at *; omega
            rcases Nat.lt_or_ge v (2 ^ k) with h | h
            · exact h
            · have := Nat.div_pos h (Nat.two_pow_pos k); omega
          have hk0 : 0 < k := by
            rcases Nat.eq_zero_or_pos k with h | h
            · subst h; have := HV1.out; omega
            · exact h
          have HLT := Lib.hid hlt
          have hpk : 1 ≤ p := by omega
          have ep : (p : Int) - 1 = ((p - 1 : Nat) : Int) := by omega
          have HEP := Lib.hid ep
          clear KB hb h0 hvk hk hp hlt ep
          go_wp2_with fail
          refine HKB.out.mono ?_
          rintro e w1 ⟨rfl, rfl⟩
          go_wp2_with fail
          refine ⟨⟨p - 1, k - 1, by have := HK.out; omega, congrArg (Value.int .i64) HEP.out, by have := HP.out; omega, by rw [show k - 1 + 1 = k by omega]; exact HLT.out⟩, ?_⟩
          have := HEP.out
          have := HP.out
          simp only [intOf]
          omega
        · rw [h1] at KB
          have HKB := Lib.hid KB
          have HH1 := Lib.hid h1
          clear KB hb h1 hvk hk hp
          go_wp2_with fail
          refine HKB.out.mono ?_
          rintro e w1 ⟨rfl, rfl⟩
          go_wp2_with fail
          go_ret2
          have hL : v.log2 = k := by
            have h1 := HV1.out
            refine (Nat.log2_eq_iff (by omega)).2 ⟨?_, HVK.out⟩
            rcases Nat.lt_or_ge v (2 ^ k) with h | h
            · have := HH1.out
              rw [Nat.div_eq_of_lt h] at this
              omega
            · exact h
          have hbl : backL l = p := by
            unfold backL
            rw [HNL.out, HLB.out, hL, HP.out]
          refine .inr ⟨HNE.out, by have := HV1.out; rw [HLB.out]; omega, rfl, ?_⟩
          rw [hbl]
end Go.Proofs.YthkklojjpgjiiaaFmt
namespace Go.Proofs.YthkklojjpgjiiaaFmt
open Go.RowKit

/-- block g has N cells of type T, cell k holds f k -/
def RowF (w : World) (g : Nat) (T : TypeId) (N : Nat) (f : Nat → Value) : Prop :=
  ∃ arr : Array Value, w.heap[g]? = some (.cells arr T (0, 0)) ∧ arr.size = N ∧ ∀ k, k < N → arr[k]? = some (f k)
def updV (f : Nat → Value) (p : Nat) (v : Value) : Nat → Value := fun k => if k = p then v else f k
section
variable {w w' : World} {g : Nat} {T : TypeId} {N : Nat} {f f' : Nat → Value}
theorem RowF.cell (h : RowF w g T N f) (k : Nat) (hk : k < N) : w.cell? ⟨g, k, none⟩ = some (f k) := by
  obtain ⟨arr, h1, h2, h3⟩ := h
  simp only [World.cell?, h1]
  exact h3 k hk
theorem RowF.cellv (h : RowF w g T N f) (k : Nat) (hk : k < N) (v : Value) (hv : f k = v) : w.cell? ⟨g, k, none⟩ = some v := hv ▸ h.cell k hk
theorem RowF.frozen (h : RowF w g T N f) (k : Nat) : w.frozen? ⟨g, k, none⟩ = false := by
  obtain ⟨arr, h1, _, _⟩ := h
  simp [World.frozen?, h1]
theorem RowF.lt (h : RowF w g T N f) : g < w.heap.size := by
  obtain ⟨arr, h1, _, _⟩ := h
  rcases Nat.lt_or_ge g w.heap.size with hlt | hge
  · exact hlt
  · rw [Array.getElem?_eq_none hge] at h1; cases h1
theorem RowF.congr (h : RowF w g T N f) (he : ∀ k, k < N → f k = f' k) : RowF w g T N f' := by
  obtain ⟨arr, h1, h2, h3⟩ := h
  exact ⟨arr, h1, h2, fun k hk => by rw [h3 k hk, he k hk]⟩
theorem RowF.same (h : RowF w g T N f) (he : w'.heap[g]? = w.heap[g]?) : RowF w' g T N f := by
  obtain ⟨arr, h1, h2, h3⟩ := h
  exact ⟨arr, by rw [he]; exact h1, h2, h3⟩
theorem RowF.alloc (h : RowF w g T N f) (o : Obj) : RowF (w.alloc o) g T N f := h.same (Below.heap_alloc w o g h.lt)
theorem RowF.below (h : RowF w g T N f) {B : Nat} (hb : Below B w w') (hg : g < B) : RowF w' g T N f := h.same (hb.block g hg)
theorem RowF.drewN (h : RowF w g T N f) (q : Nat) : RowF (w.drewN q) g T N f := h
theorem RowF.other (h : RowF w g T N f) {p : Addr} (v : Value) (hp : p.block ≠ g) : RowF (w.setCell p v) g T N f := by
  refine h.same ?_
  simp [World.setCell, Array.getElem?_modify, hp]
theorem RowF.set_ (h : RowF w g T N f) (k : Nat) (v : Value) : RowF (w.setCell ⟨g, k, none⟩ v) g T N (updV f k v) := by
  obtain ⟨arr, h1, h2, h3⟩ := h
  refine ⟨arr.setIfInBounds k v, ?_, by simp [h2], fun j hj => ?_⟩
  · simp [World.setCell, Array.getElem?_modify, h1]
  · unfold updV
    by_cases hjk : j = k
    · subst hjk; rw [if_pos rfl, Array.getElem?_setIfInBounds_self_of_lt (by omega)]
    · rw [if_neg hjk, Array.getElem?_setIfInBounds_ne (Ne.symm hjk)]; exact h3 j hj
theorem RowF.new (w : World) (arr : Array Value) (T : TypeId) (f : Nat → Value) (h : ∀ k, k < arr.size → arr[k]? = some (f k)) : RowF (w.alloc (.cells arr T)) w.heap.size T arr.size f :=
  ⟨arr, heap_alloc_new _ _, rfl, h⟩
theorem setCell_size (p : Addr) (v : Value) : (w.setCell p v).heap.size = w.heap.size := by simp
theorem setCell_heap {p : Addr} (v : Value) {k : Nat} (h : k ≠ p.block) : (w.setCell p v).heap[k]? = w.heap[k]? := by
  simp [World.setCell, Array.getElem?_modify, Ne.symm h]
end

/-- the cells that make lays: the zero's cells over and over -/
theorem madeCells_get (z : Array Value) (n k : Nat) (hk : k < n) : (madeCells z n)[k]? = some z[k % z.size]! := by
  unfold madeCells
  simp [hk]
theorem make_run (t e : TypeId) (z : Value) (size bytes : Nat) (ht : Tryf.prog.underlying t = some (.slice e)) (hi : (Tryf.prog.info? e).map (fun i => (i.zero, i.size, i.bytes)) = some (some z, size, bytes))
    (n : Nat) (ni mi : Int) (hn : ni = n) (hm : mi = n) (hb : bytes * n ≤ 1000000) (hb1 : 1 ≤ bytes) (w : World) :
    (Instr.makeSlice t (.int .i64 ni) (.int .i64 mi)).run Tryf.prog w = .ok (.slice (some ⟨w.heap.size, 0, none⟩) n n) (w.alloc (.cells (madeCells z.cells (n * size)) e)) := by
  obtain ⟨i, h1, h2, h3, h4⟩ := info_parts hi
  subst hn
  subst hm
  have hn2 : n ≤ 1000000 := Nat.le_trans (Nat.le_mul_of_pos_left n hb1) hb
  have h := run_make (P := Tryf.prog) w t e i z ht h1 h2 .i64 .i64 n n (by omega) (Int.le_refl _) (by rw [h4]; have h5 : ((bytes * n : Nat) : Int) ≤ 1000000 := (by omega); rw [Int.natCast_mul] at h5; omega) (by omega)
  simp only [Int.toNat_natCast] at h
  rw [h3] at h
  exact h
end Go.Proofs.YthkklojjpgjiiaaFmt
