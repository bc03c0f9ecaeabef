/-
  The walk of FnHashCut: it returns true. Condition: the first prime stands where the program lays it.
-/
import Derived.Test.YtkpmhdpeglbacaaDoorWrite
import Derived.Test.YtkpmhdpeglbacaaDoorNew
import Derived.Test.YtkpmhdpeglbacaaDoorHashWalk
import Derived.Test.YtkpmhdpeglbacaaDoorVars
namespace Go.Proofs.YtkpmhdpeglbacaaDoor
open Go.RowKit

/-- the head of the loop over the sizes -/
def RelC (l : List UInt8) (n n2 D : Nat) (w : World) (s i : Value) (wr : World) : Prop :=
  ∃ k j A' c', k ≤ n ∧ j ≤ n2 ∧ s = .slice A' (n - k) c' ∧ i = .int .i64 (j : Nat) ∧ Sl wr D A' (n - k) c' (l.drop k) ∧ Dg wr D (l.take k) ∧ Below D w wr
def intC (v : Value) : Nat := match v with | .int _ z => z.toNat | _ => 0
theorem intC_int (k : IntKind) (z : Int) : intC (.int k z) = z.toNat := rfl
theorem isRow_most {w : World} {a : Option Addr} {len cap : Nat} {zs : List Int} (h : IsRow .i64 w a len cap zs) : len ≤ 9223372036854775807 := by
  rcases h with ⟨rfl, rfl, rfl, rfl⟩ | ⟨x, rfl, hl, hm, _⟩
  · omega
  · unfold maxLen at hm; omega
theorem isRow_at {w : World} {a : Option Addr} {len cap : Nat} {zs : List Int} (h : IsRow .i64 w a len cap zs) (j : Nat) (hj : j < len) :
    ∃ g o, a = some ⟨g, o, none⟩ ∧ g < w.heap.size ∧ w.cell? ⟨g, o + j, none⟩ = some (.int .i64 (zs.getD j 0)) ∧ -9223372036854775808 ≤ zs.getD j 0 ∧ zs.getD j 0 ≤ 9223372036854775807 := by
  rcases h with ⟨rfl, rfl, rfl, rfl⟩ | ⟨x, rfl, hl, hm, hz, hc, hw⟩
  · omega
  · obtain ⟨g, o, s⟩ := x
    have h0 := hc 0 (by omega)
    have hs : s = none := by simpa [Addr.add] using World.cell?_spot h0
    subst hs
    have hjz : j < zs.length := by omega
    have hmem : zs[j] ∈ zs := List.getElem_mem hjz
    have hwf := hw _ hmem
    have e1 : IntKind.i64.min = -9223372036854775808 := rfl
    have e2 : IntKind.i64.max = 9223372036854775807 := rfl
    have hcj := hc j hjz
    rw [add_some] at hcj
    have hg : zs.getD j 0 = zs[j] := by simp [List.getD_eq_getElem?_getD, hjz]
    refine ⟨g, o, rfl, by simpa [Addr.add] using World.block_lt_of_cell? _ _ h0, hcj, ?_⟩
    rw [hg]
    simpa [Lit.wf, e1, e2] using hwf

set_option maxRecDepth 100000 in
set_option maxHeartbeats 3200000 in
theorem implCut_any (A A2 : Option Addr) (n c n2 c2 : Nat) (l : List UInt8) (zs : List Int) (w : World) (hs : Sl w w.heap.size A n c l) (hr : IsRow .i64 w A2 n2 c2 zs) (hn : n ≤ 40000)
    (hp : w.cell? ⟨0, 0, none⟩ = some (.int .u64 11400714785074694791)) :
    Calls Tryd.prog 12 #[.slice A n c, .slice A2 n2 c2] w fun e w' => e = .returned (.int .u64 (xx l)) ∧ Below w.heap.size w w' := by
  have hD := prime_size hp
  have KN := new_any w hD hp
  obtain ⟨D, hDD⟩ : ∃ D, w.heap.size = D := ⟨_, rfl⟩
  rw [hDD] at hs KN hD ⊢
  have HDD := Lib.hid hDD
  have KN := Lib.hid KN
  have HP := Lib.hid hp
  have hlen := hs.len
  have HR := Lib.hid hr
  have hn2 := isRow_most hr
  clear hDD hp hr
  go_enter Tryd.func12, Tryd.ntmps12
  go_wp2_with fail
  refine KN.out.mono ?_
  rintro e w1 ⟨rfl, hd1, hb1⟩
  go_wp2_with fail
  go_loopw [0, 11] (fun s i wr => RelC l n n2 D w s i wr) (fun _ i _ => n2 - intC i)
  case atStart => exact ⟨0, 0, A, c, by omega, by omega, rfl, rfl, hs.below hb1, hd1, hb1⟩
  case round =>
    obtain ⟨k, j, A', c', hk, hj, rfl, rfl, hs', hd', hb'⟩ := hrel
    obtain ⟨m, hm'⟩ : ∃ m, m = n - k := ⟨_, rfl⟩
    rw [← hm'] at hs' ⊢
    have HM := Lib.hid hm'
    have hmn : m ≤ 40000 := by omega
    clear hm'
    have hc' := hs'.cap
    have hmm := hs'.most
    by_cases hlt : j < n2
    · obtain ⟨g, o, rfl, hg, hcell, hz1, hz2⟩ := isRow_at HR.out j hlt
      rw [HDD.out] at hg
      have hcw := (hb'.cell (p := ⟨g, o + j, none⟩) hg).trans hcell
      clear hcell
      generalize zs.getD j 0 = z at hcw hz1 hz2
      have hji : (j : Int) < (n2 : Int) := by omega
      go_upto_region 6 with fail
      obtain ⟨p, hp, hpm⟩ : ∃ p : Nat, max (min z (m : Int)) 0 = (p : Int) ∧ p ≤ m := ⟨(max (min z (m : Int)) 0).toNat, by omega, by omega⟩
      rw [hp]
      have hcut1 : Sl wr D A' p c' ((l.drop k).take p) := by
        have := hs'.cut A' (i := 0) (j := p) (c' := c') (by omega) hpm (by omega) (by omega) (fun h0 => by
          obtain ⟨g1, o1, rfl, _⟩ := hs'.at_ (by omega)
          simp [add_some])
        simpa using this
      have CW := write_any D (l.take k) _ A' p c' wr hd' hcut1 (by simp; omega) (by omega)
      obtain ⟨A5, hA5⟩ : ∃ A5, (if c' = p then A' else Option.map (fun x => x.add p) A') = A5 := ⟨_, rfl⟩
      have hcut2 : Sl wr D A5 (m - p) (c' - p) ((l.drop k).drop p) := by
        have := hs'.cut A5 (i := p) (j := m) (c' := c' - p) (by omega) (Nat.le_refl _) (by omega) (by omega) (fun h0 => by
          obtain ⟨g1, o1, rfl, _⟩ := hs'.at_ (by omega)
          rw [← hA5, if_neg (by omega)])
        rwa [List.take_of_length_le (by have := hs'.len; omega)] at this
      have CW := Lib.hid CW
      have hp1 : (p : Int) ≤ (m : Int) := by omega
      have hp2 : (p : Int) ≤ (c' : Int) := by omega
      have hp3 : ((p : Int)).toNat = p := by omega
      have hp4 : (0 : Int) ≤ (p : Int) := by omega
      clear hp
      go_wp2_with fail
      refine CW.out.mono ?_
      rintro e w3 ⟨rfl, hd3, hb3⟩
      go_wp2_with fail
      go_roundw
      case rel =>
        have hM := HM.out
        refine ⟨k + p, j + 1, A5, c' - p, by omega, by omega, by rw [show n - (k + p) = m - p by omega], by go_num, ?_, ?_, hb'.trans hb3⟩
        · have := hcut2.below hb3
          rw [List.drop_drop] at this
          rw [show n - (k + p) = m - p by omega]
          exact this
        · rw [List.take_add]
          exact hd3
      case measure =>
        simp only [intC_int]
        omega
    · have hji : decide ((j : Int) < (n2 : Int)) = false := by simp; omega
      have hlm : (l.drop k).length = m := hs'.len
      go_wp2_with fail
      refine (write_any D (l.take k) (l.drop k) A' m c' wr hd' hs' (by simp; omega) hmn).mono ?_
      rintro e w3 ⟨rfl, hd3, hb3⟩
      rw [List.take_append_drop] at hd3
      go_wp2_with fail
      refine (dsum_any D l w3 hd3 (by omega)).mono ?_
      rintro e w4 ⟨rfl, hb4⟩
      go_wp2_with fail
      go_ret
      exact ⟨rfl, (hb'.trans hb3).trans (hb4.mono (Nat.le_of_lt hd3.lt))⟩

set_option maxHeartbeats 1600000 in
theorem hashCutLaw_walk (A : Option Addr) (n c : Nat) (A2 : Option Addr) (n2 c2 : Nat) (l : List UInt8) (zs : List Int) (w : World) (hs : Sl w w.heap.size A n c l) (hr : IsRow .i64 w A2 n2 c2 zs)
    (hp : w.cell? ⟨0, 0, none⟩ = some (.int .u64 11400714785074694791)) :
    Calls Tryd.prog 6 #[.slice A n c, .slice A2 n2 c2] w fun e w' => e = .returned (.bool true) ∧ Below w.heap.size w w' := by
  have hm := hs.most
  have hcc := hs.cap
  have hm2 := isRow_most hr
  by_cases hn : n ≤ 2147483647
  · by_cases hn2 : n2 ≤ 2147483647
    · by_cases h4 : n ≤ 40000
      · by_cases h5 : n2 ≤ 100
        · have K1 := Lib.hid (implCut_any A A2 n c n2 c2 l zs w hs hr (by omega) hp)
          have K2 : Hid (∀ w', Below w.heap.size w w' → Calls Tryd.prog 9 #[.slice A n c] w' fun e w'' => e = .returned (.int .u64 (xx l)) ∧ Below w'.heap.size w' w'') :=
            Lib.hid fun w' hb => hash_any A n c l w' ((hs.below hb).more hb.size) hn
          clear hs hp hr
          go_enter Tryd.func6, Tryd.ntmps6
          go_wp2_with fail
          refine K1.out.mono ?_
          rintro e w1 ⟨rfl, hb⟩
          go_wp2_with fail
          refine (K2.out _ hb).mono ?_
          rintro e w2 ⟨rfl, hb2⟩
          have hb2' := hb.trans (hb2.mono hb.size)
          go_wp2_with fail
          go_ret
          exact ⟨rfl, hb2'⟩
        · clear hp hr
          go_enter Tryd.func6, Tryd.ntmps6
          go_wp2
          go_ret
          exact ⟨rfl, Below.refl _ _⟩
      · clear hp hr
        go_enter Tryd.func6, Tryd.ntmps6
        go_wp2
        go_ret
        exact ⟨rfl, Below.refl _ _⟩
    · clear hp hr
      go_enter Tryd.func6, Tryd.ntmps6
      go_wp2
      go_ret
      exact ⟨rfl, Below.refl _ _⟩
  · clear hp hr
    go_enter Tryd.func6, Tryd.ntmps6
    go_wp2
    go_ret
    exact ⟨rfl, Below.refl _ _⟩
end Go.Proofs.YtkpmhdpeglbacaaDoor
