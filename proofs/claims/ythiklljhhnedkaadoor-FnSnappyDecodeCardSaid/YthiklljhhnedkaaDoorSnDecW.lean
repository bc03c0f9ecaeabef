/-
  FnSnappyDecode's walk. Conditions: the sentinel stands.
-/
import Derived.Test.YthiklljhhnedkaaDoorSnDec
import Derived.Test.YthiklljhhnedkaaDoorAlike
namespace Go.Proofs.YthiklljhhnedkaaDoor
open Go.RowKit

set_option maxRecDepth 100000 in
set_option maxHeartbeats 800000 in
theorem fits_any (A : Option Addr) (n c g : Nat) (w : World) (hc : w.cell? ⟨g, 0, none⟩ = some (.slice A n c)) (hn : n ≤ 2147483647) :
    Calls Tryd.prog 8 #[.slice (some ⟨g, 0, none⟩) 1 1] w fun e w' => e = .returned (.bool (decide ((n : Int) ≤ 40000))) ∧ DrewN w w' := by
  go_enter Tryd.func8, Tryd.ntmps8
  go_wp2_with fail
  go_loop [3, 8] (fun s i => (s = .int .i64 0 ∧ i = .int .i64 0) ∨ (s = .int .i64 n ∧ i = .int .i64 1)) (fun _ i => 1 - (intOf i).toNat)
  case atStart => exact .inl ⟨rfl, rfl⟩
  case round =>
    rcases hrel with ⟨rfl, rfl⟩ | ⟨rfl, rfl⟩
    · go_wp2
      go_round
      case rel => exact .inr ⟨by go_num, rfl⟩
      case measure => simp [intOf]
    · go_wp2
      go_ret
      exact ⟨rfl, DrewN.refl _⟩
theorem spec_cases {l : List UInt8} {R : Option (List UInt8) × Nat} (h : specRes l 200000 = R) (h2 : R.2 ≠ 2) :
    ((snLength l).2.2 = 1 ∧ R = (none, 1)) ∨ ((snLength l).2.2 = 0 ∧ (snLength l).1 ≤ 200000 ∧ snGo (l.drop (snLength l).2.1) (snLength l).1 0 [] = R) := by
  unfold specRes at h
  rcases snLength_class l with e | e | e
  · rw [if_neg (by rw [e]; simp)] at h
    by_cases hL : 200000 < (snLength l).1
    · rw [if_pos hL] at h; subst h; exact absurd rfl h2
    · rw [if_neg hL] at h; exact .inr ⟨e, by omega, h⟩
  · rw [if_pos (by rw [e]; simp), e] at h; exact .inl ⟨e, h.symm⟩
  · rw [if_pos (by rw [e]; simp), e] at h; subst h; exact absurd rfl h2
theorem dec_any (A : Option Addr) (n c : Nat) (l : List UInt8) (w : World) (E : Value) (R : Option (List UInt8) × Nat) (hs : Sl w w.heap.size A n c l) (hn : n ≤ 2147483647) (h : specRes l 200000 = R) (h2 : R.2 ≠ 2)
    (hE : Sentinel w 1 E) (hg : 1 < w.heap.size) :
    Calls Tryd.prog 9 #[.slice A n c] w (ImplPost w R) := by
  refine implDecode_any A n c w E R hE ?_
  rcases spec_cases h h2 with ⟨h1, rfl⟩ | ⟨h0, hL, hR⟩
  · exact decodeTop_bad A n c l w E hs h1 hE
  · subst hR
    exact decodeTop_good A n c l w E hs hn h0 hL h2 hE hg

set_option maxRecDepth 100000 in
set_option maxHeartbeats 1600000 in
theorem decodeLaw_walk0 (A : Option Addr) (n c : Nat) (l : List UInt8) (w : World) (E : Value) (hs : Sl w w.heap.size A n c l) (hE : Sentinel w 1 E) (hg : 1 < w.heap.size) :
    Calls Tryd.prog 4 #[.slice A n c] w fun e w' => e = .returned (.bool true) ∧ Below w.heap.size w w' := by
  have hm := hs.most
  have hcc := hs.cap
  by_cases hn : n ≤ 2147483647
  · have K1 := Lib.hid (specDecode_any A n c l w hs hn)
    have HS := Lib.hid hs
    have HE := Lib.hid hE
    clear hs hE
    go_enter Tryd.func4, Tryd.ntmps4
    go_wp2_with fail
    refine K1.out.mono ?_
    rintro e w1 ⟨hb, ⟨r, A1, c1, hR, rfl, hsl⟩ | ⟨k, hR, rfl⟩⟩
    · have HR := Lib.hid hR
      have HSL := Lib.hid hsl
      have hg1 : 1 < w1.heap.size := Nat.lt_of_lt_of_le hg hb.size
      have HS1 := Lib.hid ((HS.out.below hb).more hb.size)
      have HE1 := Lib.hid (HE.out.below hb hg)
      obtain ⟨w2, hw2⟩ : ∃ w2, w1.alloc (.cells #[.slice A n c] 22) = w2 := ⟨_, rfl⟩
      have hc2 : w2.cell? ⟨w1.heap.size, 0, none⟩ = some (.slice A n c) := by rw [← hw2]; simp
      have hb2 : Below w1.heap.size w1 w2 := by rw [← hw2]; exact (Below.refl _ _).alloc (Nat.le_refl _) _
      have K2 := Lib.hid (fits_any A n c w1.heap.size w2 hc2 hn)
      have HW2 := Lib.hid hw2
      clear hR hsl hc2
      go_wp2_with fail
      refine K2.out.mono ?_
      rintro e w3 ⟨rfl, hd3⟩
      have hb3 := hb2.trans (hd3.below _)
      have hbw := hb.trans (hb3.mono hb.size)
      by_cases h4 : n ≤ 40000
      · have h4i : decide ((n : Int) ≤ 40000) = true := by simp; omega
        have K3 := Lib.hid (dec_any A n c l w3 E _ ((HS1.out.below hb3).more hb3.size) hn HR.out (by simp) (HE1.out.below hb3 hg1) (Nat.lt_of_lt_of_le hg1 hb3.size))
        have HSL3 := Lib.hid ((HSL.out.below hb3).more hb3.size)
        clear hd3
        go_wp2_with fail
        refine K3.out.mono ?_
        rintro e w4 ⟨hb4, ⟨hR4, rfl⟩ | ⟨r4, A4, c4, hR4, rfl, hsl4⟩⟩
        · cases hR4
        · obtain rfl : r = r4 := by injection hR4 with h _; injection h
          have K4 := Lib.hid (alike_eq A4 A1 r.length c4 r.length c1 _ _ r w4 hsl4 (HSL3.out.below hb4))
          clear hR4 hsl4
          go_wp2_with fail
          refine K4.out.mono ?_
          rintro e w5 ⟨rfl, hd5⟩
          go_wp2_with fail
          go_ret
          exact ⟨rfl, (hbw.trans (hb4.mono (Nat.le_trans hb.size hb3.size))).trans (hd5.below _)⟩
      · have h4i : decide ((n : Int) ≤ 40000) = false := by simp; omega
        clear hd3
        go_wp2_with fail
        go_ret
        exact ⟨rfl, hbw⟩
    · rcases (show k = 1 ∨ k = 2 ∨ (k ≠ 1 ∧ k ≠ 2) by omega) with rfl | rfl | ⟨h1, h2⟩
      · have HR := Lib.hid hR
        have hg1 : 1 < w1.heap.size := Nat.lt_of_lt_of_le hg hb.size
        have HS1 := Lib.hid ((HS.out.below hb).more hb.size)
        have HE1 := Lib.hid (HE.out.below hb hg)
        obtain ⟨w2, hw2⟩ : ∃ w2, w1.alloc (.cells #[.slice A n c] 22) = w2 := ⟨_, rfl⟩
        have hc2 : w2.cell? ⟨w1.heap.size, 0, none⟩ = some (.slice A n c) := by rw [← hw2]; simp
        have hb2 : Below w1.heap.size w1 w2 := by rw [← hw2]; exact (Below.refl _ _).alloc (Nat.le_refl _) _
        have K2 := Lib.hid (fits_any A n c w1.heap.size w2 hc2 hn)
        clear hR hc2
        go_wp2_with fail
        refine K2.out.mono ?_
        rintro e w3 ⟨rfl, hd3⟩
        have hb3 := hb2.trans (hd3.below _)
        have hbw := hb.trans (hb3.mono hb.size)
        by_cases h4 : n ≤ 40000
        · have h4i : decide ((n : Int) ≤ 40000) = true := by simp; omega
          have K3 := Lib.hid (dec_any A n c l w3 E _ ((HS1.out.below hb3).more hb3.size) hn HR.out (by simp) (HE1.out.below hb3 hg1) (Nat.lt_of_lt_of_le hg1 hb3.size))
          clear hd3
          go_wp2_with fail
          refine K3.out.mono ?_
          rintro e w4 ⟨hb4, ⟨hR4, rfl⟩ | ⟨r4, A4, c4, hR4, rfl, hsl4⟩⟩
          · clear hR4
            go_wp2_with fail
            go_ret
            exact ⟨rfl, hbw.trans (hb4.mono (Nat.le_trans hb.size hb3.size))⟩
          · cases hR4
        · have h4i : decide ((n : Int) ≤ 40000) = false := by simp; omega
          clear hd3
          go_wp2_with fail
          go_ret
          exact ⟨rfl, hbw⟩
      · clear hR
        go_wp2_with fail
        go_ret
        exact ⟨rfl, hb⟩
      · exfalso
        unfold specRes at hR
        rcases snLength_class l with e | e | e
        · rw [if_neg (by rw [e]; simp)] at hR
          split at hR
          · injection hR with _ h; exact h2 h.symm
          · rcases snGo_class (l.drop (snLength l).2.1) (snLength l).1 0 [] with ⟨r, h, _⟩ | h | h
            · rw [h] at hR; injection hR with h _; cases h
            · rw [h] at hR; injection hR with _ h; exact h1 h.symm
            · rw [h] at hR; injection hR with _ h; exact h2 h.symm
        · rw [if_pos (by rw [e]; simp), e] at hR; injection hR with _ h; exact h1 h.symm
        · rw [if_pos (by rw [e]; simp), e] at hR; injection hR with _ h; exact h2 h.symm
  · clear hE hs
    go_enter Tryd.func4, Tryd.ntmps4
    go_wp2
    go_ret
    exact ⟨rfl, Below.refl _ _⟩
theorem lt_of_cell {w : World} {g o : Nat} {E : Value} (h : w.cell? ⟨g, o, none⟩ = some E) : g < w.heap.size := by
  rcases Nat.lt_or_ge g w.heap.size with h1 | h1
  · exact h1
  · unfold World.cell? at h
    simp [Array.getElem?_eq_none h1] at h
theorem decodeLaw_walk (A : Option Addr) (n c : Nat) (l : List UInt8) (w : World) (E : Value) (hs : Sl w w.heap.size A n c l) (hE : Sentinel w 1 E) :
    Calls Tryd.prog 4 #[.slice A n c] w fun e w' => e = .returned (.bool true) ∧ Below w.heap.size w w' :=
  decodeLaw_walk0 A n c l w E hs hE (lt_of_cell hE.1)
end Go.Proofs.YthiklljhhnedkaaDoor
