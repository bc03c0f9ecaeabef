/-
  FnHashSaved's walk. Conditions: the first prime stands where the program lays it.
-/
import Derived.Test.YtkpmhdpeglbacaaDoorSvUnm
import Derived.Test.YtkpmhdpeglbacaaDoorSvSum
import Derived.Test.YtkpmhdpeglbacaaDoorWrite
import Derived.Test.YtkpmhdpeglbacaaDoorNew
import Derived.Test.YtkpmhdpeglbacaaDoorHashWalk
import Derived.Test.YtkpmhdpeglbacaaDoorAlike
import Derived.Laws.Closers25b
namespace Go.Proofs.YtkpmhdpeglbacaaDoor
open Go.RowKit

theorem nat_of {x : Int} (h : 0 ≤ x) : ∃ n : Nat, x = n := ⟨x.toNat, by omega⟩
theorem wrap64_nat (y : Int) : ∃ n : Nat, IntKind.u64.wrap y = n ∧ n < 18446744073709551616 := ⟨(IntKind.u64.wrap y).toNat, by rw [IntKind.wrap_u64]; omega, by rw [IntKind.wrap_u64]; omega⟩
theorem st_nat (l : List UInt8) (k : Nat) : ∃ a1 a2 a3 a4 : Nat, stN s0 l k = ((a1 : Int), (a2 : Int), (a3 : Int), (a4 : Int)) ∧ a1 < 18446744073709551616 ∧ a2 < 18446744073709551616 ∧ a3 < 18446744073709551616 ∧ a4 < 18446744073709551616 := by
  cases k with
  | zero => exact ⟨6983438078262162902, 14029467366897019727, 0, 7046029288634856825, rfl, by omega, by omega, by omega, by omega⟩
  | succ k =>
    obtain ⟨a1, h1, g1⟩ : ∃ n : Nat, rnd (stN s0 l k).1 (w8 (l.drop (32 * k)) 0) = n ∧ n < 18446744073709551616 := wrap64_nat _
    obtain ⟨a2, h2, g2⟩ : ∃ n : Nat, rnd (stN s0 l k).2.1 (w8 (l.drop (32 * k)) 8) = n ∧ n < 18446744073709551616 := wrap64_nat _
    obtain ⟨a3, h3, g3⟩ : ∃ n : Nat, rnd (stN s0 l k).2.2.1 (w8 (l.drop (32 * k)) 16) = n ∧ n < 18446744073709551616 := wrap64_nat _
    obtain ⟨a4, h4, g4⟩ : ∃ n : Nat, rnd (stN s0 l k).2.2.2 (w8 (l.drop (32 * k)) 24) = n ∧ n < 18446744073709551616 := wrap64_nat _
    refine ⟨a1, a2, a3, a4, ?_, g1, g2, g3, g4⟩
    rw [← h1, ← h2, ← h3, ← h4]
    rfl
theorem xx_nat (l : List UInt8) : ∃ H : Nat, xx l = H := nat_of (bits_within .xor .u64 _ _).1
theorem Buf.sl {w : World} {g : Nat} {o z : List UInt8} (h : Buf w g o z) (B : Nat) (hB : g < B) (n : Nat) (hn : o.length + z.length = n) (hm : n ≤ 1000) : Sl w B (some ⟨g, 0, none⟩) n n (o ++ z) := by
  refine ⟨by simpa using hn, Nat.le_refl _, by unfold maxLen; omega, .inr ⟨g, 0, rfl, hB, fun j hj => ?_⟩⟩
  rw [Nat.zero_add, cell_of_row w g j _ _ (0, 0) h, List.getElem?_toArray]
  unfold Lib.byteCells
  rw [List.getElem?_map, List.getElem?_eq_getElem hj]
  rfl

theorem wpList_append_slg {w : World} {ops : Array Oper} {rest : List Oper} {o : Oper} {a : Act} {Q : Exit → Act → World → Prop} (hgd : Region.wanted o (yielded ops a.tmps) = true) (s x : Operand)
    (ho : o.op = .call { callee := .builtin .append, args := #[s, x], argTypes := #[22, 22] })
    (base : Nat) (v : Value) (l l2 : List UInt8) (hs : a.eval s = v) (hown : Own w base v l) (B : Nat) (A : Option Addr) (n c : Nat) (hx : a.eval x = .slice A n c) (hsl : Sl w B A n c l2)
    (hbytes : l.length + n ≤ 140737488355328) (hbase : base ≤ w.heap.size) (n' : Nat) (l' : List UInt8) (hn' : l.length + n = n') (hl' : l ++ l2 = l')
    (h : ∀ A' c' w', App w w' base v A' n' c' l' → wpList Tryd.prog ops Q rest (a.put o.dst (.slice A' n' c')) w') : wpList Tryd.prog ops Q (o :: rest) a w :=
  wpList_step fun _ hK => by
    rw [if_pos hgd]
    exact wp_append_sl w s x ho base v l l2 hs hown B A n c hx hsl hbytes hbase n' l' hn' hl' fun A' c' w' h2 => hK _ _ (h A' c' w' h2)

set_option maxHeartbeats 3200000 in
theorem implSaved_any (A A2 A3 : Option Addr) (n c n2 c2 n3 c3 : Nat) (l l2 l3 : List UInt8) (H : Nat) (w : World) (hs : Sl w w.heap.size A n c l) (hs2 : Sl w w.heap.size A2 n2 c2 l2) (hs3 : Sl w w.heap.size A3 n3 c3 l3) (hn : n + n2 ≤ 40000) (hn3 : n3 ≤ 1000)
    (hH : xx (l ++ l2) = H) (hp : w.cell? ⟨0, 0, none⟩ = some (.int .u64 11400714785074694791)) :
    Calls Tryd.prog 13 #[.slice A n c, .slice A2 n2 c2, .slice A3 n3 c3] w fun e w' => ∃ A' c', e = .returned (.tuple #[.slice A' (n3 + 8) c', .bool true]) ∧ Sl w' w'.heap.size A' (n3 + 8) c' (l3 ++ be8 H) ∧ Below w.heap.size w w' := by
  have hD := prime_size hp
  obtain ⟨D, hBB⟩ : ∃ B, w.heap.size = B := ⟨_, rfl⟩
  have KN := new_any w hD hp
  rw [hBB] at hs hs2 hs3 hD KN ⊢
  have HP := Lib.hid hp
  have HN := Lib.hid KN
  have hlen := hs.len
  have hlen2 := hs2.len
  have hlen3 := hs3.len
  have HL := Lib.hid hlen
  have HL2 := Lib.hid hlen2
  have HL3 := Lib.hid hlen3
  have HHH := Lib.hid hH
  have HBB := Lib.hid hBB
  clear hp KN hlen hlen2 hlen3 hH hBB
  go_enter Tryd.func13, Tryd.ntmps13
  go_wp2_with fail
  refine HN.out.mono ?_
  rintro e w1 ⟨rfl, hd1, hb1⟩
  go_wp2_with fail
  refine (write_any D [] l A n c w1 hd1 (hs.below hb1) (by simp) (by omega)).mono ?_
  rintro e w2 ⟨rfl, hd2, hb2⟩
  have hb02 := hb1.trans hb2
  obtain ⟨mem, hm0, hdig⟩ := hd2
  obtain ⟨a1, a2, a3, a4, hst, g1, g2, g3, g4⟩ := st_nat l (l.length / 32)
  rw [List.nil_append] at hm0 hdig
  rw [hst] at hdig
  have hml := hdig.2
  have hq : l.length % 32 < 32 := Nat.mod_lt _ (by omega)
  have hll : l.length ≤ 40000 := by have := HL.out; omega
  have hD2 := hdig.lt
  have KM := marshal_any D a1 a2 a3 a4 l.length (l.length % 32) mem w2 hdig (by omega) (by omega) g1 g2 g3 g4
  obtain ⟨g, hg⟩ : ∃ g, w2.heap.size = g := ⟨_, rfl⟩
  rw [hg] at KM hD2
  have HKM := Lib.hid KM
  have HM0 := Lib.hid hm0
  have HST := Lib.hid hst
  have HML := Lib.hid hml
  have HG := Lib.hid hg
  clear KM hm0 hst hml hg hdig hd1
  go_wp2_with fail
  refine HKM.out.mono ?_
  rintro e w3 ⟨rfl, hB3, hb3⟩
  have hg3 := hB3.lt
  have hb03 := hb02.trans (hb3.mono (Nat.le_of_lt hD2))
  obtain ⟨D2, hDD⟩ : ∃ x, w3.heap.size = x := ⟨_, rfl⟩
  have KN2 := new_any w3 (by omega) (prime_keep hb03 hD HP.out)
  rw [hDD] at KN2 hg3
  have HN2 := Lib.hid KN2
  have HB3 := Lib.hid hB3
  have HDD := Lib.hid hDD
  clear KN2 hB3 hDD
  go_wp2_with fail
  refine HN2.out.mono ?_
  rintro e w4 ⟨rfl, hd4, hb4⟩
  have hDD2 : D < D2 := by omega
  have hb04 := hb03.trans (hb4.mono (Nat.le_of_lt hDD2))
  obtain ⟨m4, _, hdig4⟩ := hd4
  have hml3 : (mem.take (l.length % 32)).length = l.length % 32 := by have := HML.out; simp; omega
  have hS4 : Sl w4 D2 (some ⟨g, 0, none⟩) 76 76 (stHead a1 a2 a3 a4 l.length ++ (mem.take (l.length % 32) ++ List.replicate (32 - l.length % 32) 0)) := by
    have h := ((HB3.out.below hb4 hg3).sl D2 hg3 76 (by rw [List.length_append, stHead_length, hml3, List.length_replicate]; omega) (by omega))
    rwa [List.append_assoc] at h
  have KU := Lib.hid (unmarshal_any D2 g a1 a2 a3 a4 l.length (mem.take (l.length % 32) ++ List.replicate (32 - l.length % 32) 0) m4 _ _ _ w4 hdig4 (by rw [List.length_append, hml3, List.length_replicate]; omega) hS4 g1 g2 g3 g4 (by omega))
  have HM3 := Lib.hid hml3
  clear hS4 hdig4 hml3
  go_wp2_with fail
  refine KU.out.mono ?_
  rintro e w5 ⟨rfl, hdig5, hb5⟩
  have hb05 := hb04.trans (hb5.mono (Nat.le_of_lt hDD2))
  have hd5 : Dg w5 D2 l := by
    refine ⟨mem.take (l.length % 32) ++ List.replicate (32 - l.length % 32) 0, ?_, by rw [HST.out]; exact hdig5⟩
    rw [List.take_append_of_le_length (by have := HM3.out; omega), List.take_take, Nat.min_self]
    exact HM0.out
  have KW := Lib.hid (write_any D2 l l2 A2 n2 c2 w5 hd5 ((hs2.below hb05).more (Nat.le_of_lt hDD2)) (by omega) (by omega))
  clear hdig5 hd5
  go_wp2_with fail
  refine KW.out.mono ?_
  rintro e w6 ⟨rfl, hd6, hb6⟩
  have hb06 := hb05.trans (hb6.mono (Nat.le_of_lt hDD2))
  have HD6 := Lib.hid hd6
  have hD26 := hd6.lt
  obtain ⟨w7, hw7⟩ : ∃ x, w6.alloc (.cells #[] 5) = x := ⟨_, rfl⟩
  have HO7 : Hid (Own w7 D (.slice (some ⟨w6.heap.size, 0, none⟩) 0 0) []) := by rw [← hw7]; exact Lib.hid (Own.lit w6 (by omega))
  have hb07 : Below D w w7 := by rw [← hw7]; exact hb06.alloc (by omega) _
  have hs7 : D ≤ w7.heap.size := by rw [← hw7]; exact Nat.le_trans (show D ≤ w6.heap.size by omega) (by simp)
  have hb67 : Below w6.heap.size w6 w7 := by rw [← hw7]; exact (Below.refl _ _).alloc (Nat.le_refl _) _
  have HS7 := Lib.hid (hs3.below hb07)
  have HLL : Hid ((l ++ l2).length ≤ 2147483647) := Lib.hid (by have := HL2.out; simp; omega)
  have HDg7 := Lib.hid (hd6.below hb67 hD26)
  have h3l : l3.length ≤ 1000 := by have := HL3.out; omega
  clear hd6
  go_wp2_with (at_builtin; refine wpList_append_sl _ rfl (.tmp 32) (.tmp 33) rfl D (.slice (some ⟨w6.heap.size, 0, none⟩) 0 0) [] l3 rfl HO7.out D A3 n3 c3 rfl HS7.out (by simp; omega) hs7 n3 l3 (by simp) (by simp) ?_; intro A' c' w8 hap; have hDg8 := Lib.hid (HDg7.out.keep (hap.grown.block D2 (by have := hb67.size; omega) (by simp [Value.ownBlock]; omega))))
  have ho : Own w8 D (.slice A' l3.length c') l3 := by rw [HL3.out]; exact hap.own
  have KS := sum_any D2 D H (l ++ l2) l3 A' c' w8 hDg8.out HLL.out HHH.out ho hap.le h3l
  rw [HL3.out] at KS
  have HKS := Lib.hid KS
  clear KS ho
  refine HKS.out.mono ?_
  rintro e w9 ⟨A9, c9, rfl, hs9, hb9⟩
  have HS9 := Lib.hid hs9
  clear hs9
  go_wp2_with fail
  go_ret2
  exact ⟨A9, c9, rfl, HS9.out, (hb07.trans hap.bel).trans hb9⟩

set_option maxHeartbeats 3200000 in
theorem hashSavedLaw_walk (A : Option Addr) (n c : Nat) (A2 : Option Addr) (n2 c2 : Nat) (A3 : Option Addr) (n3 c3 : Nat) (l l2 l3 : List UInt8) (w : World) (hs : Sl w w.heap.size A n c l) (hs2 : Sl w w.heap.size A2 n2 c2 l2) (hs3 : Sl w w.heap.size A3 n3 c3 l3)
    (hp : w.cell? ⟨0, 0, none⟩ = some (.int .u64 11400714785074694791)) :
    Calls Tryd.prog 7 #[.slice A n c, .slice A2 n2 c2, .slice A3 n3 c3] w fun e w' => e = .returned (.bool true) ∧ Below w.heap.size w w' := by
  have hm := hs.most
  have hcc := hs.cap
  have hm2 := hs2.most
  have hcc2 := hs2.cap
  have hm3 := hs3.most
  have hcc3 := hs3.cap
  by_cases h4 : n + n2 ≤ 40000 ∧ n3 ≤ 1000
  · obtain ⟨h4, h5⟩ := h4
    have hlen := hs.len
    have hlen2 := hs2.len
    have hlen3 := hs3.len
    obtain ⟨H, hH⟩ := xx_nat (l ++ l2)
    have K1 := Lib.hid (implSaved_any A A2 A3 n c n2 c2 n3 c3 l l2 l3 H w hs hs2 hs3 h4 h5 hH hp)
    have HL := Lib.hid hlen
    have HL2 := Lib.hid hlen2
    have HL3 := Lib.hid hlen3
    have HH := Lib.hid hH
    have HS := Lib.hid hs
    have HS2 := Lib.hid hs2
    have HS3 := Lib.hid hs3
    obtain ⟨D, hDe⟩ : ∃ x, w.heap.size = x := ⟨_, rfl⟩
    rw [hDe] at K1 HS HS2 HS3
    have HDE := Lib.hid hDe
    rw [hDe]
    clear hs hs2 hs3 hp hlen hlen2 hlen3 hH hDe
    go_enter Tryd.func7, Tryd.ntmps7
    go_wp2_with fail
    refine K1.out.mono ?_
    rintro e w1 ⟨A1, c1, rfl, hs1, hb1⟩
    have HS1 := Lib.hid hs1
    have hD1 : D ≤ w1.heap.size := by rw [← HDE.out]; exact hb1.size
    obtain ⟨B1, hB1⟩ : ∃ x, w1.heap.size = x := ⟨_, rfl⟩
    obtain ⟨w2, hw2⟩ : ∃ x, w1.alloc (.cells #[] 5) = x := ⟨_, rfl⟩
    have HO2 : Hid (Own w2 B1 (.slice (some ⟨B1, 0, none⟩) 0 0) []) := by rw [← hw2, ← hB1]; exact Lib.hid (Own.lit w1 (Nat.le_refl _))
    have hb2 : Below B1 w1 w2 := by rw [← hw2, ← hB1]; exact (Below.refl _ _).alloc (Nat.le_refl _) _
    have hs2 : B1 ≤ w2.heap.size := by rw [← hB1]; exact hb2.size
    have HSa := Lib.hid (HS.out.below (hb1.trans (hb2.mono (by rw [← hB1]; exact hD1))))
    have HSb := Lib.hid ((HS2.out.below hb1).more (show D ≤ B1 by rw [← hB1]; exact hD1))
    have HB1 := Lib.hid hB1
    clear hs1
    go_wp2_with (first
      | (at_builtin; refine wpList_append_sl _ rfl (.tmp 41) (.tmp 42) rfl B1 (.slice (some ⟨B1, 0, none⟩) 0 0) [] l rfl HO2.out D A n c rfl HSa.out (by simp; omega) hs2 n l (by simp) (by simp) ?_; intro A5 c5 w3 hap3)
      | (at_builtin; refine wpList_append_sl _ rfl (.tmp 43) (.tmp 44) rfl B1 (.slice A5 n c5) l l2 rfl hap3.own B1 A2 n2 c2 rfl (HSb.out.below (hb2.trans hap3.bel)) (by have := HL.out; omega) hap3.le (n + n2) (l ++ l2) (by rw [HL.out]) rfl ?_; intro A6 c6 w4 hap4; obtain ⟨B4, hB4⟩ : ∃ x, w4.heap.size = x := ⟨_, rfl⟩; obtain ⟨w5, hw5⟩ : ∃ x, w4.alloc (.cells #[] 5) = x := ⟨_, rfl⟩;
          have HO5 : Hid (Own w5 B4 (.slice (some ⟨B4, 0, none⟩) 0 0) []) := (by rw [← hw5, ← hB4]; exact Lib.hid (Own.lit w4 (Nat.le_refl _))); have hb5 : Below B4 w4 w5 := (by rw [← hw5, ← hB4]; exact (Below.refl _ _).alloc (Nat.le_refl _) _); have hs5 : B4 ≤ w5.heap.size := (by rw [← hB4]; exact hb5.size);
          have hb14 : Below B1 w1 w4 := (hb2.trans hap3.bel).trans hap4.bel; have h14 : B1 ≤ B4 := (by rw [← hB1, ← hB4]; exact hb14.size); have HSc := Lib.hid (HS3.out.below ((hb1.trans (hb14.mono (by rw [← hB1]; exact hD1))).trans (hb5.mono (Nat.le_trans (by rw [← hB1]; exact hD1) h14)))); have HB4 := Lib.hid hB4; have HSd := Lib.hid hap4.sl)
      | (at_builtin; refine wpList_append_slg rfl (.tmp 49) (.tmp 50) rfl B4 (.slice (some ⟨B4, 0, none⟩) 0 0) [] l3 rfl HO5.out D A3 n3 c3 rfl HSc.out (by simp; omega) hs5 n3 l3 (by simp) (by simp) ?_; intro A7 c7 w6 hap6))
    refine (hash_any A6 (n + n2) c6 (l ++ l2) w6 (((HSd.out.below (by rw [HB4.out]; exact hb5)).below (by rw [HB4.out]; exact hap6.bel)).more (by rw [HB4.out]; exact Nat.le_trans hs5 hap6.grown.size)) (by omega)).mono ?_
    rintro e w7 ⟨rfl, hb7⟩
    rw [HH.out]
    go_wp2_with fail
    refine (hashBytes_any H w7).mono ?_
    rintro e w8 ⟨A8, c8, rfl, hs8, hb8⟩
    have hb68 : Below w6.heap.size w6 w8 := hb7.trans (hb8.mono hb7.size)
    have HO8 := Lib.hid (hap6.own.below hb68)
    have HS8 := Lib.hid hs8
    have hs68 : B4 ≤ w8.heap.size := Nat.le_trans hap6.le hb68.size
    clear hs8
    go_wp2_with (at_builtin; refine wpList_append_slg rfl (.tmp 51) (.tmp 54) rfl B4 (.slice A7 n3 c7) l3 (be8 H) rfl HO8.out w8.heap.size A8 8 c8 rfl HS8.out (by have := HL3.out; omega) hs68 (n3 + 8) (l3 ++ be8 H) (by rw [HL3.out]) rfl ?_; intro A9 c9 w9 hap9)
    have hb19 : Below B1 w1 w9 := ((hb14.trans (hb5.mono h14)).trans (hap6.bel.mono h14)).trans (((hb68.mono (Nat.le_trans h14 hap6.le))).trans (hap9.bel.mono h14))
    have HS19 := Lib.hid (HS1.out.below (by rw [HB1.out]; exact hb19))
    refine (alike_eq A1 A9 (n3 + 8) c1 (n3 + 8) c9 _ _ (l3 ++ be8 H) w9 HS19.out hap9.sl).mono ?_
    rintro e w10 ⟨rfl, hd10⟩
    go_wp2_with fail
    go_ret
    exact ⟨rfl, (hb1.trans (hb19.mono (by rw [← HB1.out]; exact hD1))).trans (hd10.below _)⟩
  · clear hp hs hs2 hs3
    by_cases h1 : n ≤ 2147483647
    · by_cases h2 : n2 ≤ 2147483647
      · by_cases h3 : n3 ≤ 2147483647
        · by_cases h5 : n + n2 ≤ 40000
          · have h6 : ¬ n3 ≤ 1000 := fun h => h4 ⟨h5, h⟩
            clear h4
            go_enter Tryd.func7, Tryd.ntmps7
            go_wp2
            go_ret
            exact ⟨rfl, Below.refl _ _⟩
          · clear h4
            go_enter Tryd.func7, Tryd.ntmps7
            go_wp2
            go_ret
            exact ⟨rfl, Below.refl _ _⟩
        · clear h4
          go_enter Tryd.func7, Tryd.ntmps7
          go_wp2
          go_ret
          exact ⟨rfl, Below.refl _ _⟩
      · clear h4
        go_enter Tryd.func7, Tryd.ntmps7
        go_wp2
        go_ret
        exact ⟨rfl, Below.refl _ _⟩
    · clear h4
      go_enter Tryd.func7, Tryd.ntmps7
      go_wp2
      go_ret
      exact ⟨rfl, Below.refl _ _⟩
end Go.Proofs.YtkpmhdpeglbacaaDoor
