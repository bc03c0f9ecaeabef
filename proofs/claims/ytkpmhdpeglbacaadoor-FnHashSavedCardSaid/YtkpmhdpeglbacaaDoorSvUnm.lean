/-
  xxhash.Digest.UnmarshalBinary: the state read back. Conditions: those of the theorem.
-/
import Derived.Test.YtkpmhdpeglbacaaDoorSvMar
import Derived.Test.YtkpmhdpeglbacaaDoorDigW
import Derived.Test.YtkpmhdpeglbacaaDoorUx
import Derived.Test.YtkpmhdpeglbacaaDoorStruct
import Derived.Laws.IdiomStrings
namespace Go.Proofs.YtkpmhdpeglbacaaDoor
open Go.RowKit

set_option maxHeartbeats 800000 in
theorem consumeU64 (g o o2 n n2 c c2 B : Nat) (l : List UInt8) (w : World) (hs : Sl w B (some ⟨g, o, none⟩) n c l) (ho : o + 8 = o2) (hn : n2 + 8 = n) (hc : c2 + 8 = c) (h2 : 0 < c2) :
    Calls Tryd.prog 46 #[.slice (some ⟨g, o, none⟩) n c] w fun e w' => e = .returned (.tuple #[.slice (some ⟨g, o2, none⟩) n2 c2, .int .u64 (Lib.leNat (l.take 8))]) ∧ Below w.heap.size w w' := by
  have K := Lib.hid (u64_any _ n c B l w hs (by omega))
  have hcap := hs.cap
  have hmost := hs.most
  have hne : ¬ c = 8 := by omega
  obtain ⟨x, hx⟩ : ∃ x, Lib.leNat (l.take 8) = x := ⟨_, rfl⟩
  rw [hx] at K ⊢
  subst ho
  subst hn
  subst hc
  clear hs hx
  go_enter Tryd.func46, Tryd.ntmps46
  go_wp2_with (go_at_call 32; refine K.out.mono ?_; rintro e w' ⟨rfl, hb⟩)
  go_ret2
  exact ⟨rfl, hb⟩

def st1 (a1 a2 a3 a4 tot : Nat) (m : List UInt8) : List UInt8 := Lib.leBytes 8 a1 ++ (Lib.leBytes 8 a2 ++ (Lib.leBytes 8 a3 ++ (Lib.leBytes 8 a4 ++ (Lib.leBytes 8 tot ++ m))))
theorem st_head (a1 a2 a3 a4 tot : Nat) (m : List UInt8) : stHead a1 a2 a3 a4 tot ++ m = magicB ++ st1 a1 a2 a3 a4 tot m := by simp [stHead, st1]
theorem le8 (a : Nat) (l : List UInt8) (h : a < 18446744073709551616) : Lib.leNat ((Lib.leBytes 8 a ++ l).take 8) = a := by
  rw [List.take_append_of_le_length (by simp [Lib.leBytes]), List.take_of_length_le (by simp [Lib.leBytes])]
  exact Lib.leNat_leBytes 8 a (by omega)
set_option maxHeartbeats 3200000 in
theorem unmarshal_any (D g : Nat) (a1 a2 a3 a4 tot : Nat) (m mem : List UInt8) (s : S4) (t0 n0 : Int) (w : World) (hd : Dig w D s t0 mem n0) (hm : m.length = 32)
    (hs : Sl w D (some ⟨g, 0, none⟩) 76 76 (stHead a1 a2 a3 a4 tot ++ m)) (h1 : a1 < 18446744073709551616) (h2 : a2 < 18446744073709551616) (h3 : a3 < 18446744073709551616) (h4 : a4 < 18446744073709551616) (ht : tot < 18446744073709551616) :
    Calls Tryd.prog 29 #[.pointer (some ⟨D, 0, none⟩), .slice (some ⟨g, 0, none⟩) 76 76] w fun e w' =>
      e = .returned .nilIface ∧ Dig w' D ((a1 : Int), (a2 : Int), (a3 : Int), (a4 : Int)) tot m ((tot % 32 : Nat) : Int) ∧ Below D w w' := by
  rw [st_head] at hs
  have hconv : (convert 22 9 (.slice (some ⟨g, 0, none⟩) 4 76)).run Tryd.prog w = .ok (.string ⟨#[120, 120, 104, 6]⟩) w := by
    refine run_convert_bytes_back (P := Tryd.prog) w 22 9 5 ⟨g, 0, none⟩ 76 magicB Tryd.underlying22 Tryd.underlying5 Tryd.underlying9 ?_
    intro j hj
    obtain ⟨g', o', e, _, hc⟩ := hs.at_ (by omega)
    injection e with e
    injection e with e1 e2
    subst e1
    subst e2
    have hj4 : j < 4 := hj
    rw [add_some, hc j (by simp [magicB]; omega), List.getElem_append_left hj]
  have HD := Lib.hid hd
  have HS := Lib.hid hs
  have HM := Lib.hid hm
  have hS0 : Hid (Sl w D (some ⟨g, 4, none⟩) 72 72 (Lib.leBytes 8 a1 ++ (Lib.leBytes 8 a2 ++ (Lib.leBytes 8 a3 ++ (Lib.leBytes 8 a4 ++ (Lib.leBytes 8 tot ++ m)))))) := by
    have h := hs.next 4 (by omega)
    rw [if_neg (by omega)] at h
    exact Lib.hid h
  have hb0 : Below D w w := Below.refl _ _
  have hD0 := HD
  clear hd hs hm
  go_enter Tryd.func29, Tryd.ntmps29
  go_wp2_with fail
  have K0 := consumeU64 g 4 12 72 64 72 64 D (Lib.leBytes 8 a1 ++ (Lib.leBytes 8 a2 ++ (Lib.leBytes 8 a3 ++ (Lib.leBytes 8 a4 ++ (Lib.leBytes 8 tot ++ m))))) w hS0.out rfl rfl rfl (by omega)
  rw [le8 _ _ h1] at K0
  refine K0.mono ?_
  rintro e v0 ⟨rfl, hv0⟩
  clear K0
  have hE0 := Lib.hid (hD0.out.keep (hv0.block D hD0.out.lt))
  have hc := hE0.out.c0
  have hf := hE0.out.frozen 0
  obtain ⟨w1, hw1⟩ : ∃ x, v0.setCell ⟨D, 0, none⟩ (.int .u64 (a1 : Int)) = x := ⟨_, rfl⟩
  have hD1 : Hid (Dig w1 D ((a1 : Int), s.2.1, s.2.2.1, s.2.2.2) t0 mem n0) := by rw [← hw1]; exact Lib.hid (hE0.out.s0 _)
  have hb1 : Below D w w1 := by rw [← hw1]; exact (hb0.trans (hv0.mono (Nat.le_of_lt hD0.out.lt))).setCell (p := ⟨D, 0, none⟩) (Nat.le_refl D) _
  have hT := HS.out.below hb1
  have hS1 : Hid (Sl w1 D (some ⟨g, 12, none⟩) 64 64 (Lib.leBytes 8 a2 ++ (Lib.leBytes 8 a3 ++ (Lib.leBytes 8 a4 ++ (Lib.leBytes 8 tot ++ m))))) := by
    have h := hT.next 12 (by omega)
    rw [if_neg (by omega)] at h
    exact Lib.hid h
  clear hT
  go_wp2_with fail
  clear hw1 hc hf
  have K1 := consumeU64 g 12 20 64 56 64 56 D (Lib.leBytes 8 a2 ++ (Lib.leBytes 8 a3 ++ (Lib.leBytes 8 a4 ++ (Lib.leBytes 8 tot ++ m)))) w1 hS1.out rfl rfl rfl (by omega)
  rw [le8 _ _ h2] at K1
  refine K1.mono ?_
  rintro e v1 ⟨rfl, hv1⟩
  clear K1
  have hE1 := Lib.hid (hD1.out.keep (hv1.block D hD1.out.lt))
  have hc := hE1.out.c1
  have hf := hE1.out.frozen 1
  obtain ⟨w2, hw2⟩ : ∃ x, v1.setCell ⟨D, 1, none⟩ (.int .u64 (a2 : Int)) = x := ⟨_, rfl⟩
  have hD2 : Hid (Dig w2 D ((a1 : Int), (a2 : Int), s.2.2.1, s.2.2.2) t0 mem n0) := by rw [← hw2]; exact Lib.hid (hE1.out.s1 _)
  have hb2 : Below D w w2 := by rw [← hw2]; exact (hb1.trans (hv1.mono (Nat.le_of_lt hD1.out.lt))).setCell (p := ⟨D, 1, none⟩) (Nat.le_refl D) _
  have hT := HS.out.below hb2
  have hS2 : Hid (Sl w2 D (some ⟨g, 20, none⟩) 56 56 (Lib.leBytes 8 a3 ++ (Lib.leBytes 8 a4 ++ (Lib.leBytes 8 tot ++ m)))) := by
    have h := hT.next 20 (by omega)
    rw [if_neg (by omega)] at h
    exact Lib.hid h
  clear hT
  go_wp2_with fail
  clear hw2 hc hf
  have K2 := consumeU64 g 20 28 56 48 56 48 D (Lib.leBytes 8 a3 ++ (Lib.leBytes 8 a4 ++ (Lib.leBytes 8 tot ++ m))) w2 hS2.out rfl rfl rfl (by omega)
  rw [le8 _ _ h3] at K2
  refine K2.mono ?_
  rintro e v2 ⟨rfl, hv2⟩
  clear K2
  have hE2 := Lib.hid (hD2.out.keep (hv2.block D hD2.out.lt))
  have hc := hE2.out.c2
  have hf := hE2.out.frozen 2
  obtain ⟨w3, hw3⟩ : ∃ x, v2.setCell ⟨D, 2, none⟩ (.int .u64 (a3 : Int)) = x := ⟨_, rfl⟩
  have hD3 : Hid (Dig w3 D ((a1 : Int), (a2 : Int), (a3 : Int), s.2.2.2) t0 mem n0) := by rw [← hw3]; exact Lib.hid (hE2.out.s2 _)
  have hb3 : Below D w w3 := by rw [← hw3]; exact (hb2.trans (hv2.mono (Nat.le_of_lt hD2.out.lt))).setCell (p := ⟨D, 2, none⟩) (Nat.le_refl D) _
  have hT := HS.out.below hb3
  have hS3 : Hid (Sl w3 D (some ⟨g, 28, none⟩) 48 48 (Lib.leBytes 8 a4 ++ (Lib.leBytes 8 tot ++ m))) := by
    have h := hT.next 28 (by omega)
    rw [if_neg (by omega)] at h
    exact Lib.hid h
  clear hT
  go_wp2_with fail
  clear hw3 hc hf
  have K3 := consumeU64 g 28 36 48 40 48 40 D (Lib.leBytes 8 a4 ++ (Lib.leBytes 8 tot ++ m)) w3 hS3.out rfl rfl rfl (by omega)
  rw [le8 _ _ h4] at K3
  refine K3.mono ?_
  rintro e v3 ⟨rfl, hv3⟩
  clear K3
  have hE3 := Lib.hid (hD3.out.keep (hv3.block D hD3.out.lt))
  have hc := hE3.out.c3
  have hf := hE3.out.frozen 3
  obtain ⟨w4, hw4⟩ : ∃ x, v3.setCell ⟨D, 3, none⟩ (.int .u64 (a4 : Int)) = x := ⟨_, rfl⟩
  have hD4 : Hid (Dig w4 D ((a1 : Int), (a2 : Int), (a3 : Int), (a4 : Int)) t0 mem n0) := by rw [← hw4]; exact Lib.hid (hE3.out.s3 _)
  have hb4 : Below D w w4 := by rw [← hw4]; exact (hb3.trans (hv3.mono (Nat.le_of_lt hD3.out.lt))).setCell (p := ⟨D, 3, none⟩) (Nat.le_refl D) _
  have hT := HS.out.below hb4
  have hS4 : Hid (Sl w4 D (some ⟨g, 36, none⟩) 40 40 (Lib.leBytes 8 tot ++ m)) := by
    have h := hT.next 36 (by omega)
    rw [if_neg (by omega)] at h
    exact Lib.hid h
  clear hT
  go_wp2_with fail
  clear hw4 hc hf
  have K4 := consumeU64 g 36 44 40 32 40 32 D (Lib.leBytes 8 tot ++ m) w4 hS4.out rfl rfl rfl (by omega)
  rw [le8 _ _ ht] at K4
  refine K4.mono ?_
  rintro e v4 ⟨rfl, hv4⟩
  clear K4
  have hE4 := Lib.hid (hD4.out.keep (hv4.block D hD4.out.lt))
  have hc := hE4.out.c4
  have hf := hE4.out.frozen 4
  obtain ⟨w5, hw5⟩ : ∃ x, v4.setCell ⟨D, 4, none⟩ (.int .u64 (tot : Int)) = x := ⟨_, rfl⟩
  have hD5 : Hid (Dig w5 D ((a1 : Int), (a2 : Int), (a3 : Int), (a4 : Int)) (tot : Int) mem n0) := by rw [← hw5]; exact Lib.hid (hE4.out.s4 _)
  have hb5 : Below D w w5 := by rw [← hw5]; exact (hb4.trans (hv4.mono (Nat.le_of_lt hD4.out.lt))).setCell (p := ⟨D, 4, none⟩) (Nat.le_refl D) _
  have hT := HS.out.below hb5
  have hS5 : Hid (Sl w5 D (some ⟨g, 44, none⟩) 32 32 m) := by
    have h := hT.next 44 (by omega)
    rw [if_neg (by omega)] at h
    exact Lib.hid h
  clear hT
  have hspl : splice mem 0 (m.take 32) = m := by
    have h1 := HM.out
    have h2 := HD.out.2
    unfold splice
    rw [List.take_of_length_le (l := m) (by omega), List.drop_eq_nil_of_le (by omega)]
    simp
  have HSP := Lib.hid hspl
  have e1 : (tot : Int) % 32 < 32 := by omega
  have e2 : 0 ≤ (tot : Int) % 32 := by omega
  have e3 : IntKind.i64.wrap ((tot : Int) % 32) = (tot : Int) % 32 := by rw [IntKind.wrap_i64]; omega
  clear hspl
  go_wp2_with (refine wpList_copy_dig rfl (.tmp 64) (.tmp 65) rfl hD5 hS5.out 0 32 32 32 rfl rfl rfl rfl ?_; intro w6 hd6 hb6; have hd6 := Lib.hid (HSP.out ▸ hd6.out); have c4 := hd6.out.c4; have c5 := hd6.out.c37; have f5 := hd6.out.frozen 37)
  go_ret
  refine ⟨rfl, ?_, (hb5.trans hb6).setCell (p := ⟨D, 37, none⟩) (Nat.le_refl D) _⟩
  rw [show ((tot % 32 : Nat) : Int) = (tot : Int) % 32 by omega]
  exact hd6.out.s37 _
end Go.Proofs.YtkpmhdpeglbacaaDoor
