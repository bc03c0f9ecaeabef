/-
  (*xxhash.Digest).Write takes up the bytes where they fill the block. Conditions: at most 40000 bytes.
-/
import Derived.Test.YtkpmhdpeglbacaaDoorDigW
import Derived.Test.YtkpmhdpeglbacaaDoorBlocks
import Derived.Test.YtkpmhdpeglbacaaDoorDSum
import Derived.Deep.DeepCutAuto
import Derived.Deep.CutRange
import Derived.Deep.RegionWith
namespace Go.Proofs.YtkpmhdpeglbacaaDoor
open Go.RowKit

set_option maxRecDepth 100000 in
set_option maxHeartbeats 4000000 in
theorem write_full (D : Nat) (l b mem : List UInt8) (A : Option Addr) (n c : Nat) (w : World) (hm0 : mem.take (l.length % 32) = l.drop (32 * (l.length / 32))) (hd : Dig w D (stN s0 l (l.length / 32)) l.length mem ((l.length % 32 : Nat) : Int))
    (hs : Sl w D A n c b) (hl : l.length ≤ 2147483647) (hn : n ≤ 40000) (hz : 0 < l.length % 32) (hfit : 32 ≤ l.length % 32 + n) :
    Calls Tryd.prog 23 #[.pointer (some ⟨D, 0, none⟩), .slice A n c] w fun e w' => e = .returned (.tuple #[.int .i64 n, .nilIface]) ∧ Dg w' D (l ++ b) ∧ Below D w w' := by
  obtain rfl := hs.len
  obtain ⟨q, hq⟩ : ∃ q, q = l.length % 32 := ⟨_, rfl⟩
  obtain ⟨s, hs0⟩ : ∃ s, s = stN s0 l (l.length / 32) := ⟨_, rfl⟩
  rw [← hq] at hm0 hd
  rw [← hs0] at hd
  have HQ := Lib.hid hq
  have HS0 := Lib.hid hs0
  have HM0 := Lib.hid hm0
  have hq32 : q < 32 := by omega
  have HML := Lib.hid hd.2
  clear hq hs0 hm0
  have hm := hs.most
  have hcc := hs.cap
  have ha := and31 q hq32
  have c4 := hd.c4
  have c5 := hd.c37
  have f4 := hd.frozen 4
  have HD := Lib.hid hd
  clear hd
  go_enter Tryd.func23, Tryd.ntmps23
  go_wp2_with fail
  obtain ⟨w1, hw1⟩ : ∃ w1, w.setCell ⟨D, 4, none⟩ (.int .u64 ((l.length : Int) + (b.length : Int))) = w1 := ⟨_, rfl⟩
  have HD1 : Hid (Dig w1 D s ((l.length : Int) + (b.length : Int)) mem q) := Lib.hid (by rw [← hw1]; exact HD.out.s4 _)
  have hb1 : Below D w w1 := by rw [← hw1]; exact (Below.refl D w).setCell (p := ⟨D, 4, none⟩) (Nat.le_refl D) _
  rw [hw1]
  clear hw1 c4 c5 f4 HD
  have c5 := HD1.out.c37
  have hi1 : (0 : Int) ≤ (q : Int) := by omega
  have hi2 : (q : Int) ≤ 32 := by omega
  have hi3 : ((q : Int)).toNat = q := by omega
  have hi4 : (q : Int) < 32 := by omega
  have hi5 : q ≤ 32 := by omega
  go_quiet (fail)
  obtain ⟨w2, hw2⟩ : ∃ w2, w1.drewN nq = w2 := ⟨_, rfl⟩
  have HD2 : Hid (Dig w2 D s ((l.length : Int) + (b.length : Int)) mem q) := Lib.hid (by rw [← hw2]; exact HD1.out.drewN nq)
  have hb2 : Below D w w2 := by rw [← hw2]; exact ⟨hb1.os, hb1.tape, hb1.output, hb1.size, hb1.block⟩
  have hs2 := hs.below hb2
  rw [hw2]
  clear hw2 nq c5 hi1 hi2 hi3 hi4 hi5 ha hb1 HD1
  have c5 := HD2.out.c37
  have f5 := HD2.out.frozen 37
  have hfq : 32 ≤ q + b.length := by have := HQ.out; omega
  have t1 : decide ((q : Int) + (b.length : Int) < 32) = false := by simp; omega
  have t2 : 0 < q := by have := HQ.out; omega
  have hq32' : q + (32 - q) = 32 := by omega
  clear hz
  go_upto_region 9 with (refine wpList_copy_dig rfl (.tmp 52) (.tmp 53) rfl HD2 hs2 q (32 - q) (32 - q) (32 - q) rfl rfl (by omega) (by omega) ?_; intro w3 HD3 hb3)
  obtain ⟨mem1, hmem1⟩ : ∃ mem1, splice mem q (b.take (32 - q)) = mem1 := ⟨_, rfl⟩
  have hml1 := HD3.out.2
  rw [hmem1] at HD3 hml1
  have hs3 := hs2.below hb3
  have hb3' := hb2.trans hb3
  have HMM := Lib.hid hmem1
  clear hmem1 c5 f5 HD2 hb2 hb3 hs2
  go_upto_region 9 with fail
  go_cut [] (fun wx => Hid (Dig wx D ((rnd s.1 (Lib.leNat ((mem1.drop 0).take 8))), s.2.1, s.2.2.1, s.2.2.2) ((l.length : Int) + (b.length : Int)) mem1 q) ∧ Below D w wx)
  case first =>
    have k0 := HD3.out.c0
    have kf := HD3.out.frozen 0
    have hsl : Sl w3.drew w3.heap.size (some ⟨D, 5 + 0, none⟩) 8 (32 - 0) ((mem1.drop 0).take 8) := by
      have := HD3.out.drew.sl w3.heap.size HD3.out.lt 0 8 (32 - 0) (by omega) (by omega) (by omega) (by omega)
      rwa [List.drop_take] at this
    have K := u64_any _ _ _ _ _ _ hsl (by omega)
    rw [List.take_of_length_le (by simp; omega)] at K
    have K := Lib.hid K
    have hmo := hsl.most
    clear hsl
    go_region_with (first
      | (go_at_call 32; refine K.out.mono ?_; rintro e w8 ⟨rfl, hb8⟩; have HD8 : Hid (Dig w8 D (s.1, s.2.1, s.2.2.1, s.2.2.2) ((l.length : Int) + (b.length : Int)) mem1 q) := Lib.hid (HD3.out.drew.below hb8 HD3.out.lt); have k8 := HD8.out.c0; have kf8 := HD8.out.frozen 0)
      | (go_at_call 31; refine (round_any _ _ _).mono ?_; rintro e w' ⟨rfl, rfl⟩))
    all_goals
      go_wp2_with fail
      go_meet
      exact ⟨Lib.hid (HD8.out.s0 _), (hb3'.drew.trans (hb8.mono (Nat.le_of_lt HD3.out.lt))).setCell (p := ⟨D, 0, none⟩) (Nat.le_refl D) _⟩
  case rest =>
  obtain ⟨HD4, hb4'⟩ := hcut
  obtain ⟨w4, hw4⟩ : ∃ w4, w4 = wc := ⟨_, rfl⟩
  subst hw4
  go_upto_region 10 with fail
  go_cut [] (fun wx => Hid (Dig wx D ((rnd s.1 (Lib.leNat ((mem1.drop 0).take 8))), (rnd s.2.1 (Lib.leNat ((mem1.drop 8).take 8))), s.2.2.1, s.2.2.2) ((l.length : Int) + (b.length : Int)) mem1 q) ∧ Below D w wx)
  case first =>
    have k0 := HD4.out.c1
    have kf := HD4.out.frozen 1
    have hsl : Sl w4.drew w4.heap.size (some ⟨D, 5 + 8, none⟩) 8 (32 - 8) ((mem1.drop 8).take 8) := by
      have := HD4.out.drew.sl w4.heap.size HD4.out.lt 8 16 (32 - 8) (by omega) (by omega) (by omega) (by omega)
      rwa [List.drop_take] at this
    have K := u64_any _ _ _ _ _ _ hsl (by omega)
    rw [List.take_of_length_le (by simp; omega)] at K
    have K := Lib.hid K
    have hmo := hsl.most
    clear hsl
    go_region_with (first
      | (go_at_call 32; refine K.out.mono ?_; rintro e w8 ⟨rfl, hb8⟩; have HD8 : Hid (Dig w8 D ((rnd s.1 (Lib.leNat ((mem1.drop 0).take 8))), s.2.1, s.2.2.1, s.2.2.2) ((l.length : Int) + (b.length : Int)) mem1 q) := Lib.hid (HD4.out.drew.below hb8 HD4.out.lt); have k8 := HD8.out.c1; have kf8 := HD8.out.frozen 1)
      | (go_at_call 31; refine (round_any _ _ _).mono ?_; rintro e w' ⟨rfl, rfl⟩))
    all_goals
      go_wp2_with fail
      go_meet
      exact ⟨Lib.hid (HD8.out.s1 _), (hb4'.drew.trans (hb8.mono (Nat.le_of_lt HD4.out.lt))).setCell (p := ⟨D, 1, none⟩) (Nat.le_refl D) _⟩
  case rest =>
  obtain ⟨HD5, hb5'⟩ := hcut
  obtain ⟨w5, hw5⟩ : ∃ w5, w5 = wc := ⟨_, rfl⟩
  subst hw5
  go_upto_region 11 with fail
  go_cut [] (fun wx => Hid (Dig wx D ((rnd s.1 (Lib.leNat ((mem1.drop 0).take 8))), (rnd s.2.1 (Lib.leNat ((mem1.drop 8).take 8))), (rnd s.2.2.1 (Lib.leNat ((mem1.drop 16).take 8))), s.2.2.2) ((l.length : Int) + (b.length : Int)) mem1 q) ∧ Below D w wx)
  case first =>
    have k0 := HD5.out.c2
    have kf := HD5.out.frozen 2
    have hsl : Sl w5.drew w5.heap.size (some ⟨D, 5 + 16, none⟩) 8 (32 - 16) ((mem1.drop 16).take 8) := by
      have := HD5.out.drew.sl w5.heap.size HD5.out.lt 16 24 (32 - 16) (by omega) (by omega) (by omega) (by omega)
      rwa [List.drop_take] at this
    have K := u64_any _ _ _ _ _ _ hsl (by omega)
    rw [List.take_of_length_le (by simp; omega)] at K
    have K := Lib.hid K
    have hmo := hsl.most
    clear hsl
    go_region_with (first
      | (go_at_call 32; refine K.out.mono ?_; rintro e w8 ⟨rfl, hb8⟩; have HD8 : Hid (Dig w8 D ((rnd s.1 (Lib.leNat ((mem1.drop 0).take 8))), (rnd s.2.1 (Lib.leNat ((mem1.drop 8).take 8))), s.2.2.1, s.2.2.2) ((l.length : Int) + (b.length : Int)) mem1 q) := Lib.hid (HD5.out.drew.below hb8 HD5.out.lt); have k8 := HD8.out.c2; have kf8 := HD8.out.frozen 2)
      | (go_at_call 31; refine (round_any _ _ _).mono ?_; rintro e w' ⟨rfl, rfl⟩))
    all_goals
      go_wp2_with fail
      go_meet
      exact ⟨Lib.hid (HD8.out.s2 _), (hb5'.drew.trans (hb8.mono (Nat.le_of_lt HD5.out.lt))).setCell (p := ⟨D, 2, none⟩) (Nat.le_refl D) _⟩
  case rest =>
  obtain ⟨HD6, hb6'⟩ := hcut
  obtain ⟨w6, hw6⟩ : ∃ w6, w6 = wc := ⟨_, rfl⟩
  subst hw6
  go_upto_region 12 with fail
  go_cut [] (fun wx => Hid (Dig wx D ((rnd s.1 (Lib.leNat ((mem1.drop 0).take 8))), (rnd s.2.1 (Lib.leNat ((mem1.drop 8).take 8))), (rnd s.2.2.1 (Lib.leNat ((mem1.drop 16).take 8))), (rnd s.2.2.2 (Lib.leNat ((mem1.drop 24).take 8)))) ((l.length : Int) + (b.length : Int)) mem1 q) ∧ Below D w wx)
  case first =>
    have k0 := HD6.out.c3
    have kf := HD6.out.frozen 3
    have hsl : Sl w6.drew w6.heap.size (some ⟨D, 5 + 24, none⟩) 8 (32 - 24) ((mem1.drop 24).take 8) := by
      have := HD6.out.drew.sl w6.heap.size HD6.out.lt 24 32 (32 - 24) (by omega) (by omega) (by omega) (by omega)
      rwa [List.drop_take] at this
    have K := u64_any _ _ _ _ _ _ hsl (by omega)
    rw [List.take_of_length_le (by simp; omega)] at K
    have K := Lib.hid K
    have hmo := hsl.most
    clear hsl
    go_region_with (first
      | (go_at_call 32; refine K.out.mono ?_; rintro e w8 ⟨rfl, hb8⟩; have HD8 : Hid (Dig w8 D ((rnd s.1 (Lib.leNat ((mem1.drop 0).take 8))), (rnd s.2.1 (Lib.leNat ((mem1.drop 8).take 8))), (rnd s.2.2.1 (Lib.leNat ((mem1.drop 16).take 8))), s.2.2.2) ((l.length : Int) + (b.length : Int)) mem1 q) := Lib.hid (HD6.out.drew.below hb8 HD6.out.lt); have k8 := HD8.out.c3; have kf8 := HD8.out.frozen 3)
      | (go_at_call 31; refine (round_any _ _ _).mono ?_; rintro e w' ⟨rfl, rfl⟩))
    all_goals
      go_wp2_with fail
      go_meet
      exact ⟨Lib.hid (HD8.out.s3 _), (hb6'.drew.trans (hb8.mono (Nat.le_of_lt HD6.out.lt))).setCell (p := ⟨D, 3, none⟩) (Nat.le_refl D) _⟩
  case rest =>
  obtain ⟨HD7, hb7'⟩ := hcut
  obtain ⟨w7, hw7⟩ : ∃ w7, w7 = wc := ⟨_, rfl⟩
  subst hw7
  obtain ⟨s7, hs7⟩ : ∃ s7, (rnd s.1 (Lib.leNat ((mem1.drop 0).take 8)), rnd s.2.1 (Lib.leNat ((mem1.drop 8).take 8)), rnd s.2.2.1 (Lib.leNat ((mem1.drop 16).take 8)), rnd s.2.2.2 (Lib.leNat ((mem1.drop 24).take 8))) = s7 := ⟨_, rfl⟩
  rw [hs7] at HD7
  have HS7 := Lib.hid hs7
  clear hs7
  have kf := HD7.out.frozen 37
  have k5 := HD7.out.c37
  have hs7 := (hs.below hb7')
  obtain ⟨p, hp⟩ : ∃ p, 32 - q = p := ⟨_, rfl⟩
  rw [hp]
  have hpb : p ≤ b.length := by omega
  obtain ⟨g, o, rfl, _, _⟩ := hs7.at_ (by omega)
  have hs4 := hs7.next p hpb
  obtain ⟨A4, hA4⟩ : ∃ A4, (if c = p then some (⟨g, o, none⟩ : Addr) else some ⟨g, o + p, none⟩) = A4 := ⟨_, rfl⟩
  rw [hA4] at hs4
  have HPP := Lib.hid hp
  have hi6 : (p : Int) ≤ (b.length : Int) := by omega
  have hi7 : ((p : Int)).toNat = p := by omega
  clear hp hs7 hs hs3 HD3 HD4 HD5 HD6 hb3' hb4' hb5' hb6'
  go_wp2_with fail
  obtain ⟨w8, hw8⟩ : ∃ w8, w7.setCell ⟨D, 37, none⟩ (.int .i64 0) = w8 := ⟨_, rfl⟩
  have HD8 : Hid (Dig w8 D s7 ((l.length : Int) + (b.length : Int)) mem1 0) := Lib.hid (by rw [← hw8]; exact HD7.out.s37 _)
  have hbs : Below D w7 w8 := by rw [← hw8]; exact (Below.refl D w7).setCell (p := ⟨D, 37, none⟩) (Nat.le_refl D) _
  have hb8 := hb7'.trans hbs
  have hs8 := hs4.below hbs
  rw [hw8]
  obtain ⟨b1, hb1⟩ : ∃ b1, b1 = b.drop p := ⟨_, rfl⟩
  rw [← hb1] at hs8
  have hb1l : b1.length = b.length - p := by rw [hb1]; simp
  rw [← hb1l] at hs8 ⊢
  obtain ⟨cm, hcm⟩ : ∃ cm, c - p = cm := ⟨_, rfl⟩
  rw [hcm] at hs8 ⊢
  have HB1 := Lib.hid hb1
  have HB1L := Lib.hid hb1l
  have hb1n : b1.length ≤ 40000 := by omega
  have hpq : p = 32 - q := HPP.out.symm
  have hLen : 32 * (l.length / 32 + 1) = l.length + p := by have := HQ.out; omega
  have HBB : Hid (b1 = (l ++ b).drop (32 * (l.length / 32 + 1))) := Lib.hid (by rw [hLen, HB1.out, ← List.drop_drop, List.drop_left])
  have hmp : mem1 = l.drop (32 * (l.length / 32)) ++ b.take p := by
    rw [← HMM.out, ← HM0.out, hpq]
    unfold splice
    rw [List.drop_of_length_le (by have := HML.out; simp; omega), List.append_nil]
  have HSS : Hid (s7 = stN s0 (l ++ b) (l.length / 32 + 1)) := Lib.hid (by
    show s7 = st (stN s0 (l ++ b) (l.length / 32)) ((l ++ b).drop (32 * (l.length / 32)))
    rw [stN_append _ _ _ _ (by omega), ← HS0.out, List.drop_append_of_le_length (by omega), ← HS7.out]
    show st s mem1 = _
    rw [show b = b.take p ++ b.drop p from (List.take_append_drop p b).symm, ← List.append_assoc, ← hmp, st_append _ _ _ (by omega)])
  have hK32 : 32 * (l.length / 32 + 1) ≤ (l ++ b).length := by rw [hLen]; simp; omega
  have t3 : decide ((131072 : Int) ≤ (b1.length : Int)) = false := by simp; omega
  clear hw8 hs4 hbs hb1 hb1l hcm hA4 hb7' HD7 kf k5 hpq hLen hmp hi6 hi7 t1 t2
  go_loopw [1] (fun s wr => s = .slice A4 b1.length cm ∧ wr = w8) (fun _ _ => 0)
  case atStart => exact ⟨rfl, rfl⟩
  case round =>
    obtain ⟨rfl, rfl⟩ := hrel
    by_cases h32 : 32 ≤ b1.length
    · have t4 : (32 : Int) ≤ (b1.length : Int) := by omega
      obtain ⟨kk, hkk⟩ : ∃ kk, 32 * (b1.length / 32) = kk := ⟨_, rfl⟩
      have CB := writeBlocks_any D s7 _ _ mem1 A4 b1.length cm b1 wr HD8.out hs8 (by omega)
      rw [hkk] at CB
      have hkb : kk ≤ b1.length := by omega
      have hlt : b1.length - kk < 32 := by omega
      have HKK := Lib.hid hkk
      obtain ⟨g2, o2, rfl, _, _⟩ := hs8.at_ (by omega)
      have hs9 := hs8.next kk hkb
      obtain ⟨A5, hA5⟩ : ∃ A5, (if cm = kk then some (⟨g2, o2, none⟩ : Addr) else some ⟨g2, o2 + kk, none⟩) = A5 := ⟨_, rfl⟩
      rw [hA5] at hs9
      have CB := Lib.hid CB
      clear hkk
      have hi6 : (kk : Int) ≤ (b1.length : Int) := by omega
      have hi7 : ((kk : Int)).toNat = kk := by omega
      have hcc8 := hs8.cap
      have hmm8 := hs8.most
      go_wp2_with (first
        | (go_at_call 43; refine CB.out.mono ?_; rintro e w9 ⟨rfl, hd9, hb9⟩; have HD9 := Lib.hid hd9; clear hd9)
        | (refine wpList_copy_dig rfl (.tmp 134) (.tmp 135) rfl HD9 (hs9.below hb9) 0 32 32 (b1.length - kk) rfl rfl (by omega) (by omega) ?_; intro w10 HD10 hb10; have g5 := HD10.out.c37; have g5' := HD10.out.frozen 37))
      go_ret2
      refine ⟨rfl, ?_, ?_⟩
      · exact dg_rest HBB HSS hK32 HKK (HD10.out.s37 _) (by simp) rfl
      · exact ((hb8.trans hb9).trans hb10).setCell (p := ⟨D, 37, none⟩) (Nat.le_refl D) _
    · have t4 : decide ((32 : Int) ≤ (b1.length : Int)) = false := by simp; omega
      have h0 : b1.length / 32 = 0 := by omega
      have HKK : Hid (32 * (b1.length / 32) = 0) := Lib.hid (by omega)
      have H0 := Lib.hid h0
      clear h0
      go_wp2_with (refine wpList_copy_dig rfl (.tmp 134) (.tmp 135) rfl HD8 hs8 0 32 32 b1.length rfl rfl (by omega) (by omega) ?_; intro w10 HD10 hb10; have g5 := HD10.out.c37; have g5' := HD10.out.frozen 37)
      go_ret2
      refine ⟨rfl, ?_, ?_⟩
      · exact dg_rest HBB HSS hK32 HKK (by rw [H0.out]; exact HD10.out.s37 _) (by simp) rfl
      · exact (hb8.trans hb10).setCell (p := ⟨D, 37, none⟩) (Nat.le_refl D) _
end Go.Proofs.YtkpmhdpeglbacaaDoor
