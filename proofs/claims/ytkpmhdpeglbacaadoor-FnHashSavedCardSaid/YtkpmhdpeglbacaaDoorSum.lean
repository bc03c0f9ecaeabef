/-
  xxhash.Sum64 is XXH64 of its bytes. Conditions: at most 2147483647 bytes; the first prime stands where the program lays it.
-/
import Derived.Test.YtkpmhdpeglbacaaDoorHashRel
namespace Go.Proofs.YtkpmhdpeglbacaaDoor
open Go.RowKit

theorem xx_big (l : List UInt8) (k : Nat) (h0 : Int) (r : List UInt8) (p : S4) (h32 : 32 ≤ l.length) (hk : k = l.length / 32) (hp : p = stN s0 l k) (hr : r = l.drop (32 * k)) (hh : IntKind.u64.wrap (conv p + l.length) = h0) : xx l = fin h0 r := by
  unfold xx start
  rw [if_pos h32, ← hk, ← hp, hh, hr]
theorem xx_small (l : List UInt8) (h32 : ¬ 32 ≤ l.length) : xx l = fin (2870177450012600261 + (l.length : Int)) l := by
  unfold xx start
  rw [if_neg h32, wraps_u64 _ (by omega) (by omega), show l.length / 32 = 0 by omega]
  rfl
theorem leNat_take_lt (l : List UInt8) (m : Nat) : Lib.leNat (l.take m) < 256 ^ m :=
  Nat.lt_of_lt_of_le (leNat_lt _) (Nat.pow_le_pow_right (by omega) (by simp; omega))
theorem leNat_take4 (l : List UInt8) : (Lib.leNat (l.take 4) : Int) < 4294967296 := by have := leNat_take_lt l 4; omega

set_option maxRecDepth 100000 in
set_option maxHeartbeats 4000000 in
theorem sum64_big (A : Option Addr) (n c : Nat) (l : List UInt8) (w : World) (hs : Sl w w.heap.size A n c l) (hn : n ≤ 2147483647) (h32 : 32 ≤ l.length)
    (hp : w.cell? ⟨0, 0, none⟩ = some (.int .u64 11400714785074694791)) :
    Calls Tryd.prog 16 #[.slice A n c] w fun e w' => e = .returned (.int .u64 (xx l)) ∧ Below w.heap.size w w' := by
  obtain rfl := hs.len
  have hm := hs.most
  have hcc := hs.cap
  have h32i : (32 : Int) ≤ (l.length : Int) := by omega
  go_enter Tryd.func16, Tryd.ntmps16
  go_wp2_with fail
  go_loopw [5, 6, 7, 8, 0] (fun a b c d s wr => RelS s0 l l.length w.heap.size w a b c d s wr) (fun _ _ _ _ s _ => slLen s)
  case atStart => exact ⟨0, A, c, by omega, rfl, rfl, rfl, rfl, by simp, by simpa using hs, Below.refl _ _⟩
  case round =>
    obtain ⟨k, A', c', hk, rfl, rfl, rfl, rfl, rfl, hs', hb⟩ := hrel
    obtain ⟨p, hp'⟩ : ∃ p, p = stN s0 l k := ⟨_, rfl⟩
    rw [← hp']
    obtain ⟨r, hr⟩ : ∃ r, r = l.drop (32 * k) := ⟨_, rfl⟩
    rw [← hr] at hs'
    have HP := Lib.hid hp'
    have HR := Lib.hid hr
    clear hp' hr
    have HZ := Lib.hid hb.size
    obtain ⟨m, hm'⟩ : ∃ m, m = l.length - 32 * k := ⟨_, rfl⟩
    rw [← hm'] at hs' ⊢
    have HM := Lib.hid hm'
    clear hm'
    have hc' := hs'.cap
    have hmm := hs'.most
    by_cases hlt : 32 ≤ m
    · obtain ⟨g, o, rfl, _, _⟩ := hs'.at_ (by omega)
      go_wp2_with fail
      refine (u64_part g o m c' _ 0 r wr _ hs' (Below.refl _ _) (by omega) m (by omega) (by omega)).mono ?_
      rintro e w1 ⟨rfl, hx1⟩
      have hb1 : Below w.heap.size wr w1 := hx1.mono HZ.out
      clear hx1
      go_wp2_with fail
      refine (round_any _ _ _).mono ?_
      rintro e w' ⟨rfl, rfl⟩
      go_wp2_with fail
      refine (u64_part g o m c' _ 8 r wr _ hs' hb1 (by omega) (m - 8) (by omega) (by omega)).mono ?_
      rintro e w2 ⟨rfl, hx2⟩
      have hb2 : Below w.heap.size wr w2 := hb1.trans (hx2.mono (Nat.le_trans HZ.out hb1.size))
      clear hx2
      go_wp2_with fail
      refine (round_any _ _ _).mono ?_
      rintro e w' ⟨rfl, rfl⟩
      go_wp2_with fail
      refine (u64_part g o m c' _ 16 r wr _ hs' hb2 (by omega) (m - 16) (by omega) (by omega)).mono ?_
      rintro e w3 ⟨rfl, hx3⟩
      have hb3 : Below w.heap.size wr w3 := hb2.trans (hx3.mono (Nat.le_trans HZ.out hb2.size))
      clear hx3
      go_wp2_with fail
      refine (round_any _ _ _).mono ?_
      rintro e w' ⟨rfl, rfl⟩
      go_wp2_with fail
      refine (u64_part g o m c' _ 24 r wr _ hs' hb3 (by omega) (m - 24) (by omega) (by omega)).mono ?_
      rintro e w4 ⟨rfl, hx4⟩
      have hb4 : Below w.heap.size wr w4 := hb3.trans (hx4.mono (Nat.le_trans HZ.out hb3.size))
      clear hx4
      go_wp2_with fail
      refine (round_any _ _ _).mono ?_
      rintro e w' ⟨rfl, rfl⟩
      go_wp2_with fail
      go_roundw
      case rel => exact relS_step HP HR HM hlt hs' hb hb4
      case measure => simp only [slLen_slice]; omega
    · have hk32 : Hid (k = l.length / 32) := Lib.hid (by have := HM.out; omega)
      go_wp2_with (first
        | (go_at_call 33; refine (rol1_any _ _).mono ?_; rintro e w' ⟨rfl, rfl⟩)
        | (go_at_call 34; refine (rol7_any _ _).mono ?_; rintro e w' ⟨rfl, rfl⟩)
        | (go_at_call 35; refine (rol12_any _ _).mono ?_; rintro e w' ⟨rfl, rfl⟩)
        | (go_at_call 36; refine (rol18_any _ _).mono ?_; rintro e w' ⟨rfl, rfl⟩)
        | (go_at_call 37; refine (mergeRound_any _ _ _).mono ?_; rintro e w' ⟨rfl, rfl⟩))
      generalize hq0 : IntKind.u64.wrap (mrg (mrg (mrg (mrg (IntKind.u64.wrap (IntKind.u64.wrap (IntKind.u64.wrap (rot p.1 1 + rot p.2.1 7) + rot p.2.2.1 12) + rot p.2.2.2 18)) p.1) p.2.1) p.2.2.1) p.2.2.2 + (l.length : Int)) = h0
      have hxx : Hid (xx l = fin h0 r) := Lib.hid (xx_big l k h0 r p h32 hk32.out HP.out HR.out hq0)
      clear hq0
      obtain rfl : r.length = m := hs'.len
      have hs2 := hs'
      have hb2 := hb
      go_loopw [9, 4, 0] (fun _ h s wr => Rel8 h0 r w.heap.size w h s wr) (fun _ _ s _ => slLen s)
      case atStart => exact ⟨0, _, _, by omega, rfl, rfl, hs2, hb2⟩
      case round =>
        obtain ⟨j, A2, c2, hj, rfl, rfl, hs3, hb3⟩ := hrel
        obtain ⟨q, hq⟩ : ∃ q, q = t8 h0 r j := ⟨_, rfl⟩
        obtain ⟨r', hr'⟩ : ∃ r', r' = r.drop (8 * j) := ⟨_, rfl⟩
        obtain ⟨m8, hm8⟩ : ∃ m8, m8 = r.length - 8 * j := ⟨_, rfl⟩
        rw [← hr'] at hs3
        rw [← hm8] at hs3 ⊢
        rw [← hq]
        have HQ := Lib.hid hq
        have HR' := Lib.hid hr'
        have HM8 := Lib.hid hm8
        have HZ3 := Lib.hid hb3.size
        clear hq hr' hm8
        have hm3 := hs3.most
        have hc3 := hs3.cap
        by_cases h8 : 8 ≤ m8
        · obtain ⟨g2, o2, rfl, _, _⟩ := hs3.at_ (by omega)
          go_wp2_with fail
          refine (u64_part g2 o2 m8 c2 _ 0 r' wr _ hs3 (Below.refl _ _) (by omega) c2 (by omega) (by omega)).mono ?_
          rintro e w1 ⟨rfl, hx1⟩
          have hb4 : Below w.heap.size wr w1 := hx1.mono HZ3.out
          clear hx1
          go_wp2_with fail
          refine (round_any _ _ _).mono ?_
          rintro e w' ⟨rfl, rfl⟩
          go_wp2_with fail
          refine (rol27_any _ _).mono ?_
          rintro e w' ⟨rfl, rfl⟩
          go_wp2_with fail
          go_roundw
          case rel => exact rel8_step HQ HR' HM8 h8 hs3 hb3 hb4 _ rfl
          case measure => simp only [slLen_slice]; omega
        · have hj8 : Hid (j = r.length / 8) := Lib.hid (by have := HM8.out; omega)
          have hl8 : r'.length = m8 := hs3.len
          by_cases h4 : 4 ≤ m8
          · obtain ⟨g2, o2, rfl, _, _⟩ := hs3.at_ (by omega)
            have hfin : Hid (fin h0 r = av (t1 (e4 q (Lib.leNat (r'.take 4))) (r'.drop 4))) := Lib.hid (by
              unfold fin
              rw [← hj8.out, ← HQ.out, ← HR'.out]
              exact finA_4 _ _ (by omega))
            have HL8 := Lib.hid hl8
            clear hl8
            go_wp2_with fail
            refine (u32_part g2 o2 m8 c2 _ 0 r' wr _ hs3 (Below.refl _ _) (by omega) c2 (by omega) (by omega)).mono ?_
            rintro e w1 ⟨rfl, hx1⟩
            have hb4 : Below w.heap.size wr w1 := hx1.mono HZ3.out
            clear hx1
            have hlt4 := leNat_take4 r'
            have hs5 := (hs3.below hb4).next 4 h4
            obtain ⟨A4, hA4⟩ : ∃ A4, (if c2 = 4 then some (⟨g2, o2, none⟩ : Addr) else some ⟨g2, o2 + 4, none⟩) = A4 := ⟨_, rfl⟩
            rw [hA4] at hs5
            have hb5 := hb3.trans hb4
            go_wp2_with fail
            clear hlt4
            refine (rol23_any _ _).mono ?_
            rintro e w' ⟨rfl, rfl⟩
            go_wp2_with fail
            obtain ⟨T, hT⟩ : ∃ T, T = t1 (e4 q (Lib.leNat (r'.take 4))) (r'.drop 4) := ⟨_, rfl⟩
            rw [← hT] at hfin
            have HT0 := Lib.hid hT
            clear hT
            have h5l : (r'.drop 4).length = m8 - 4 := hs5.len
            go_loopw [4, 0] (fun h s wr => Rel1 T w.heap.size w h s wr) (fun _ s _ => slLen s)
            case atStart => exact ⟨_, r'.drop 4, _, _, rfl, by rw [h5l], by rw [h5l]; exact hs5, Lib.hid HT0.out.symm, hb5⟩
            case round =>
              obtain ⟨q1, rr, A3, c3, rfl, rfl, hs6, HT, hb6⟩ := hrel
              have hm6 := hs6.most
              have hc6 := hs6.cap
              rcases rr with _ | ⟨b, rr⟩
              · go_wp2_with fail
                go_ret
                exact ⟨by rw [hxx.out, hfin.out, ← HT.out]; rfl, hb6⟩
              · obtain ⟨g3, o3, rfl, _, hcell⟩ := hs6.at_ (by simp)
                have hc0 := hcell 0 (by simp)
                simp only [Nat.add_zero, List.getElem_cons_zero] at hc0
                have hbl : (b.toNat : Int) < 256 := by have := b.toNat_lt; omega
                clear hcell
                go_wp2_with fail
                refine (rol11_any _ _).mono ?_
                rintro e w' ⟨rfl, rfl⟩
                go_wp2_with fail
                go_roundw
                case rel => exact rel1_step HT hs6 hb6 _ rfl
                case measure => simp only [slLen_slice, List.length_cons]; omega
          · have hfin : Hid (fin h0 r = av (t1 q r')) := Lib.hid (by
              unfold fin
              rw [← hj8.out, ← HQ.out, ← HR'.out]
              exact finA_0 _ _ (by omega))
            have hs5 := hs3
            have hb5 := hb3
            go_wp2_with fail
            obtain ⟨T, hT⟩ : ∃ T, T = t1 q r' := ⟨_, rfl⟩
            rw [← hT] at hfin
            have HT0 := Lib.hid hT
            clear hT
            go_loopw [4, 0] (fun h s wr => Rel1 T w.heap.size w h s wr) (fun _ s _ => slLen s)
            case atStart => exact ⟨_, r', _, _, rfl, by rw [hl8], by rw [hl8]; exact hs5, Lib.hid HT0.out.symm, hb5⟩
            case round =>
              obtain ⟨q1, rr, A3, c3, rfl, rfl, hs6, HT, hb6⟩ := hrel
              have hm6 := hs6.most
              have hc6 := hs6.cap
              rcases rr with _ | ⟨b, rr⟩
              · go_wp2_with fail
                go_ret
                exact ⟨by rw [hxx.out, hfin.out, ← HT.out]; rfl, hb6⟩
              · obtain ⟨g3, o3, rfl, _, hcell⟩ := hs6.at_ (by simp)
                have hc0 := hcell 0 (by simp)
                simp only [Nat.add_zero, List.getElem_cons_zero] at hc0
                have hbl : (b.toNat : Int) < 256 := by have := b.toNat_lt; omega
                clear hcell
                go_wp2_with fail
                refine (rol11_any _ _).mono ?_
                rintro e w' ⟨rfl, rfl⟩
                go_wp2_with fail
                go_roundw
                case rel => exact rel1_step HT hs6 hb6 _ rfl
                case measure => simp only [slLen_slice, List.length_cons]; omega

set_option maxRecDepth 100000 in
set_option maxHeartbeats 4000000 in
theorem sum64_small (A : Option Addr) (n c : Nat) (l : List UInt8) (w : World) (hs : Sl w w.heap.size A n c l) (h32 : ¬ 32 ≤ l.length) :
    Calls Tryd.prog 16 #[.slice A n c] w fun e w' => e = .returned (.int .u64 (xx l)) ∧ Below w.heap.size w w' := by
  obtain rfl := hs.len
  have hm := hs.most
  have hcc := hs.cap
  have hxx : Hid (xx l = fin (2870177450012600261 + (l.length : Int)) l) := Lib.hid (xx_small l h32)
  have h32i : decide ((32 : Int) ≤ (l.length : Int)) = false := by simp; omega
  go_enter Tryd.func16, Tryd.ntmps16
  go_wp2_with fail
  generalize 2870177450012600261 + (l.length : Int) = h0 at hxx ⊢
  have hs2 := hs
  have hb2 : Below w.heap.size w w := Below.refl _ _
  go_loopw [9, 4, 0] (fun _ h s wr => Rel8 h0 l w.heap.size w h s wr) (fun _ _ s _ => slLen s)
  case atStart => exact ⟨0, _, _, by omega, rfl, rfl, hs2, hb2⟩
  case round =>
    obtain ⟨j, A2, c2, hj, rfl, rfl, hs3, hb3⟩ := hrel
    obtain ⟨q, hq⟩ : ∃ q, q = t8 h0 l j := ⟨_, rfl⟩
    obtain ⟨l', hr'⟩ : ∃ l', l' = l.drop (8 * j) := ⟨_, rfl⟩
    obtain ⟨m8, hm8⟩ : ∃ m8, m8 = l.length - 8 * j := ⟨_, rfl⟩
    rw [← hr'] at hs3
    rw [← hm8] at hs3 ⊢
    rw [← hq]
    have HQ := Lib.hid hq
    have HR' := Lib.hid hr'
    have HM8 := Lib.hid hm8
    have HZ3 := Lib.hid hb3.size
    clear hq hr' hm8
    have hm3 := hs3.most
    have hc3 := hs3.cap
    by_cases h8 : 8 ≤ m8
    · obtain ⟨g2, o2, rfl, _, _⟩ := hs3.at_ (by omega)
      go_wp2_with fail
      refine (u64_part g2 o2 m8 c2 _ 0 l' wr _ hs3 (Below.refl _ _) (by omega) c2 (by omega) (by omega)).mono ?_
      rintro e w1 ⟨rfl, hx1⟩
      have hb4 : Below w.heap.size wr w1 := hx1.mono HZ3.out
      clear hx1
      go_wp2_with fail
      refine (round_any _ _ _).mono ?_
      rintro e w' ⟨rfl, rfl⟩
      go_wp2_with fail
      refine (rol27_any _ _).mono ?_
      rintro e w' ⟨rfl, rfl⟩
      go_wp2_with fail
      go_roundw
      case rel => exact rel8_step HQ HR' HM8 h8 hs3 hb3 hb4 _ rfl
      case measure => simp only [slLen_slice]; omega
    · have hj8 : Hid (j = l.length / 8) := Lib.hid (by have := HM8.out; omega)
      have hl8 : l'.length = m8 := hs3.len
      by_cases h4 : 4 ≤ m8
      · obtain ⟨g2, o2, rfl, _, _⟩ := hs3.at_ (by omega)
        have hfin : Hid (fin h0 l = av (t1 (e4 q (Lib.leNat (l'.take 4))) (l'.drop 4))) := Lib.hid (by
          unfold fin
          rw [← hj8.out, ← HQ.out, ← HR'.out]
          exact finA_4 _ _ (by omega))
        have HL8 := Lib.hid hl8
        clear hl8
        go_wp2_with fail
        refine (u32_part g2 o2 m8 c2 _ 0 l' wr _ hs3 (Below.refl _ _) (by omega) c2 (by omega) (by omega)).mono ?_
        rintro e w1 ⟨rfl, hx1⟩
        have hb4 : Below w.heap.size wr w1 := hx1.mono HZ3.out
        clear hx1
        have hlt4 := leNat_take4 l'
        have hs5 := (hs3.below hb4).next 4 h4
        obtain ⟨A4, hA4⟩ : ∃ A4, (if c2 = 4 then some (⟨g2, o2, none⟩ : Addr) else some ⟨g2, o2 + 4, none⟩) = A4 := ⟨_, rfl⟩
        rw [hA4] at hs5
        have hb5 := hb3.trans hb4
        go_wp2_with fail
        clear hlt4
        refine (rol23_any _ _).mono ?_
        rintro e w' ⟨rfl, rfl⟩
        go_wp2_with fail
        obtain ⟨T, hT⟩ : ∃ T, T = t1 (e4 q (Lib.leNat (l'.take 4))) (l'.drop 4) := ⟨_, rfl⟩
        rw [← hT] at hfin
        have HT0 := Lib.hid hT
        clear hT
        have h5l : (l'.drop 4).length = m8 - 4 := hs5.len
        go_loopw [4, 0] (fun h s wr => Rel1 T w.heap.size w h s wr) (fun _ s _ => slLen s)
        case atStart => exact ⟨_, l'.drop 4, _, _, rfl, by rw [h5l], by rw [h5l]; exact hs5, Lib.hid HT0.out.symm, hb5⟩
        case round =>
          obtain ⟨q1, rr, A3, c3, rfl, rfl, hs6, HT, hb6⟩ := hrel
          have hm6 := hs6.most
          have hc6 := hs6.cap
          rcases rr with _ | ⟨b, rr⟩
          · go_wp2_with fail
            go_ret
            exact ⟨by rw [hxx.out, hfin.out, ← HT.out]; rfl, hb6⟩
          · obtain ⟨g3, o3, rfl, _, hcell⟩ := hs6.at_ (by simp)
            have hc0 := hcell 0 (by simp)
            simp only [Nat.add_zero, List.getElem_cons_zero] at hc0
            have hbl : (b.toNat : Int) < 256 := by have := b.toNat_lt; omega
            clear hcell
            go_wp2_with fail
            refine (rol11_any _ _).mono ?_
            rintro e w' ⟨rfl, rfl⟩
            go_wp2_with fail
            go_roundw
            case rel => exact rel1_step HT hs6 hb6 _ rfl
            case measure => simp only [slLen_slice, List.length_cons]; omega
      · have hfin : Hid (fin h0 l = av (t1 q l')) := Lib.hid (by
          unfold fin
          rw [← hj8.out, ← HQ.out, ← HR'.out]
          exact finA_0 _ _ (by omega))
        have hs5 := hs3
        have hb5 := hb3
        go_wp2_with fail
        obtain ⟨T, hT⟩ : ∃ T, T = t1 q l' := ⟨_, rfl⟩
        rw [← hT] at hfin
        have HT0 := Lib.hid hT
        clear hT
        go_loopw [4, 0] (fun h s wr => Rel1 T w.heap.size w h s wr) (fun _ s _ => slLen s)
        case atStart => exact ⟨_, l', _, _, rfl, by rw [hl8], by rw [hl8]; exact hs5, Lib.hid HT0.out.symm, hb5⟩
        case round =>
          obtain ⟨q1, rr, A3, c3, rfl, rfl, hs6, HT, hb6⟩ := hrel
          have hm6 := hs6.most
          have hc6 := hs6.cap
          rcases rr with _ | ⟨b, rr⟩
          · go_wp2_with fail
            go_ret
            exact ⟨by rw [hxx.out, hfin.out, ← HT.out]; rfl, hb6⟩
          · obtain ⟨g3, o3, rfl, _, hcell⟩ := hs6.at_ (by simp)
            have hc0 := hcell 0 (by simp)
            simp only [Nat.add_zero, List.getElem_cons_zero] at hc0
            have hbl : (b.toNat : Int) < 256 := by have := b.toNat_lt; omega
            clear hcell
            go_wp2_with fail
            refine (rol11_any _ _).mono ?_
            rintro e w' ⟨rfl, rfl⟩
            go_wp2_with fail
            go_roundw
            case rel => exact rel1_step HT hs6 hb6 _ rfl
            case measure => simp only [slLen_slice, List.length_cons]; omega

theorem sum64_any (A : Option Addr) (n c : Nat) (l : List UInt8) (w : World) (hs : Sl w w.heap.size A n c l) (hn : n ≤ 2147483647)
    (hp : w.cell? ⟨0, 0, none⟩ = some (.int .u64 11400714785074694791)) :
    Calls Tryd.prog 16 #[.slice A n c] w fun e w' => e = .returned (.int .u64 (xx l)) ∧ Below w.heap.size w w' := by
  by_cases h32 : 32 ≤ l.length
  · exact sum64_big A n c l w hs hn h32 hp
  · exact sum64_small A n c l w hs h32
end Go.Proofs.YtkpmhdpeglbacaaDoor
