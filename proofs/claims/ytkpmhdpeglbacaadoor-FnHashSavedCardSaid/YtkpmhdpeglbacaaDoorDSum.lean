/-
  (*xxhash.Digest).Sum64 is XXH64 of the bytes that the digest has taken up. Conditions: at most 2147483647 bytes.
-/
import Derived.Test.YtkpmhdpeglbacaaDoorDig
import Derived.Test.YtkpmhdpeglbacaaDoorSum
import Derived.Deep.QuietTactic
import Derived.BigQuiet
namespace Go.Proofs.YtkpmhdpeglbacaaDoor
open Go.RowKit

theorem and31 (n : Nat) (h : n < 32) : bits .and .i64 (n : Int) 31 = (n : Int) := by
  have key : ∀ i : Fin 32, bits .and .i64 ((i.val : Nat) : Int) 31 = ((i.val : Nat) : Int) := by decide +kernel
  exact key ⟨n, h⟩

set_option maxRecDepth 100000 in
set_option maxHeartbeats 4000000 in
theorem dsum_big (D : Nat) (l mem : List UInt8) (w : World) (hm0 : mem.take (l.length % 32) = l.drop (32 * (l.length / 32))) (hd : Dig w D (stN s0 l (l.length / 32)) l.length mem ((l.length % 32 : Nat) : Int)) (hn : l.length ≤ 2147483647) (h32 : 32 ≤ l.length) :
    Calls Tryd.prog 25 #[.pointer (some ⟨D, 0, none⟩)] w fun e w' => e = .returned (.int .u64 (xx l)) ∧ Below w.heap.size w w' := by
  obtain ⟨r, hr⟩ : ∃ r, r = l.drop (32 * (l.length / 32)) := ⟨_, rfl⟩
  obtain ⟨p, hp⟩ : ∃ p, p = stN s0 l (l.length / 32) := ⟨_, rfl⟩
  rw [← hr] at hm0
  rw [← hp] at hd
  have HP := Lib.hid hp
  have HR := Lib.hid hr
  have hrl : r.length = l.length % 32 := by rw [hr]; simp; omega
  clear hp hr
  have hs : Sl w w.heap.size (some ⟨D, 5, none⟩) r.length 32 r := by
    have := hd.sl w.heap.size hd.lt 0 r.length 32 (by omega) (by omega) (by omega) (by omega)
    rw [hrl, hm0] at this
    rw [hrl]
    simpa using this
  rw [← hrl] at hd
  have hrlt : r.length < 32 := by omega
  clear hm0
  have hm := hs.most
  have ha := and31 r.length hrlt
  have h32i : (32 : Int) ≤ (l.length : Int) := by omega
  have c0 := hd.c0
  have c1 := hd.c1
  have c2 := hd.c2
  have c3 := hd.c3
  have c4 := hd.c4
  have c5 := hd.c37
  have HD := Lib.hid hd
  have HRL := Lib.hid hrl
  clear hd hrl
  go_enter Tryd.func25, Tryd.ntmps25
  go_wp2_with fail
  go_quiet (fail)
  obtain ⟨w1, hw1⟩ : ∃ w1, w.drewN nq = w1 := ⟨_, rfl⟩
  have hb1 : Below w.heap.size w w1 := by rw [← hw1]; exact drewN_below w nq
  have HD1 : Hid (Dig w1 D p l.length mem r.length) := Lib.hid (by rw [← hw1]; exact HD.out.drewN nq)
  rw [hw1]
  clear hw1 nq c0 c1 c2 c3 c4 c5
  have c4 := HD1.out.c4
  have c5 := HD1.out.c37
  go_wp2_with (first
        | (go_at_call 33; refine (rol1_any _ _).mono ?_; rintro e w' ⟨rfl, rfl⟩)
        | (go_at_call 34; refine (rol7_any _ _).mono ?_; rintro e w' ⟨rfl, rfl⟩)
        | (go_at_call 35; refine (rol12_any _ _).mono ?_; rintro e w' ⟨rfl, rfl⟩)
        | (go_at_call 36; refine (rol18_any _ _).mono ?_; rintro e w' ⟨rfl, rfl⟩)
        | (go_at_call 37; refine (mergeRound_any _ _ _).mono ?_; rintro e w' ⟨rfl, rfl⟩))
  have hi1 : (0 : Int) ≤ (r.length : Int) := by omega
  have hi2 : (r.length : Int) ≤ 32 := by omega
  have hi3 : ((r.length : Int)).toNat = r.length := by omega
  have hi4 : (r.length : Int) < 32 := by omega
  have hi5 : r.length ≤ 32 := by omega
  go_quiet (fail)
  obtain ⟨w2, hw2⟩ : ∃ w2, w1.drewN nq = w2 := ⟨_, rfl⟩
  have hb2 : Below w.heap.size w w2 := by rw [← hw2]; exact ⟨hb1.os, hb1.tape, hb1.output, hb1.size, hb1.block⟩
  have hs2 := hs.below hb2
  rw [hw2]
  clear hw2 nq c4 c5 hi1 hi2 hi3 hi4 hi5 ha hb1 HD1 hs h32i
  go_wp2_with fail
  generalize hq0 : IntKind.u64.wrap (mrg (mrg (mrg (mrg (IntKind.u64.wrap (IntKind.u64.wrap (IntKind.u64.wrap (rot p.1 1 + rot p.2.1 7) + rot p.2.2.1 12) + rot p.2.2.2 18)) p.1) p.2.1) p.2.2.1) p.2.2.2 + (l.length : Int)) = h0
  have hxx : Hid (xx l = fin h0 r) := Lib.hid (xx_big l (l.length / 32) h0 r p h32 rfl HP.out HR.out hq0)
  clear hq0
  go_loopw [9, 3, 8] (fun _ h s wr => Rel8 h0 r w.heap.size w h s wr) (fun _ _ s _ => slLen s)
  case atStart => exact ⟨0, _, _, by omega, rfl, rfl, hs2, hb2⟩
  case round =>
    obtain ⟨j, A2, c2, hj, rfl, rfl, hs3, hb3⟩ := hrel
    obtain ⟨q, hq⟩ : ∃ q, q = t8 h0 r j := ⟨_, rfl⟩
    obtain ⟨r', hr'⟩ : ∃ r', r' = r.drop (8 * j) := ⟨_, rfl⟩
    obtain ⟨m8, hm8⟩ : ∃ m8, m8 = r.length - 8 * j := ⟨_, rfl⟩
    rw [← hr'] at hs3
    rw [← hm8] at hs3 ⊢
    rw [← hq]
    have HQ := Lib.hid hq
    have HR' := Lib.hid hr'
    have HM8 := Lib.hid hm8
    have HZ3 := Lib.hid hb3.size
    clear hq hr' hm8
    have hm3 := hs3.most
    have hc3 := hs3.cap
    by_cases h8 : 8 ≤ m8
    · obtain ⟨g2, o2, rfl, _, _⟩ := hs3.at_ (by omega)
      go_wp2_with fail
      refine (u64_part g2 o2 m8 c2 _ 0 r' wr _ hs3 (Below.refl _ _) (by omega) c2 (by omega) (by omega)).mono ?_
      rintro e w1 ⟨rfl, hx1⟩
      have hb4 : Below w.heap.size wr w1 := hx1.mono HZ3.out
      clear hx1
      go_wp2_with fail
      refine (round_any _ _ _).mono ?_
      rintro e w' ⟨rfl, rfl⟩
      go_wp2_with fail
      refine (rol27_any _ _).mono ?_
      rintro e w' ⟨rfl, rfl⟩
      go_wp2_with fail
      go_roundw
      case rel => exact rel8_step HQ HR' HM8 h8 hs3 hb3 hb4 _ rfl
      case measure => simp only [slLen_slice]; omega
    · have hj8 : Hid (j = r.length / 8) := Lib.hid (by have := HM8.out; omega)
      have hl8 : r'.length = m8 := hs3.len
      by_cases h4 : 4 ≤ m8
      · obtain ⟨g2, o2, rfl, _, _⟩ := hs3.at_ (by omega)
        have hfin : Hid (fin h0 r = av (t1 (e4 q (Lib.leNat (r'.take 4))) (r'.drop 4))) := Lib.hid (by
          unfold fin
          rw [← hj8.out, ← HQ.out, ← HR'.out]
          exact finA_4 _ _ (by omega))
        have HL8 := Lib.hid hl8
        clear hl8
        go_wp2_with fail
        refine (u32_part g2 o2 m8 c2 _ 0 r' wr _ hs3 (Below.refl _ _) (by omega) c2 (by omega) (by omega)).mono ?_
        rintro e w1 ⟨rfl, hx1⟩
        have hb4 : Below w.heap.size wr w1 := hx1.mono HZ3.out
        clear hx1
        have hlt4 := leNat_take4 r'
        have hs5 := (hs3.below hb4).next 4 h4
        obtain ⟨A4, hA4⟩ : ∃ A4, (if c2 = 4 then some (⟨g2, o2, none⟩ : Addr) else some ⟨g2, o2 + 4, none⟩) = A4 := ⟨_, rfl⟩
        rw [hA4] at hs5
        have hb5 := hb3.trans hb4
        go_wp2_with fail
        clear hlt4
        refine (rol23_any _ _).mono ?_
        rintro e w' ⟨rfl, rfl⟩
        go_wp2_with fail
        obtain ⟨T, hT⟩ : ∃ T, T = t1 (e4 q (Lib.leNat (r'.take 4))) (r'.drop 4) := ⟨_, rfl⟩
        rw [← hT] at hfin
        have HT0 := Lib.hid hT
        clear hT
        have h5l : (r'.drop 4).length = m8 - 4 := hs5.len
        go_loopw [3, 8] (fun h s wr => Rel1 T w.heap.size w h s wr) (fun _ s _ => slLen s)
        case atStart => exact ⟨_, r'.drop 4, _, _, rfl, by rw [h5l], by rw [h5l]; exact hs5, Lib.hid HT0.out.symm, hb5⟩
        case round =>
          obtain ⟨q1, rr, A3, c3, rfl, rfl, hs6, HT, hb6⟩ := hrel
          have hm6 := hs6.most
          have hc6 := hs6.cap
          rcases rr with _ | ⟨b, rr⟩
          · go_wp2_with fail
            go_ret
            exact ⟨by rw [hxx.out, hfin.out, ← HT.out]; rfl, hb6⟩
          · obtain ⟨g3, o3, rfl, _, hcell⟩ := hs6.at_ (by simp)
            have hc0 := hcell 0 (by simp)
            simp only [Nat.add_zero, List.getElem_cons_zero] at hc0
            have hbl : (b.toNat : Int) < 256 := by have := b.toNat_lt; omega
            clear hcell
            go_wp2_with fail
            refine (rol11_any _ _).mono ?_
            rintro e w' ⟨rfl, rfl⟩
            go_wp2_with fail
            go_roundw
            case rel => exact rel1_step HT hs6 hb6 _ rfl
            case measure => simp only [slLen_slice, List.length_cons]; omega
      · have hfin : Hid (fin h0 r = av (t1 q r')) := Lib.hid (by
          unfold fin
          rw [← hj8.out, ← HQ.out, ← HR'.out]
          exact finA_0 _ _ (by omega))
        have hs5 := hs3
        have hb5 := hb3
        go_wp2_with fail
        obtain ⟨T, hT⟩ : ∃ T, T = t1 q r' := ⟨_, rfl⟩
        rw [← hT] at hfin
        have HT0 := Lib.hid hT
        clear hT
        go_loopw [3, 8] (fun h s wr => Rel1 T w.heap.size w h s wr) (fun _ s _ => slLen s)
        case atStart => exact ⟨_, r', _, _, rfl, by rw [hl8], by rw [hl8]; exact hs5, Lib.hid HT0.out.symm, hb5⟩
        case round =>
          obtain ⟨q1, rr, A3, c3, rfl, rfl, hs6, HT, hb6⟩ := hrel
          have hm6 := hs6.most
          have hc6 := hs6.cap
          rcases rr with _ | ⟨b, rr⟩
          · go_wp2_with fail
            go_ret
            exact ⟨by rw [hxx.out, hfin.out, ← HT.out]; rfl, hb6⟩
          · obtain ⟨g3, o3, rfl, _, hcell⟩ := hs6.at_ (by simp)
            have hc0 := hcell 0 (by simp)
            simp only [Nat.add_zero, List.getElem_cons_zero] at hc0
            have hbl : (b.toNat : Int) < 256 := by have := b.toNat_lt; omega
            clear hcell
            go_wp2_with fail
            refine (rol11_any _ _).mono ?_
            rintro e w' ⟨rfl, rfl⟩
            go_wp2_with fail
            go_roundw
            case rel => exact rel1_step HT hs6 hb6 _ rfl
            case measure => simp only [slLen_slice, List.length_cons]; omega

set_option maxRecDepth 100000 in
set_option maxHeartbeats 4000000 in
theorem dsum_small (D : Nat) (l mem : List UInt8) (w : World) (hm0 : mem.take l.length = l) (hd : Dig w D s0 l.length mem (l.length : Int)) (h32 : ¬ 32 ≤ l.length) :
    Calls Tryd.prog 25 #[.pointer (some ⟨D, 0, none⟩)] w fun e w' => e = .returned (.int .u64 (xx l)) ∧ Below w.heap.size w w' := by
  have hs : Sl w w.heap.size (some ⟨D, 5, none⟩) l.length 32 l := by
    have := hd.sl w.heap.size hd.lt 0 l.length 32 (by omega) (by omega) (by omega) (by omega)
    rw [hm0] at this
    simpa using this
  clear hm0
  have hm := hs.most
  have ha := and31 l.length (by omega)
  have h32i : decide ((32 : Int) ≤ (l.length : Int)) = false := by simp; omega
  have hxx : Hid (xx l = fin (2870177450012600261 + (l.length : Int)) l) := Lib.hid (xx_small l h32)
  have c2 : w.cell? ⟨D, 2, none⟩ = some (.int .u64 0) := hd.c2
  have c4 := hd.c4
  have c5 := hd.c37
  have HD := Lib.hid hd
  clear hd
  go_enter Tryd.func25, Tryd.ntmps25
  go_wp2_with fail
  try (go_quiet (fail); go_wp2_with fail)
  have hi1 : (0 : Int) ≤ (l.length : Int) := by omega
  have hi2 : (l.length : Int) ≤ 32 := by omega
  have hi3 : ((l.length : Int)).toNat = l.length := by omega
  have hi4 : (l.length : Int) < 32 := by omega
  have hi5 : l.length ≤ 32 := by omega
  go_quiet (fail)
  obtain ⟨w2, hw2⟩ : ∃ w2, w.drewN nq = w2 := ⟨_, rfl⟩
  have hb2 : Below w.heap.size w w2 := by rw [← hw2]; exact drewN_below w nq
  have hs2 := hs.below hb2
  rw [hw2]
  clear hw2 nq c2 c4 c5 hi1 hi2 hi3 hi4 hi5 ha hs h32i HD
  go_wp2_with fail
  generalize 2870177450012600261 + (l.length : Int) = h0 at hxx ⊢
  go_loopw [9, 3, 8] (fun _ h s wr => Rel8 h0 l w.heap.size w h s wr) (fun _ _ s _ => slLen s)
  case atStart => exact ⟨0, _, _, by omega, rfl, rfl, hs2, hb2⟩
  case round =>
    obtain ⟨j, A2, c2, hj, rfl, rfl, hs3, hb3⟩ := hrel
    obtain ⟨q, hq⟩ : ∃ q, q = t8 h0 l j := ⟨_, rfl⟩
    obtain ⟨l', hr'⟩ : ∃ l', l' = l.drop (8 * j) := ⟨_, rfl⟩
    obtain ⟨m8, hm8⟩ : ∃ m8, m8 = l.length - 8 * j := ⟨_, rfl⟩
    rw [← hr'] at hs3
    rw [← hm8] at hs3 ⊢
    rw [← hq]
    have HQ := Lib.hid hq
    have HR' := Lib.hid hr'
    have HM8 := Lib.hid hm8
    have HZ3 := Lib.hid hb3.size
    clear hq hr' hm8
    have hm3 := hs3.most
    have hc3 := hs3.cap
    by_cases h8 : 8 ≤ m8
    · obtain ⟨g2, o2, rfl, _, _⟩ := hs3.at_ (by omega)
      go_wp2_with fail
      refine (u64_part g2 o2 m8 c2 _ 0 l' wr _ hs3 (Below.refl _ _) (by omega) c2 (by omega) (by omega)).mono ?_
      rintro e w1 ⟨rfl, hx1⟩
      have hb4 : Below w.heap.size wr w1 := hx1.mono HZ3.out
      clear hx1
      go_wp2_with fail
      refine (round_any _ _ _).mono ?_
      rintro e w' ⟨rfl, rfl⟩
      go_wp2_with fail
      refine (rol27_any _ _).mono ?_
      rintro e w' ⟨rfl, rfl⟩
      go_wp2_with fail
      go_roundw
      case rel => exact rel8_step HQ HR' HM8 h8 hs3 hb3 hb4 _ rfl
      case measure => simp only [slLen_slice]; omega
    · have hj8 : Hid (j = l.length / 8) := Lib.hid (by have := HM8.out; omega)
      have hl8 : l'.length = m8 := hs3.len
      by_cases h4 : 4 ≤ m8
      · obtain ⟨g2, o2, rfl, _, _⟩ := hs3.at_ (by omega)
        have hfin : Hid (fin h0 l = av (t1 (e4 q (Lib.leNat (l'.take 4))) (l'.drop 4))) := Lib.hid (by
          unfold fin
          rw [← hj8.out, ← HQ.out, ← HR'.out]
          exact finA_4 _ _ (by omega))
        have HL8 := Lib.hid hl8
        clear hl8
        go_wp2_with fail
        refine (u32_part g2 o2 m8 c2 _ 0 l' wr _ hs3 (Below.refl _ _) (by omega) c2 (by omega) (by omega)).mono ?_
        rintro e w1 ⟨rfl, hx1⟩
        have hb4 : Below w.heap.size wr w1 := hx1.mono HZ3.out
        clear hx1
        have hlt4 := leNat_take4 l'
        have hs5 := (hs3.below hb4).next 4 h4
        obtain ⟨A4, hA4⟩ : ∃ A4, (if c2 = 4 then some (⟨g2, o2, none⟩ : Addr) else some ⟨g2, o2 + 4, none⟩) = A4 := ⟨_, rfl⟩
        rw [hA4] at hs5
        have hb5 := hb3.trans hb4
        go_wp2_with fail
        clear hlt4
        refine (rol23_any _ _).mono ?_
        rintro e w' ⟨rfl, rfl⟩
        go_wp2_with fail
        obtain ⟨T, hT⟩ : ∃ T, T = t1 (e4 q (Lib.leNat (l'.take 4))) (l'.drop 4) := ⟨_, rfl⟩
        rw [← hT] at hfin
        have HT0 := Lib.hid hT
        clear hT
        have h5l : (l'.drop 4).length = m8 - 4 := hs5.len
        go_loopw [3, 8] (fun h s wr => Rel1 T w.heap.size w h s wr) (fun _ s _ => slLen s)
        case atStart => exact ⟨_, l'.drop 4, _, _, rfl, by rw [h5l], by rw [h5l]; exact hs5, Lib.hid HT0.out.symm, hb5⟩
        case round =>
          obtain ⟨q1, rr, A3, c3, rfl, rfl, hs6, HT, hb6⟩ := hrel
          have hm6 := hs6.most
          have hc6 := hs6.cap
          rcases rr with _ | ⟨b, rr⟩
          · go_wp2_with fail
            go_ret
            exact ⟨by rw [hxx.out, hfin.out, ← HT.out]; rfl, hb6⟩
          · obtain ⟨g3, o3, rfl, _, hcell⟩ := hs6.at_ (by simp)
            have hc0 := hcell 0 (by simp)
            simp only [Nat.add_zero, List.getElem_cons_zero] at hc0
            have hbl : (b.toNat : Int) < 256 := by have := b.toNat_lt; omega
            clear hcell
            go_wp2_with fail
            refine (rol11_any _ _).mono ?_
            rintro e w' ⟨rfl, rfl⟩
            go_wp2_with fail
            go_roundw
            case rel => exact rel1_step HT hs6 hb6 _ rfl
            case measure => simp only [slLen_slice, List.length_cons]; omega
      · have hfin : Hid (fin h0 l = av (t1 q l')) := Lib.hid (by
          unfold fin
          rw [← hj8.out, ← HQ.out, ← HR'.out]
          exact finA_0 _ _ (by omega))
        have hs5 := hs3
        have hb5 := hb3
        go_wp2_with fail
        obtain ⟨T, hT⟩ : ∃ T, T = t1 q l' := ⟨_, rfl⟩
        rw [← hT] at hfin
        have HT0 := Lib.hid hT
        clear hT
        go_loopw [3, 8] (fun h s wr => Rel1 T w.heap.size w h s wr) (fun _ s _ => slLen s)
        case atStart => exact ⟨_, l', _, _, rfl, by rw [hl8], by rw [hl8]; exact hs5, Lib.hid HT0.out.symm, hb5⟩
        case round =>
          obtain ⟨q1, rr, A3, c3, rfl, rfl, hs6, HT, hb6⟩ := hrel
          have hm6 := hs6.most
          have hc6 := hs6.cap
          rcases rr with _ | ⟨b, rr⟩
          · go_wp2_with fail
            go_ret
            exact ⟨by rw [hxx.out, hfin.out, ← HT.out]; rfl, hb6⟩
          · obtain ⟨g3, o3, rfl, _, hcell⟩ := hs6.at_ (by simp)
            have hc0 := hcell 0 (by simp)
            simp only [Nat.add_zero, List.getElem_cons_zero] at hc0
            have hbl : (b.toNat : Int) < 256 := by have := b.toNat_lt; omega
            clear hcell
            go_wp2_with fail
            refine (rol11_any _ _).mono ?_
            rintro e w' ⟨rfl, rfl⟩
            go_wp2_with fail
            go_roundw
            case rel => exact rel1_step HT hs6 hb6 _ rfl
            case measure => simp only [slLen_slice, List.length_cons]; omega

theorem dsum_any (D : Nat) (l : List UInt8) (w : World) (hd : Dg w D l) (hn : l.length ≤ 2147483647) :
    Calls Tryd.prog 25 #[.pointer (some ⟨D, 0, none⟩)] w fun e w' => e = .returned (.int .u64 (xx l)) ∧ Below w.heap.size w w' := by
  obtain ⟨mem, h1, h2⟩ := hd
  by_cases h32 : 32 ≤ l.length
  · exact dsum_big D l mem w h1 h2 hn h32
  · have h0 : l.length / 32 = 0 := by omega
    have h3 : l.length % 32 = l.length := by omega
    rw [h0, h3] at h1 h2
    exact dsum_small D l mem w (by simpa using h1) h2 h32
end Go.Proofs.YtkpmhdpeglbacaaDoor
