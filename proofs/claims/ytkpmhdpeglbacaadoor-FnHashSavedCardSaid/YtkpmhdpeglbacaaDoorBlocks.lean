/-
  The stripes of 32 bytes that a digest takes up at once. Conditions: at most 2147483647 bytes.
-/
import Derived.Test.YtkpmhdpeglbacaaDoorDig
import Derived.Deep.QuietTactic
import Derived.BigQuiet
namespace Go.Proofs.YtkpmhdpeglbacaaDoor
open Go.RowKit

set_option maxRecDepth 100000 in
set_option maxHeartbeats 4000000 in
theorem writeBlocks_any (D : Nat) (s : S4) (tot nn : Int) (mem : List UInt8) (A : Option Addr) (n c : Nat) (l : List UInt8) (w : World) (hd : Dig w D s tot mem nn) (hs : Sl w D A n c l) (hn : n ≤ 2147483647) :
    Calls Tryd.prog 43 #[.pointer (some ⟨D, 0, none⟩), .slice A n c] w fun e w' => e = .returned (.int .i64 ((32 * (n / 32) : Nat) : Int)) ∧ Dig w' D (stN s l (l.length / 32)) tot mem nn ∧ Below D w w' := by
  obtain rfl := hs.len
  have hm := hs.most
  have hcc := hs.cap
  have hD := hd.lt
  have c0 := hd.c0
  have c1 := hd.c1
  have c2 := hd.c2
  have c3 := hd.c3
  have f0 := hd.frozen 0
  have f1 := hd.frozen 1
  have f2 := hd.frozen 2
  have f3 := hd.frozen 3
  have HDD := Lib.hid hd
  clear hd
  have hs0 : Sl w w.heap.size A l.length c l := hs.more (by omega)
  go_enter Tryd.func43, Tryd.ntmps43
  go_wp2_with fail
  go_quiet (fail)
  go_wp2_with fail
  obtain ⟨wo, hwo⟩ : ∃ wo, w.drewN nq = wo := ⟨_, rfl⟩
  have hsO : Sl wo w.heap.size A l.length c l := by rw [← hwo]; exact hs0.below (drewN_below w nq)
  have hbO : Below w.heap.size w wo := by rw [← hwo]; exact drewN_below w nq
  rw [hwo]
  clear hwo
  go_loopw [5, 6, 7, 8, 1] (fun a b c d s2 wr => RelS s l l.length w.heap.size w a b c d s2 wr) (fun _ _ _ _ s _ => slLen s)
  case atStart => exact ⟨0, A, c, by omega, rfl, rfl, rfl, rfl, by simp, by simpa using hsO, hbO⟩
  case round =>
    obtain ⟨k, A', c', hk, rfl, rfl, rfl, rfl, rfl, hs', hb⟩ := hrel
    obtain ⟨p, hp'⟩ : ∃ p, p = stN s l k := ⟨_, rfl⟩
    rw [← hp']
    obtain ⟨r, hr⟩ : ∃ r, r = l.drop (32 * k) := ⟨_, rfl⟩
    rw [← hr] at hs'
    have HP := Lib.hid hp'
    have HR := Lib.hid hr
    clear hp' hr
    have HZ := Lib.hid hb.size
    obtain ⟨m, hm'⟩ : ∃ m, m = l.length - 32 * k := ⟨_, rfl⟩
    rw [← hm'] at hs' ⊢
    have HM := Lib.hid hm'
    clear hm'
    have hc' := hs'.cap
    have hmm := hs'.most
    by_cases hlt : 32 ≤ m
    · obtain ⟨g, o, rfl, _, _⟩ := hs'.at_ (by omega)
      go_wp2_with fail
      refine (u64_part g o m c' _ 0 r wr _ hs' (Below.refl _ _) (by omega) m (by omega) (by omega)).mono ?_
      rintro e w1 ⟨rfl, hx1⟩
      have hb1 : Below w.heap.size wr w1 := hx1.mono HZ.out
      clear hx1
      go_wp2_with fail
      refine (round_any _ _ _).mono ?_
      rintro e w' ⟨rfl, rfl⟩
      go_wp2_with fail
      refine (u64_part g o m c' _ 8 r wr _ hs' hb1 (by omega) (m - 8) (by omega) (by omega)).mono ?_
      rintro e w2 ⟨rfl, hx2⟩
      have hb2 : Below w.heap.size wr w2 := hb1.trans (hx2.mono (Nat.le_trans HZ.out hb1.size))
      clear hx2
      go_wp2_with fail
      refine (round_any _ _ _).mono ?_
      rintro e w' ⟨rfl, rfl⟩
      go_wp2_with fail
      refine (u64_part g o m c' _ 16 r wr _ hs' hb2 (by omega) (m - 16) (by omega) (by omega)).mono ?_
      rintro e w3 ⟨rfl, hx3⟩
      have hb3 : Below w.heap.size wr w3 := hb2.trans (hx3.mono (Nat.le_trans HZ.out hb2.size))
      clear hx3
      go_wp2_with fail
      refine (round_any _ _ _).mono ?_
      rintro e w' ⟨rfl, rfl⟩
      go_wp2_with fail
      refine (u64_part g o m c' _ 24 r wr _ hs' hb3 (by omega) (m - 24) (by omega) (by omega)).mono ?_
      rintro e w4 ⟨rfl, hx4⟩
      have hb4 : Below w.heap.size wr w4 := hb3.trans (hx4.mono (Nat.le_trans HZ.out hb3.size))
      clear hx4
      go_wp2_with fail
      refine (round_any _ _ _).mono ?_
      rintro e w' ⟨rfl, rfl⟩
      go_wp2_with fail
      go_roundw
      case rel => exact relS_step HP HR HM hlt hs' hb hb4
      case measure => simp only [slLen_slice]; omega
    · have hk32 : Hid (k = l.length / 32) := Lib.hid (by have := HM.out; omega)
      have HD2 : Hid (Dig wr D s tot mem nn) := Lib.hid (HDD.out.below hb hD)
      have g0 := HD2.out.c0
      have g1 := HD2.out.c1
      have g2 := HD2.out.c2
      have g3 := HD2.out.c3
      have e0 := HD2.out.frozen 0
      have e1 := HD2.out.frozen 1
      have e2 := HD2.out.frozen 2
      have e3 := HD2.out.frozen 3
      clear c0 c1 c2 c3 f0 f1 f2 f3
      have hmi : IntKind.i64.wrap ((l.length : Int) - (m : Int)) = ((32 * (l.length / 32) : Nat) : Int) := by
        have := HM.out
        have := hk32.out
        rw [IntWalk.i64_in _ (by omega)]
        omega
      go_wp2_with fail
      go_ret
      refine ⟨by simp, ?_, ?_⟩
      · rw [← hk32.out, ← HP.out]
        exact (((HD2.out.s0 p.1).s1 p.2.1).s2 p.2.2.1).s3 p.2.2.2
      · exact below_dig4 D w wr _ _ _ _ (hb.mono (by omega))
end Go.Proofs.YtkpmhdpeglbacaaDoor
