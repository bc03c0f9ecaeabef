/-
  spec.Hash is XXH64 of its bytes. Condition: at most 2147483647 bytes.
-/
import Derived.Test.YtkpmhdpeglbacaaDoorStripes
import Derived.Test.YtkpmhdpeglbacaaDoorSum
namespace Go.Proofs.YtkpmhdpeglbacaaDoor
open Go.RowKit

def RelB (T : Int) (rr : List UInt8) (B : Nat) (w : World) (h i : Value) (wr : World) : Prop :=
  ∃ (q : Int) (k : Nat), k ≤ rr.length ∧ h = .int .u64 q ∧ i = .int .i64 k ∧ Hid (t1 q (rr.drop k) = T) ∧ Below B w wr
theorem relB_step {T q : Int} {rr : List UInt8} {B k : Nat} {w wr : World} (hk : k < rr.length) (HT : Hid (t1 q (rr.drop k) = T)) (hb : Below B w wr) (x : Int) (hx : x = e1 q (rr[k]).toNat) :
    RelB T rr B w (.int .u64 x) (.int .i64 ((k : Int) + 1)) wr := by
  refine ⟨x, k + 1, by omega, rfl, by go_num, Lib.hid ?_, hb⟩
  rw [hx, ← HT.out, List.drop_eq_getElem_cons hk]
  rfl

theorem Sl.keepUp {w0 w1 w2 : World} {B n c : Nat} {A : Option Addr} {l : List UInt8} (h : Sl w1 B A n c l) (h1 : Below B w0 w1) (h2 : Below B w0 w2) : Sl w2 B A n c l :=
  h.keep fun b o hb => (h2.cell (p := ⟨b, o, none⟩) hb).trans (h1.cell (p := ⟨b, o, none⟩) hb).symm

set_option maxRecDepth 100000 in
set_option maxHeartbeats 4000000 in
theorem hash_big (A : Option Addr) (n c : Nat) (l : List UInt8) (w : World) (hs : Sl w w.heap.size A n c l) (hn : n ≤ 2147483647) (h32 : 32 ≤ n) :
    Calls Tryd.prog 9 #[.slice A n c] w fun e w' => e = .returned (.int .u64 (xx l)) ∧ Below w.heap.size w w' := by
  obtain rfl := hs.len
  have hm := hs.most
  have hcc := hs.cap
  have h32i : (32 : Int) ≤ (l.length : Int) := by omega
  have K := Lib.hid (zStripes_any A l.length c l w hs hn h32)
  go_enter Tryd.func9, Tryd.ntmps9
  go_wp2_with fail
  refine K.out.mono ?_
  rintro e w1 ⟨rfl, hb2⟩
  obtain ⟨g, o, rfl, _, _⟩ := hs.at_ (by omega)
  have hs2 := (hs.below hb2).next (l.length / 32 * 32) (by omega)
  obtain ⟨A0, hA0⟩ : ∃ A0, (if c = l.length / 32 * 32 then some (⟨g, o, none⟩ : Addr) else some ⟨g, o + l.length / 32 * 32, none⟩) = A0 := ⟨_, rfl⟩
  rw [hA0] at hs2
  have htn : ((l.length : Int) / 32 * 32).toNat = l.length / 32 * 32 := by omega
  go_wp2_with fail
  obtain ⟨r, hr⟩ : ∃ r, r = l.drop (l.length / 32 * 32) := ⟨_, rfl⟩
  generalize hq0 : IntKind.u64.wrap (conv (stN s0 l (l.length / 32)) + (l.length : Int)) = h0
  have hxx : Hid (xx l = fin h0 r) := Lib.hid (xx_big l (l.length / 32) h0 r _ h32 rfl rfl (by rw [hr, Nat.mul_comm]) hq0)
  clear hA0 hq0
  rw [← hr] at hs2
  have hl2 : r.length = l.length - l.length / 32 * 32 := hs2.len
  rw [← hl2] at hs2 ⊢
  clear hr hl2
  go_loopw [3, 0] (fun h s wr => Rel8 h0 r w.heap.size w h s wr) (fun _ s _ => slLen s)
  case atStart => exact ⟨0, _, _, by omega, rfl, rfl, hs2, hb2⟩
  case round =>
    obtain ⟨j, A2, c2, hj, rfl, rfl, hs3, hb3⟩ := hrel
    obtain ⟨q, hq⟩ : ∃ q, q = t8 h0 r j := ⟨_, rfl⟩
    obtain ⟨r', hr'⟩ : ∃ r', r' = r.drop (8 * j) := ⟨_, rfl⟩
    obtain ⟨m8, hm8⟩ : ∃ m8, m8 = r.length - 8 * j := ⟨_, rfl⟩
    rw [← hr'] at hs3
    rw [← hm8] at hs3 ⊢
    rw [← hq]
    have HQ := Lib.hid hq
    have HR' := Lib.hid hr'
    have HM8 := Lib.hid hm8
    have HZ3 := Lib.hid hb3.size
    clear hq hr' hm8
    have hm3 := hs3.most
    have hc3 := hs3.cap
    by_cases h8 : 8 ≤ m8
    · obtain ⟨g2, o2, rfl, _, _⟩ := hs3.at_ (by omega)
      have hp3 : Sl wr wr.heap.size (some ⟨g2, o2, none⟩) 8 c2 (r'.take 8) := by
        have := (hs3.below_part (Below.refl _ _) (i := 0) (m := 8) (by omega)).more HZ3.out
        simpa using this
      go_wp2_with fail
      refine (zWord_any _ _ _ _ _ hp3 (by omega)).mono ?_
      rintro e w' ⟨rfl, rfl⟩
      go_wp2_with fail
      refine (zRound_any _ _ _).mono ?_
      rintro e w' ⟨rfl, rfl⟩
      go_wp2_with fail
      refine (zTurn27 _ _).mono ?_
      rintro e w' ⟨rfl, rfl⟩
      go_wp2_with fail
      go_roundw
      case rel => exact rel8_step HQ HR' HM8 h8 hs3 hb3 (Below.refl _ _) _ rfl
      case measure => simp only [slLen_slice]; omega
    · have hj8 : Hid (j = r.length / 8) := Lib.hid (by have := HM8.out; omega)
      have HL8 := Lib.hid hs3.len
      by_cases h4 : 4 ≤ m8
      · obtain ⟨g2, o2, rfl, _, _⟩ := hs3.at_ (by omega)
        have hfin : Hid (fin h0 r = av (t1 (e4 q (Lib.leNat (r'.take 4))) (r'.drop 4))) := Lib.hid (by
          unfold fin
          rw [← hj8.out, ← HQ.out, ← HR'.out]
          exact finA_4 _ _ (by have := HL8.out; omega))
        have hp3 : Sl wr wr.heap.size (some ⟨g2, o2, none⟩) 4 c2 (r'.take 4) := by
          have := (hs3.below_part (Below.refl _ _) (i := 0) (m := 4) (by omega)).more HZ3.out
          simpa using this
        have hs5 := hs3.next 4 h4
        obtain ⟨A4, hA4⟩ : ∃ A4, (if c2 = 4 then some (⟨g2, o2, none⟩ : Addr) else some ⟨g2, o2 + 4, none⟩) = A4 := ⟨_, rfl⟩
        rw [hA4] at hs5
        have hb5 := hb3
        go_wp2_with fail
        refine (zWord_any _ _ _ _ _ hp3 (by omega)).mono ?_
        rintro e w' ⟨rfl, rfl⟩
        go_wp2_with fail
        refine (zTurn23 _ _).mono ?_
        rintro e w' ⟨rfl, rfl⟩
        go_wp2_with fail
        obtain ⟨T, hT⟩ : ∃ T, T = t1 (e4 q (Lib.leNat (r'.take 4))) (r'.drop 4) := ⟨_, rfl⟩
        rw [← hT] at hfin
        have HT0 := Lib.hid hT
        clear hT hA4
        obtain ⟨rr, hrr⟩ : ∃ rr, rr = r'.drop 4 := ⟨_, rfl⟩
        rw [← hrr] at hs5 HT0
        have HRR := Lib.hid hrr
        clear hrr
        have hl5 : rr.length = m8 - 4 := hs5.len
        have HL5 := Lib.hid hl5
        clear hl5
        rw [← HL5.out] at hs5 ⊢
        have hm5 := hs5.most
        have hc5 := hs5.cap
        go_loopw [5, 3, 54] (fun _ h i wr => RelB T rr w.heap.size w h i wr) (fun _ _ i _ => rr.length - (intOf i).toNat)
        case atStart => exact ⟨_, 0, by omega, rfl, rfl, Lib.hid HT0.out.symm, hb5⟩
        case round =>
          obtain ⟨q1, k1, hk1, rfl, rfl, HT, hb6⟩ := hrel
          by_cases hlt1 : k1 < rr.length
          · obtain ⟨g3, o3, rfl, _, hcell⟩ := hs5.at_ (by omega)
            have hc0 : wr.cell? ⟨g3, o3 + k1, none⟩ = some (.int .u8 (rr[k1]).toNat) := by
              have hx6 := ((hs5.more (Nat.le_refl _)).keepUp hb5 hb6).at_ (by omega)
              obtain ⟨g4, o4, e4, _, hc4⟩ := hx6
              cases e4
              exact hc4 k1 hlt1
            have hbl : ((rr[k1]).toNat : Int) < 256 := by have := (rr[k1]).toNat_lt; omega
            have hlti1 : (k1 : Int) < (rr.length : Int) := by omega
            clear hcell
            go_wp2_with fail
            refine (zTurn11 _ _).mono ?_
            rintro e w' ⟨rfl, rfl⟩
            go_wp2_with fail
            go_roundw
            case rel => exact relB_step hlt1 HT hb6 _ rfl
            case measure => simp [intOf]; omega
          · obtain rfl : k1 = rr.length := by omega
            have HT' : Hid (q1 = T) := Lib.hid (by have := HT.out; rw [List.drop_length] at this; exact this)
            clear HT
            go_wp2_with fail
            go_ret
            exact ⟨by rw [hxx.out, hfin.out, ← HT'.out]; rfl, hb6⟩
      · have hfin : Hid (fin h0 r = av (t1 q r')) := Lib.hid (by
          unfold fin
          rw [← hj8.out, ← HQ.out, ← HR'.out]
          exact finA_0 _ _ (by have := HL8.out; omega))
        have hs5 := hs3
        have hb5 := hb3
        go_wp2_with fail
        obtain ⟨T, hT⟩ : ∃ T, T = t1 q r' := ⟨_, rfl⟩
        rw [← hT] at hfin
        have HT0 := Lib.hid hT
        clear hT
        rw [← HL8.out] at hs5 ⊢
        have hm5 := hs5.most
        have hc5 := hs5.cap
        go_loopw [5, 3, 54] (fun _ h i wr => RelB T r' w.heap.size w h i wr) (fun _ _ i _ => r'.length - (intOf i).toNat)
        case atStart => exact ⟨_, 0, by omega, rfl, rfl, Lib.hid HT0.out.symm, hb5⟩
        case round =>
          obtain ⟨q1, k1, hk1, rfl, rfl, HT, hb6⟩ := hrel
          by_cases hlt1 : k1 < r'.length
          · obtain ⟨g3, o3, rfl, _, hcell⟩ := hs5.at_ (by omega)
            have hc0 : wr.cell? ⟨g3, o3 + k1, none⟩ = some (.int .u8 (r'[k1]).toNat) := by
              have hx6 := ((hs5.more (Nat.le_refl _)).keepUp hb5 hb6).at_ (by omega)
              obtain ⟨g4, o4, e4, _, hc4⟩ := hx6
              cases e4
              exact hc4 k1 hlt1
            have hbl : ((r'[k1]).toNat : Int) < 256 := by have := (r'[k1]).toNat_lt; omega
            have hlti1 : (k1 : Int) < (r'.length : Int) := by omega
            clear hcell
            go_wp2_with fail
            refine (zTurn11 _ _).mono ?_
            rintro e w' ⟨rfl, rfl⟩
            go_wp2_with fail
            go_roundw
            case rel => exact relB_step hlt1 HT hb6 _ rfl
            case measure => simp [intOf]; omega
          · obtain rfl : k1 = r'.length := by omega
            have HT' : Hid (q1 = T) := Lib.hid (by have := HT.out; rw [List.drop_length] at this; exact this)
            clear HT
            go_wp2_with fail
            go_ret
            exact ⟨by rw [hxx.out, hfin.out, ← HT'.out]; rfl, hb6⟩

set_option maxRecDepth 100000 in
set_option maxHeartbeats 4000000 in
theorem hash_small (A : Option Addr) (n c : Nat) (l : List UInt8) (w : World) (hs : Sl w w.heap.size A n c l) (h32 : ¬ 32 ≤ n) :
    Calls Tryd.prog 9 #[.slice A n c] w fun e w' => e = .returned (.int .u64 (xx l)) ∧ Below w.heap.size w w' := by
  obtain rfl := hs.len
  have hm := hs.most
  have hcc := hs.cap
  have hxx : Hid (xx l = fin (2870177450012600261 + (l.length : Int)) l) := Lib.hid (xx_small l h32)
  have h32i : decide ((32 : Int) ≤ (l.length : Int)) = false := by simp; omega
  have hd0 : (l.length : Int) / 32 = 0 := by omega
  have hd1 : l.length / 32 = 0 := by omega
  go_enter Tryd.func9, Tryd.ntmps9
  go_wp2_with fail
  generalize 2870177450012600261 + (l.length : Int) = h0 at hxx ⊢
  have hs2 := hs
  have hb2 : Below w.heap.size w w := Below.refl _ _
  go_loopw [3, 0] (fun h s wr => Rel8 h0 l w.heap.size w h s wr) (fun _ s _ => slLen s)
  case atStart => exact ⟨0, _, _, by omega, rfl, rfl, hs2, hb2⟩
  case round =>
    obtain ⟨j, A2, c2, hj, rfl, rfl, hs3, hb3⟩ := hrel
    obtain ⟨q, hq⟩ : ∃ q, q = t8 h0 l j := ⟨_, rfl⟩
    obtain ⟨l', hr'⟩ : ∃ l', l' = l.drop (8 * j) := ⟨_, rfl⟩
    obtain ⟨m8, hm8⟩ : ∃ m8, m8 = l.length - 8 * j := ⟨_, rfl⟩
    rw [← hr'] at hs3
    rw [← hm8] at hs3 ⊢
    rw [← hq]
    have HQ := Lib.hid hq
    have HR' := Lib.hid hr'
    have HM8 := Lib.hid hm8
    have HZ3 := Lib.hid hb3.size
    clear hq hr' hm8
    have hm3 := hs3.most
    have hc3 := hs3.cap
    by_cases h8 : 8 ≤ m8
    · obtain ⟨g2, o2, rfl, _, _⟩ := hs3.at_ (by omega)
      have hp3 : Sl wr wr.heap.size (some ⟨g2, o2, none⟩) 8 c2 (l'.take 8) := by
        have := (hs3.below_part (Below.refl _ _) (i := 0) (m := 8) (by omega)).more HZ3.out
        simpa using this
      go_wp2_with fail
      refine (zWord_any _ _ _ _ _ hp3 (by omega)).mono ?_
      rintro e w' ⟨rfl, rfl⟩
      go_wp2_with fail
      refine (zRound_any _ _ _).mono ?_
      rintro e w' ⟨rfl, rfl⟩
      go_wp2_with fail
      refine (zTurn27 _ _).mono ?_
      rintro e w' ⟨rfl, rfl⟩
      go_wp2_with fail
      go_roundw
      case rel => exact rel8_step HQ HR' HM8 h8 hs3 hb3 (Below.refl _ _) _ rfl
      case measure => simp only [slLen_slice]; omega
    · have hj8 : Hid (j = l.length / 8) := Lib.hid (by have := HM8.out; omega)
      have HL8 := Lib.hid hs3.len
      by_cases h4 : 4 ≤ m8
      · obtain ⟨g2, o2, rfl, _, _⟩ := hs3.at_ (by omega)
        have hfin : Hid (fin h0 l = av (t1 (e4 q (Lib.leNat (l'.take 4))) (l'.drop 4))) := Lib.hid (by
          unfold fin
          rw [← hj8.out, ← HQ.out, ← HR'.out]
          exact finA_4 _ _ (by have := HL8.out; omega))
        have hp3 : Sl wr wr.heap.size (some ⟨g2, o2, none⟩) 4 c2 (l'.take 4) := by
          have := (hs3.below_part (Below.refl _ _) (i := 0) (m := 4) (by omega)).more HZ3.out
          simpa using this
        have hs5 := hs3.next 4 h4
        obtain ⟨A4, hA4⟩ : ∃ A4, (if c2 = 4 then some (⟨g2, o2, none⟩ : Addr) else some ⟨g2, o2 + 4, none⟩) = A4 := ⟨_, rfl⟩
        rw [hA4] at hs5
        have hb5 := hb3
        go_wp2_with fail
        refine (zWord_any _ _ _ _ _ hp3 (by omega)).mono ?_
        rintro e w' ⟨rfl, rfl⟩
        go_wp2_with fail
        refine (zTurn23 _ _).mono ?_
        rintro e w' ⟨rfl, rfl⟩
        go_wp2_with fail
        obtain ⟨T, hT⟩ : ∃ T, T = t1 (e4 q (Lib.leNat (l'.take 4))) (l'.drop 4) := ⟨_, rfl⟩
        rw [← hT] at hfin
        have HT0 := Lib.hid hT
        clear hT hA4
        obtain ⟨rr, hrr⟩ : ∃ rr, rr = l'.drop 4 := ⟨_, rfl⟩
        rw [← hrr] at hs5 HT0
        have HRR := Lib.hid hrr
        clear hrr
        have hl5 : rr.length = m8 - 4 := hs5.len
        have HL5 := Lib.hid hl5
        clear hl5
        rw [← HL5.out] at hs5 ⊢
        have hm5 := hs5.most
        have hc5 := hs5.cap
        go_loopw [5, 3, 54] (fun _ h i wr => RelB T rr w.heap.size w h i wr) (fun _ _ i _ => rr.length - (intOf i).toNat)
        case atStart => exact ⟨_, 0, by omega, rfl, rfl, Lib.hid HT0.out.symm, hb5⟩
        case round =>
          obtain ⟨q1, k1, hk1, rfl, rfl, HT, hb6⟩ := hrel
          by_cases hlt1 : k1 < rr.length
          · obtain ⟨g3, o3, rfl, _, hcell⟩ := hs5.at_ (by omega)
            have hc0 : wr.cell? ⟨g3, o3 + k1, none⟩ = some (.int .u8 (rr[k1]).toNat) := by
              have hx6 := ((hs5.more (Nat.le_refl _)).keepUp hb5 hb6).at_ (by omega)
              obtain ⟨g4, o4, e4, _, hc4⟩ := hx6
              cases e4
              exact hc4 k1 hlt1
            have hbl : ((rr[k1]).toNat : Int) < 256 := by have := (rr[k1]).toNat_lt; omega
            have hlti1 : (k1 : Int) < (rr.length : Int) := by omega
            clear hcell
            go_wp2_with fail
            refine (zTurn11 _ _).mono ?_
            rintro e w' ⟨rfl, rfl⟩
            go_wp2_with fail
            go_roundw
            case rel => exact relB_step hlt1 HT hb6 _ rfl
            case measure => simp [intOf]; omega
          · obtain rfl : k1 = rr.length := by omega
            have HT' : Hid (q1 = T) := Lib.hid (by have := HT.out; rw [List.drop_length] at this; exact this)
            clear HT
            go_wp2_with fail
            go_ret
            exact ⟨by rw [hxx.out, hfin.out, ← HT'.out]; rfl, hb6⟩
      · have hfin : Hid (fin h0 l = av (t1 q l')) := Lib.hid (by
          unfold fin
          rw [← hj8.out, ← HQ.out, ← HR'.out]
          exact finA_0 _ _ (by have := HL8.out; omega))
        have hs5 := hs3
        have hb5 := hb3
        go_wp2_with fail
        obtain ⟨T, hT⟩ : ∃ T, T = t1 q l' := ⟨_, rfl⟩
        rw [← hT] at hfin
        have HT0 := Lib.hid hT
        clear hT
        rw [← HL8.out] at hs5 ⊢
        have hm5 := hs5.most
        have hc5 := hs5.cap
        go_loopw [5, 3, 54] (fun _ h i wr => RelB T l' w.heap.size w h i wr) (fun _ _ i _ => l'.length - (intOf i).toNat)
        case atStart => exact ⟨_, 0, by omega, rfl, rfl, Lib.hid HT0.out.symm, hb5⟩
        case round =>
          obtain ⟨q1, k1, hk1, rfl, rfl, HT, hb6⟩ := hrel
          by_cases hlt1 : k1 < l'.length
          · obtain ⟨g3, o3, rfl, _, hcell⟩ := hs5.at_ (by omega)
            have hc0 : wr.cell? ⟨g3, o3 + k1, none⟩ = some (.int .u8 (l'[k1]).toNat) := by
              have hx6 := ((hs5.more (Nat.le_refl _)).keepUp hb5 hb6).at_ (by omega)
              obtain ⟨g4, o4, e4, _, hc4⟩ := hx6
              cases e4
              exact hc4 k1 hlt1
            have hbl : ((l'[k1]).toNat : Int) < 256 := by have := (l'[k1]).toNat_lt; omega
            have hlti1 : (k1 : Int) < (l'.length : Int) := by omega
            clear hcell
            go_wp2_with fail
            refine (zTurn11 _ _).mono ?_
            rintro e w' ⟨rfl, rfl⟩
            go_wp2_with fail
            go_roundw
            case rel => exact relB_step hlt1 HT hb6 _ rfl
            case measure => simp [intOf]; omega
          · obtain rfl : k1 = l'.length := by omega
            have HT' : Hid (q1 = T) := Lib.hid (by have := HT.out; rw [List.drop_length] at this; exact this)
            clear HT
            go_wp2_with fail
            go_ret
            exact ⟨by rw [hxx.out, hfin.out, ← HT'.out]; rfl, hb6⟩

theorem hash_any (A : Option Addr) (n c : Nat) (l : List UInt8) (w : World) (hs : Sl w w.heap.size A n c l) (hn : n ≤ 2147483647) :
    Calls Tryd.prog 9 #[.slice A n c] w fun e w' => e = .returned (.int .u64 (xx l)) ∧ Below w.heap.size w w' := by
  by_cases h32 : 32 ≤ n
  · exact hash_big A n c l w hs hn h32
  · exact hash_small A n c l w hs h32
end Go.Proofs.YtkpmhdpeglbacaaDoor
