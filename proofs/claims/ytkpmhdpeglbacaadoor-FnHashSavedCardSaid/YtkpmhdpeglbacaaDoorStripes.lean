/-
  spec.zStripes: what the stripes of 32 bytes come to. Condition: at least 32 bytes, at most 2147483647.
-/
import Derived.Test.YtkpmhdpeglbacaaDoorHashRel
import Derived.StillTailTactics
import Derived.Laws.Rows
namespace Go.Proofs.YtkpmhdpeglbacaaDoor
open Go.RowKit

def lane (p : S4) : Nat → Int
  | 0 => p.1
  | 1 => p.2.1
  | 2 => p.2.2.1
  | _ => p.2.2.2
def newLane (p : S4) (r : List UInt8) (i : Nat) : Int := rnd (lane p i) (w8 r (8 * i))
def mixed (p : S4) (r : List UInt8) (i : Nat) : Array Value :=
  #[.int .u64 (if 0 < i then newLane p r 0 else lane p 0), .int .u64 (if 1 < i then newLane p r 1 else lane p 1), .int .u64 (if 2 < i then newLane p r 2 else lane p 2), .int .u64 (if 3 < i then newLane p r 3 else lane p 3)]
/-- block L holds the four lanes -/
def Lanes (w : World) (L : Nat) (cs : Array Value) : Prop := w.heap[L]? = some (.cells cs 58 (0, 0))
theorem Lanes.cell {w : World} {L : Nat} {cs : Array Value} (h : Lanes w L cs) (i : Nat) : w.cell? ⟨L, i, none⟩ = cs[i]? := cell_of_row w L i cs 58 (0, 0) h
theorem Lanes.frozen {w : World} {L : Nat} {cs : Array Value} (h : Lanes w L cs) (i : Nat) : w.frozen? ⟨L, i, none⟩ = false := by
  unfold Lanes at h
  simp [World.frozen?, h]
theorem Lanes.set_ {w : World} {L : Nat} {cs : Array Value} (h : Lanes w L cs) (i : Nat) (u : Value) : Lanes (w.setCell ⟨L, i, none⟩ u) L (cs.setIfInBounds i u) := by
  unfold Lanes at h ⊢
  simp [World.setCell, Array.getElem?_modify, h]
theorem Lanes.drew {w : World} {L : Nat} {cs : Array Value} (h : Lanes w L cs) : Lanes w.drew L cs := h
theorem Lanes.drewN {w : World} {L : Nat} {cs : Array Value} (h : Lanes w L cs) (n : Nat) : Lanes (w.drewN n) L cs := h
theorem mixed_at (p : S4) (r : List UInt8) (i : Nat) (hi : i < 4) : (mixed p r i)[i]? = some (.int .u64 (lane p i)) := by
  match i, hi with
  | 0, _ => rfl
  | 1, _ => rfl
  | 2, _ => rfl
  | 3, _ => rfl
theorem mixed_next (p : S4) (r : List UInt8) (i : Nat) (hi : i < 4) : (mixed p r i).setIfInBounds i (.int .u64 (newLane p r i)) = mixed p r (i + 1) := by
  match i, hi with
  | 0, _ => rfl
  | 1, _ => rfl
  | 2, _ => rfl
  | 3, _ => rfl
theorem mixed_0 (p : S4) (r : List UInt8) : mixed p r 0 = #[.int .u64 p.1, .int .u64 p.2.1, .int .u64 p.2.2.1, .int .u64 p.2.2.2] := rfl
theorem mixed_4 (p : S4) (r : List UInt8) : mixed p r 4 = #[.int .u64 (st p r).1, .int .u64 (st p r).2.1, .int .u64 (st p r).2.2.1, .int .u64 (st p r).2.2.2] := rfl

theorem Lanes.any {w : World} {L : Nat} {p : S4} {r : List UInt8} (r' : List UInt8) (h : Lanes w L (mixed p r 0)) : Lanes w L (mixed p r' 0) := by
  rw [mixed_0] at h ⊢
  exact h
theorem Lanes.four {w : World} {L : Nat} {p q : S4} {r : List UInt8} (r' : List UInt8) (h : Lanes w L (mixed p r 4)) (hq : q = st p r) : Lanes w L (mixed q r' 0) := by
  rw [mixed_4] at h
  rw [mixed_0, hq]
  exact h

/-- the head of the loop over stripes -/
def RelZ (l : List UInt8) (B : Nat) (w : World) (s : Value) (wr : World) : Prop :=
  ∃ k A' c', 32 * k ≤ l.length ∧ s = .slice A' (l.length - 32 * k) c' ∧ Sl wr B A' (l.length - 32 * k) c' (l.drop (32 * k)) ∧ Lanes wr B (mixed (stN s0 l k) [] 0) ∧ Below B w wr
def RelI (p : S4) (r : List UInt8) (B : Nat) (w : World) (i : Value) (wr : World) : Prop :=
  ∃ k : Nat, k ≤ 4 ∧ i = .int .i64 k ∧ Lanes wr B (mixed p r k) ∧ Below B w wr

theorem Sl.below_part {w w' : World} {B n c : Nat} {l : List UInt8} {g o : Nat} (h : Sl w B (some ⟨g, o, none⟩) n c l) (hb : Below B w w') {i m : Nat} (hi : i + m ≤ n) :
    Sl w' B (some ⟨g, o + i, none⟩) m (c - i) ((l.drop i).take m) := by
  have hc := h.cap
  have := (h.below hb).cut (some ⟨g, o + i, none⟩) (i := i) (j := i + m) (c' := c - i) (by omega) hi (by omega) (by omega) (fun _ => by simp [add_some])
  rw [List.drop_take] at this
  simpa using this

theorem relI_step {p : S4} {r : List UInt8} {B i : Nat} {wo wr : World} (hL : Lanes wr B (mixed p r i)) (hb : Below B wo wr) (hi : i < 4) (_ : B ≤ wr.heap.size) :
    RelI p r B wo (.int .i64 ((i : Int) + 1)) ((wr.setCell ⟨B, i, none⟩ (.int .u64 (rnd (lane p i) (Lib.leNat ((r.drop (8 * i)).take 8))))).drew) := by
  have h1 := hL.set_ i (.int .u64 (newLane p r i))
  rw [mixed_next p r i hi] at h1
  exact ⟨i + 1, by omega, by go_num, h1.drew, (hb.setCell (Nat.le_refl _) _).drew⟩

theorem relZ_step {p : S4} {l r : List UInt8} {B k m g o c' : Nat} {w wo wr : World} (HP : Hid (p = stN s0 l k)) (HR : Hid (r = l.drop (32 * k))) (HM : Hid (m = l.length - 32 * k)) (hlt : 32 ≤ m)
    (hs' : Sl wo B (some ⟨g, o, none⟩) m c' r) (hb : Below B w wo) (hbi : Below B wo wr) (hL : Lanes wr B (mixed p r 4)) :
    RelZ l B w (.slice (if c' = 32 then some ⟨g, o, none⟩ else some ⟨g, o + 32, none⟩) (m - 32) (c' - 32)) wr := by
  have e : stN s0 l (k + 1) = st p r := by rw [HP.out, HR.out]; rfl
  have hm := HM.out
  refine ⟨k + 1, _, _, by omega, by rw [show l.length - 32 * (k + 1) = m - 32 by omega], ?_, hL.four [] e, hb.trans hbi⟩
  have h1 := (hs'.below hbi).next 32 hlt
  rw [HR.out, List.drop_drop] at h1
  rw [show l.length - 32 * (k + 1) = m - 32 by omega, show 32 * (k + 1) = 32 * k + 32 by omega]
  exact h1
theorem zTurnI (x k : Int) (w : World) (h0 : 0 < k) (hk : k ≤ 63) :
    Calls Tryd.prog 20 #[.int .u64 x, .int .u64 k] w fun e w' => e = .returned (.int .u64 (rot x k.toNat)) ∧ w = w' := by
  obtain ⟨j, rfl⟩ : ∃ j : Nat, k = j := ⟨k.toNat, by omega⟩
  exact zTurn_any x j (by omega) (by omega) w
theorem idx4 (p : S4) (i : Nat) (hi : i < 4) : ∀ W, (Instr.index 58 (.agg #[.int .u64 p.1, .int .u64 p.2.1, .int .u64 p.2.2.1, .int .u64 p.2.2.2]) (.int .i64 i)).run Tryd.prog W = .ok (.int .u64 (lane p i)) W := by
  match i, hi with
  | 0, _ => exact fun _ => by kernel_rfl
  | 1, _ => exact fun _ => by kernel_rfl
  | 2, _ => exact fun _ => by kernel_rfl
  | 3, _ => exact fun _ => by kernel_rfl
theorem drewN_belowS {B : Nat} (w : World) (n : Nat) : Below B w (w.drewN n) := ⟨rfl, rfl, rfl, Nat.le_refl _, fun _ _ => rfl⟩
def mgN (a : Int) (p : S4) : Nat → Int
  | 0 => a
  | 1 => mrg a p.1
  | 2 => mrg (mrg a p.1) p.2.1
  | 3 => mrg (mrg (mrg a p.1) p.2.1) p.2.2.1
  | _ => mrg (mrg (mrg (mrg a p.1) p.2.1) p.2.2.1) p.2.2.2
def RelM (a0 : Int) (p : S4) (B : Nat) (w : World) (h i : Value) (wr : World) : Prop := ∃ k : Nat, k ≤ 4 ∧ h = .int .u64 (mgN a0 p k) ∧ i = .int .i64 k ∧ Below B w wr
theorem mgN_next (a : Int) (p : S4) (i : Nat) (hi : i < 4) : mgN a p (i + 1) = mrg (mgN a p i) (lane p i) := by
  match i, hi with
  | 0, _ => rfl
  | 1, _ => rfl
  | 2, _ => rfl
  | 3, _ => rfl

set_option maxRecDepth 100000 in
set_option maxHeartbeats 4000000 in
theorem zStripes_any (A : Option Addr) (n c : Nat) (l : List UInt8) (w : World) (hs : Sl w w.heap.size A n c l) (hn : n ≤ 2147483647) (h32 : 32 ≤ n) :
    Calls Tryd.prog 17 #[.slice A n c] w fun e w' => e = .returned (.int .u64 (conv (stN s0 l (l.length / 32)))) ∧ Below w.heap.size w w' := by
  obtain rfl := hs.len
  have hm := hs.most
  have hcc := hs.cap
  go_enter Tryd.func17, Tryd.ntmps17
  go_wp2_with fail
  go_loopw [6, 20, 0] (fun _ _ s wr => RelZ l w.heap.size w s wr) (fun _ _ s _ => slLen s)
  case atStart => exact ⟨0, A, c, by omega, by simp, by simpa using hs.alloc (Nat.le_refl _) _, heap_alloc_new w _, (Below.refl _ _).alloc (Nat.le_refl _) _⟩
  case round =>
    obtain ⟨k, A', c', hk, rfl, hs', hL, hb⟩ := hrel
    obtain ⟨p, hp'⟩ : ∃ p, p = stN s0 l k := ⟨_, rfl⟩
    rw [← hp'] at hL
    obtain ⟨r, hr⟩ : ∃ r, r = l.drop (32 * k) := ⟨_, rfl⟩
    rw [← hr] at hs'
    have HP := Lib.hid hp'
    have HR := Lib.hid hr
    clear hp' hr
    have HZ := Lib.hid hb.size
    obtain ⟨m, hm'⟩ : ∃ m, m = l.length - 32 * k := ⟨_, rfl⟩
    rw [← hm'] at hs' ⊢
    have HM := Lib.hid hm'
    clear hm'
    have hc' := hs'.cap
    have hmm := hs'.most
    by_cases hlt : 32 ≤ m
    · have hlti : (32 : Int) ≤ (m : Int) := by omega
      obtain ⟨g, o, rfl, hg, _⟩ := hs'.at_ (by omega)
      go_wp2_with fail
      obtain ⟨wo, hwo⟩ : ∃ wo : World, wo = wr := ⟨_, rfl⟩
      subst hwo
      go_loopw [6, 20] (fun _ i wr => RelI p r w.heap.size wo i wr) (fun _ i _ => 4 - (intOf i).toNat)
      case atStart => exact ⟨0, by omega, rfl, hL.any r, Below.refl _ _⟩
      case round =>
        obtain ⟨i, hi4, rfl, hLi, hbi⟩ := hrel
        by_cases hi : i < 4
        · have hcl : wr.cell? ⟨w.heap.size, i, none⟩ = some (.int .u64 (lane p i)) := (hLi.cell i).trans (mixed_at p r i hi)
          have hfl := hLi.frozen i
          have hi4' : (i : Int) < 4 := by omega
          go_wp2_with fail
          refine wp_region_still_tail 14 (by kernel_rfl) (by kernel_rfl) ?_
          simp only [List.take_succ_cons, List.take_zero, List.drop_succ_cons, List.drop_zero]
          change wpStill _ _ wr.drew _ _ _
          have e1 : IntKind.i64.wrap (8 * (i : Int)) = 8 * (i : Int) := IntWalk.i64_in _ (by omega)
          have e2 : IntKind.i64.wrap (8 * (i : Int) + 8) = 8 * (i : Int) + 8 := IntWalk.i64_in _ (by omega)
          have e3 : (8 * (i : Int)).toNat = 8 * i := by omega
          have e4 : (8 * (i : Int) + 8).toNat = 8 * i + 8 := by omega
          have b1 : (0 : Int) ≤ 8 * (i : Int) := by omega
          have b2 : (8 * (i : Int) + 8) ≤ (m : Int) := by omega
          have b3 : (8 * (i : Int) + 8) ≤ (c' : Int) := by omega
          have b4 : ¬ c' = 8 * i := by omega
          have b5 : (0 : Int) ≤ 8 * (i : Int) + 8 := by omega
          have b6 : 8 * (i : Int) ≤ 8 * (i : Int) + 8 := by omega
          have hpart := hs'.below_part hbi (o := o) (i := 8 * i) (m := 8) (by omega)
          iterate 11 still_step
          still_call ((zWord_any _ _ _ _ _ (hpart.drew.more (by exact Nat.le_trans HZ.out hbi.size)) (by omega)).mono fun _ _ h => ⟨h.1, h.2.symm⟩)
          still_call ((zRound_any _ _ _).mono fun _ _ h => ⟨h.1, h.2.symm⟩)
          repeat still_step
          refine wpStill_nil ?_
          change wpList _ _ _ _ _ wr.drew
          go_wp2
          go_roundw
          case rel => exact relI_step hLi hbi hi (Nat.le_trans HZ.out hbi.size)
          case measure => simp [intOf]; omega
        · obtain rfl : i = 4 := by omega
          go_wp2_with fail
          go_roundw
          case rel => exact relZ_step HP HR HM hlt hs' hb hbi hLi
          case measure => simp only [slLen_slice]; omega
    · have hk32 : Hid (k = l.length / 32) := Lib.hid (by have := HM.out; omega)
      have hlti : decide ((32 : Int) ≤ (m : Int)) = false := by simp; omega
      have l0 : wr.cell? ⟨w.heap.size, 0, none⟩ = some (.int .u64 p.1) := (hL.cell 0).trans rfl
      have l1 : wr.cell? ⟨w.heap.size, 1, none⟩ = some (.int .u64 p.2.1) := (hL.cell 1).trans rfl
      have l2 : wr.cell? ⟨w.heap.size, 2, none⟩ = some (.int .u64 p.2.2.1) := (hL.cell 2).trans rfl
      have l3 : wr.cell? ⟨w.heap.size, 3, none⟩ = some (.int .u64 p.2.2.2) := (hL.cell 3).trans rfl
      go_wp2_with fail
      go_quiet ((go_at_call 20; exact Calls.quiet_of_same ((zTurnI _ _ _ (by omega) (by omega)).mono fun _ _ h => ⟨h.1, h.2.symm⟩)))
      simp only [show Int.toNat 1 = 1 from rfl, show Int.toNat 7 = 7 from rfl, show Int.toNat 12 = 12 from rfl, show Int.toNat 18 = 18 from rfl]
      go_wp2_with fail
      have hbq := hb.trans (drewN_belowS (B := w.heap.size) wr nq)
      generalize hq0 : IntKind.u64.wrap (IntKind.u64.wrap (IntKind.u64.wrap (rot p.1 1 + rot p.2.1 7) + rot p.2.2.1 12) + rot p.2.2.2 18) = a0
      have hfin : Hid (conv (stN s0 l (l.length / 32)) = mgN a0 p 4) := Lib.hid (by rw [← hk32.out, ← HP.out, ← hq0]; rfl)
      clear hq0 l0 l1 l2 l3
      go_loopw [9, 7, 56] (fun _ h i wr => RelM a0 p w.heap.size w h i wr) (fun _ _ i _ => 4 - (intOf i).toNat)
      case atStart => exact ⟨0, by omega, rfl, rfl, hbq⟩
      case round =>
        obtain ⟨i, hi4, rfl, rfl, hbx⟩ := hrel
        by_cases hi : i < 4
        · have hix := idx4 p i hi
          have hi4' : (i : Int) < 4 := by omega
          have hnext := Lib.hid (mgN_next a0 p i hi)
          go_wp2_with (go_at_call 42; refine (zMerge_any _ _ _).mono ?_; rintro e w' ⟨rfl, rfl⟩)
          go_roundw
          case rel => exact ⟨i + 1, by omega, by rw [hnext.out], by go_num, hbx⟩
          case measure => simp [intOf]; omega
        · obtain rfl : i = 4 := by omega
          go_wp2_with fail
          go_ret
          exact ⟨by rw [hfin.out]; rfl, hbx⟩
end Go.Proofs.YtkpmhdpeglbacaaDoor
