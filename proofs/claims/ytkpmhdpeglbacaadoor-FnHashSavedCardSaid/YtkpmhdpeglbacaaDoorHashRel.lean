/-
  What each step of the walks of XXH64 does to what is known: plain lemmas. Conditions: those of each.
-/
import Derived.Test.YtkpmhdpeglbacaaDoorHashDef
import Derived.Test.YtkpmhdpeglbacaaDoorUx
import Derived.Test.YtkpmhdpeglbacaaDoorWord
namespace Go.Proofs.YtkpmhdpeglbacaaDoor
open Go.RowKit

def slLen (v : Value) : Nat := match v with | .slice _ m _ => m | _ => 0
theorem slLen_slice (A : Option Addr) (n c : Nat) : slLen (.slice A n c) = n := rfl

theorem Sl.next {w : World} {B g o n c : Nat} {l : List UInt8} (h : Sl w B (some ⟨g, o, none⟩) n c l) (i : Nat) (hi : i ≤ n) :
    Sl w B (if c = i then some ⟨g, o, none⟩ else some ⟨g, o + i, none⟩) (n - i) (c - i) (l.drop i) := by
  have hc := h.cap
  have hl := h.len
  have := h.cut (if c = i then some ⟨g, o, none⟩ else some ⟨g, o + i, none⟩) (i := i) (j := n) (c' := c - i) hi (Nat.le_refl _) (by omega) (by omega)
    (fun hlt => by rw [if_neg (by omega)]; simp [add_some])
  rwa [List.take_of_length_le (by omega)] at this
theorem Sl.next3 {w : World} {B g o n c : Nat} {l : List UInt8} (h : Sl w B (some ⟨g, o, none⟩) n c l) (i : Nat) (hi : i ≤ n) :
    Sl w B (if n = i then some ⟨g, o, none⟩ else some ⟨g, o + i, none⟩) (n - i) (n - i) (l.drop i) := by
  have hc := h.cap
  have hl := h.len
  have := h.cut (if n = i then some ⟨g, o, none⟩ else some ⟨g, o + i, none⟩) (i := i) (j := n) (c' := n - i) hi (Nat.le_refl _) (by omega) (by omega)
    (fun hlt => by rw [if_neg (by omega)]; simp [add_some])
  rwa [List.take_of_length_le (by omega)] at this

/-- the head of the loop over stripes -/
def RelS (init : S4) (l : List UInt8) (n B : Nat) (w : World) (a b c d s : Value) (wr : World) : Prop :=
  ∃ k A' c', 32 * k ≤ n ∧ a = .int .u64 (stN init l k).1 ∧ b = .int .u64 (stN init l k).2.1 ∧ c = .int .u64 (stN init l k).2.2.1 ∧ d = .int .u64 (stN init l k).2.2.2 ∧
    s = .slice A' (n - 32 * k) c' ∧ Sl wr B A' (n - 32 * k) c' (l.drop (32 * k)) ∧ Below B w wr
theorem relS_step {init p : S4} {l r : List UInt8} {n B k m g o c' : Nat} {w wr w4 : World} (HP : Hid (p = stN init l k)) (HR : Hid (r = l.drop (32 * k))) (HM : Hid (m = n - 32 * k)) (hlt : 32 ≤ m)
    (hs' : Sl wr B (some ⟨g, o, none⟩) m c' r) (hb : Below B w wr) (hb4 : Below B wr w4) :
    RelS init l n B w (.int .u64 (rnd p.1 (Lib.leNat (r.take 8)))) (.int .u64 (rnd p.2.1 (Lib.leNat ((r.drop 8).take 8)))) (.int .u64 (rnd p.2.2.1 (Lib.leNat ((r.drop 16).take 8))))
      (.int .u64 (rnd p.2.2.2 (Lib.leNat ((r.drop 24).take 8)))) (.slice (if m = 32 then some ⟨g, o, none⟩ else some ⟨g, o + 32, none⟩) (m - 32) (m - 32)) w4 := by
  have e : stN init l (k + 1) = st p r := by rw [HP.out, HR.out]; rfl
  have hm := HM.out
  refine ⟨k + 1, _, _, by omega, by rw [e]; rfl, by rw [e]; rfl, by rw [e]; rfl, by rw [e]; rfl, by rw [show n - 32 * (k + 1) = m - 32 by omega], ?_, hb.trans hb4⟩
  have h1 := (hs'.below hb4).next3 32 hlt
  rw [HR.out, List.drop_drop] at h1
  rw [show n - 32 * (k + 1) = m - 32 by omega, show 32 * (k + 1) = 32 * k + 32 by omega]
  exact h1

/-- the head of the loop over eights -/
def Rel8 (h0 : Int) (r : List UInt8) (B : Nat) (w : World) (h s : Value) (wr : World) : Prop :=
  ∃ j A' c', 8 * j ≤ r.length ∧ h = .int .u64 (t8 h0 r j) ∧ s = .slice A' (r.length - 8 * j) c' ∧ Sl wr B A' (r.length - 8 * j) c' (r.drop (8 * j)) ∧ Below B w wr
theorem rel8_step {h0 q : Int} {r r' : List UInt8} {B j m g o c' : Nat} {w wr w1 : World} (HQ : Hid (q = t8 h0 r j)) (HR : Hid (r' = r.drop (8 * j))) (HM : Hid (m = r.length - 8 * j)) (hlt : 8 ≤ m)
    (hs' : Sl wr B (some ⟨g, o, none⟩) m c' r') (hb : Below B w wr) (hb1 : Below B wr w1) (x : Int) (hx : x = e8 q (Lib.leNat (r'.take 8))) :
    Rel8 h0 r B w (.int .u64 x) (.slice (if c' = 8 then some ⟨g, o, none⟩ else some ⟨g, o + 8, none⟩) (m - 8) (c' - 8)) w1 := by
  have hm := HM.out
  refine ⟨j + 1, _, _, by omega, ?_, by rw [show r.length - 8 * (j + 1) = m - 8 by omega], ?_, hb.trans hb1⟩
  · rw [hx, HQ.out, HR.out]
    rfl
  · have h1 := (hs'.below hb1).next 8 hlt
    rw [HR.out, List.drop_drop] at h1
    rw [show r.length - 8 * (j + 1) = m - 8 by omega, show 8 * (j + 1) = 8 * j + 8 by omega]
    exact h1

/-- the head of the loop over bytes -/
def Rel1 (T : Int) (B : Nat) (w : World) (h s : Value) (wr : World) : Prop :=
  ∃ (q : Int) (rr : List UInt8) (A' : Option Addr) (c' : Nat), h = .int .u64 q ∧ s = .slice A' rr.length c' ∧ Sl wr B A' rr.length c' rr ∧ Hid (t1 q rr = T) ∧ Below B w wr
theorem rel1_step {T q : Int} {b : UInt8} {rr : List UInt8} {B g o c' : Nat} {w wr : World} (HT : Hid (t1 q (b :: rr) = T)) (hs' : Sl wr B (some ⟨g, o, none⟩) (b :: rr).length c' (b :: rr)) (hb : Below B w wr)
    (x : Int) (hx : x = e1 q b.toNat) :
    Rel1 T B w (.int .u64 x) (.slice (if c' = 1 then some ⟨g, o, none⟩ else some ⟨g, o + 1, none⟩) rr.length (c' - 1)) wr := by
  refine ⟨x, rr, _, _, rfl, rfl, ?_, Lib.hid ?_, hb⟩
  · have h1 := hs'.next 1 (by simp)
    simpa using h1
  · rw [hx, ← HT.out]
    rfl
end Go.Proofs.YtkpmhdpeglbacaaDoor
