/-
  xxhash.Digest.MarshalBinary: the state as bytes. Conditions: those of the theorem.
-/
import Derived.Test.YtkpmhdpeglbacaaDoorSvBuf
import Derived.Test.YtkpmhdpeglbacaaDoorQtail
namespace Go.Proofs.YtkpmhdpeglbacaaDoor
open Go.RowKit

def magicB : List UInt8 := [120, 120, 104, 6]
/-- the state's bytes ahead of the memory -/
def stHead (a1 a2 a3 a4 tot : Nat) : List UInt8 := ((((magicB ++ Lib.leBytes 8 a1) ++ Lib.leBytes 8 a2) ++ Lib.leBytes 8 a3) ++ Lib.leBytes 8 a4) ++ Lib.leBytes 8 tot
theorem stHead_length (a1 a2 a3 a4 tot : Nat) : (stHead a1 a2 a3 a4 tot).length = 44 := by simp [stHead, magicB, Lib.leBytes]
theorem appendU64' (g n m : Nat) (o z : List UInt8) (x : Nat) (hx : x < 18446744073709551616) (w : World) (hB : Buf w g o z) (hn : o.length = n) (hm : n + 8 = m) (hz : 8 ≤ z.length) (hlen : o.length + z.length = 76) :
    Calls Tryd.prog 44 #[.slice (some ⟨g, 0, none⟩) n 76, .int .u64 x] w fun e w' =>
      e = .returned (.slice (some ⟨g, 0, none⟩) m 76) ∧ Buf w' g (o ++ Lib.leBytes 8 x) (z.drop 8) ∧ Below g w w' := by
  subst hn
  subst hm
  exact appendU64_any g o z x hx w hB hz hlen
theorem made76 : madeCells #[Value.int .u8 0] 76 = (Lib.byteCells (List.replicate 76 0)).toArray := by
  apply Array.toList_inj.1
  rw [toList_madeCells_one]
  rfl

theorem below_drewB {B : Nat} {w w' : World} (h : Below B w w') (n : Nat) : Below B w (w'.drewN n) := ⟨h.os, h.tape, h.output, h.size, h.block⟩
theorem mem_cells {w : World} {D : Nat} {s : S4} {tot n : Int} {mem : List UInt8} (h : Dig w D s tot mem n) (q : Nat) (hq : (q : Int) ≤ 32) (j : Nat) (u : Value) (hu : (Lib.byteCells (mem.take q))[j]? = some u) : (w.drewN 1).cell? ((⟨D, 5, none⟩ : Addr).add j) = some u := by
  have hm := h.2
  unfold Lib.byteCells at hu
  rw [List.getElem?_map] at hu
  cases he : (mem.take q)[j]? with
  | none => rw [he] at hu; cases hu
  | some b =>
    rw [he] at hu
    injection hu with hu
    obtain ⟨h1, h2⟩ := List.getElem?_eq_some_iff.1 he
    simp at h1
    rw [List.getElem_take] at h2
    rw [add_some, ← hu, ← h2]
    exact h.mem_ j (by omega)

set_option maxHeartbeats 3200000 in
theorem marshal_any (D : Nat) (a1 a2 a3 a4 tot q : Nat) (mem : List UInt8) (w : World) (hd : Dig w D ((a1 : Int), (a2 : Int), (a3 : Int), (a4 : Int)) tot mem q) (hq : q ≤ 32) (ht : tot < 18446744073709551616)
    (h1 : a1 < 18446744073709551616) (h2 : a2 < 18446744073709551616) (h3 : a3 < 18446744073709551616) (h4 : a4 < 18446744073709551616) :
    Calls Tryd.prog 28 #[.pointer (some ⟨D, 0, none⟩)] w fun e w' =>
      e = .returned (.tuple #[.slice (some ⟨w.heap.size, 0, none⟩) 76 76, .nilIface]) ∧ Buf w' w.heap.size (stHead a1 a2 a3 a4 tot ++ mem.take q) (List.replicate (32 - q) 0) ∧ Below w.heap.size w w' := by
  have hD := hd.lt
  have hmem := hd.2
  obtain ⟨row, hrow⟩ : ∃ row, madeCells #[Value.int .u8 0] 76 = row := ⟨_, rfl⟩
  have hmk : ∀ w : World, (Instr.makeSlice 22 (.int .i64 0) (.int .i64 76)).run Tryd.prog w = .ok (.slice (some ⟨w.heap.size, 0, none⟩) 0 76) (w.alloc (.cells row 5)) := fun w => by
    rw [← hrow]
    exact run_make_room (P := Tryd.prog) 22 5 (.int .u8 0) 1 Tryd.underlying22 info_u8 rfl .i64 .i64 76 (by omega) (by omega) w
  obtain ⟨g, hg⟩ : ∃ g, w.heap.size = g := ⟨_, rfl⟩
  obtain ⟨wa, hwa⟩ : ∃ wa, w.alloc (.cells row 5) = wa := ⟨_, rfl⟩
  have hba : Below g w wa := by rw [← hwa, ← hg]; exact (Below.refl _ _).alloc (Nat.le_refl _) _
  have hBa : Buf wa g [] (List.replicate 76 0) := by
    unfold Buf
    rw [List.nil_append, ← made76, hrow, ← hwa, ← hg]
    exact heap_alloc_new _ _
  rw [hg] at hD
  have HDa := Lib.hid (hd.below hba hD)
  have HBa := Lib.hid hBa
  have HROW := Lib.hid hrow
  have HM := Lib.hid hmem
  clear hd hBa hrow hmem
  obtain ⟨w1, hw1⟩ : ∃ w1, wa.setCells g 0 (Lib.byteCells magicB) = w1 := ⟨_, rfl⟩
  have HB1 : Hid (Buf w1 g magicB (List.replicate 72 0)) := by
    have := HBa.out.set_ magicB (by simp [magicB])
    rw [List.length_nil, hw1] at this
    exact Lib.hid this
  have hb1 : Below g w w1 := by rw [← hw1]; exact below_setCellsB (Nat.le_refl g) _ _ _ _ hba
  have hb1a : Below g wa w1 := by rw [← hw1]; exact below_setCellsB (Nat.le_refl g) _ _ _ _ (Below.refl _ _)
  have HD1 := Lib.hid (HDa.out.below hb1a hD)
  have hc := HD1.out.c0
  clear hba hb1a
  go_enter Tryd.func28, Tryd.ntmps28
  go_wp2_with (at_builtin; refine wpList_append_room1 _ rfl (.tmp 6) (.const (.string ⟨#[120, 120, 104, 6]⟩)) 22 9 rfl 5 (.int .u8 0) 1 Tryd.underlying22 info_u8 g 0 0 76 rfl _ rfl 4 (Lib.byteCells magicB) (Src.ofString _ Tryd.underlying9 ⟨#[120, 120, 104, 6]⟩) ?c1 ?c2 ?c3 ?_)
  case c2 => intro j hj; rw [byteCells_len] at hj; simp [magicB] at hj; exact HBa.out.there _ (by simp; omega)
  case c3 => intro j hj; exact HBa.out.free _
  refine (appendU64' g 4 12 magicB (List.replicate 72 0) a1 h1 w1 HB1.out (by simp [magicB]) rfl (by simp) (by simp [magicB])).mono ?_
  rintro e w2 ⟨rfl, hB2, hb2⟩
  have HB2 : Hid (Buf w2 g (magicB ++ Lib.leBytes 8 a1) (List.replicate 64 0)) := Lib.hid hB2
  have HD2 := Lib.hid (HD1.out.below hb2 hD)
  clear hc hB2
  have hc := HD2.out.c1
  have hb2 := hb1.trans hb2
  go_wp2_with fail
  refine (appendU64' g 12 20 ((magicB ++ Lib.leBytes 8 a1)) (List.replicate 64 0) a2 h2 w2 HB2.out (by simp [magicB, Lib.leBytes]) rfl (by simp) (by simp [magicB, Lib.leBytes])).mono ?_
  rintro e w3 ⟨rfl, hB3, hb3⟩
  have HB3 : Hid (Buf w3 g ((magicB ++ Lib.leBytes 8 a1) ++ Lib.leBytes 8 a2) (List.replicate 56 0)) := Lib.hid hB3
  have HD3 := Lib.hid (HD2.out.below hb3 hD)
  clear hc hB3
  have hc := HD3.out.c2
  have hb3 := hb2.trans hb3
  go_wp2_with fail
  refine (appendU64' g 20 28 (((magicB ++ Lib.leBytes 8 a1) ++ Lib.leBytes 8 a2)) (List.replicate 56 0) a3 h3 w3 HB3.out (by simp [magicB, Lib.leBytes]) rfl (by simp) (by simp [magicB, Lib.leBytes])).mono ?_
  rintro e w4 ⟨rfl, hB4, hb4⟩
  have HB4 : Hid (Buf w4 g (((magicB ++ Lib.leBytes 8 a1) ++ Lib.leBytes 8 a2) ++ Lib.leBytes 8 a3) (List.replicate 48 0)) := Lib.hid hB4
  have HD4 := Lib.hid (HD3.out.below hb4 hD)
  clear hc hB4
  have hc := HD4.out.c3
  have hb4 := hb3.trans hb4
  go_wp2_with fail
  refine (appendU64' g 28 36 ((((magicB ++ Lib.leBytes 8 a1) ++ Lib.leBytes 8 a2) ++ Lib.leBytes 8 a3)) (List.replicate 48 0) a4 h4 w4 HB4.out (by simp [magicB, Lib.leBytes]) rfl (by simp) (by simp [magicB, Lib.leBytes])).mono ?_
  rintro e w5 ⟨rfl, hB5, hb5⟩
  have HB5 : Hid (Buf w5 g ((((magicB ++ Lib.leBytes 8 a1) ++ Lib.leBytes 8 a2) ++ Lib.leBytes 8 a3) ++ Lib.leBytes 8 a4) (List.replicate 40 0)) := Lib.hid hB5
  have HD5 := Lib.hid (HD4.out.below hb5 hD)
  clear hc hB5
  have hc := HD5.out.c4
  have hb5 := hb4.trans hb5
  go_wp2_with fail
  refine (appendU64' g 36 44 (((((magicB ++ Lib.leBytes 8 a1) ++ Lib.leBytes 8 a2) ++ Lib.leBytes 8 a3) ++ Lib.leBytes 8 a4)) (List.replicate 40 0) tot ht w5 HB5.out (by simp [magicB, Lib.leBytes]) rfl (by simp) (by simp [magicB, Lib.leBytes])).mono ?_
  rintro e w6 ⟨rfl, hB6, hb6⟩
  have HB6 : Hid (Buf w6 g (((((magicB ++ Lib.leBytes 8 a1) ++ Lib.leBytes 8 a2) ++ Lib.leBytes 8 a3) ++ Lib.leBytes 8 a4) ++ Lib.leBytes 8 tot) (List.replicate 32 0)) := Lib.hid hB6
  have HD6 := Lib.hid (HD5.out.below hb6 hD)
  clear hc hB6
  have hc := HD6.out.c37
  have hb6 := hb5.trans hb6
  go_wp2_with fail
  have hqi : (q : Int) ≤ 32 := by omega
  obtain ⟨w7, hw7⟩ : ∃ w7, (w6.drewN 1).setCells g 44 (Lib.byteCells (mem.take q)) = w7 := ⟨_, rfl⟩
  have hml : (mem.take q).length = q := by have := HM.out; simp; omega
  have HB7 : Hid (Buf w7 g (stHead a1 a2 a3 a4 tot ++ mem.take q) (List.replicate (32 - q) 0)) := by
    have := (HB6.out.drewN 1).set_ (mem.take q) (by rw [hml]; simp; omega)
    rw [show (((((magicB ++ Lib.leBytes 8 a1) ++ Lib.leBytes 8 a2) ++ Lib.leBytes 8 a3) ++ Lib.leBytes 8 a4) ++ Lib.leBytes 8 tot) = stHead a1 a2 a3 a4 tot from rfl, stHead_length, hw7, hml, List.drop_replicate] at this
    exact Lib.hid this
  have hb67 : Below g w6 w7 := by rw [← hw7]; exact below_setCellsB (Nat.le_refl g) _ _ _ _ (below_drewB (Below.refl _ _) 1)
  have HW7 := Lib.hid hw7
  have hc7 := (HD6.out.below hb67 hD).c37
  have Hb7 := Lib.hid (hb6.trans hb67)
  have HML := Lib.hid hml
  have e1 : IntKind.i64.wrap (44 + (q : Int) + 32) = 44 + (q : Int) + 32 := by rw [IntKind.wrap_i64]; omega
  have e2 : IntKind.i64.wrap (44 + (q : Int) + 32 - (q : Int)) = 76 := by rw [IntKind.wrap_i64]; omega
  clear hb67 hml
  refine wp_region_quiet_tail 9 (by kernel_rfl) (by kernel_rfl) ?_
  simp only [List.take_succ_cons, List.take_zero, List.drop_succ_cons, List.drop_zero]
  repeat (go_big_quiet_step (fail))
  refine wpQuiet_nil ?_
  refine wpList_append_room1 _ (by rfl) (.tmp 38) (.tmp 46) 22 22 (by rfl) 5 (.int .u8 0) 1 Tryd.underlying22 info_u8 g 0 44 76 (by rfl) _ (by rfl) q (Lib.byteCells (mem.take q)) (Src.ofSlice _ Tryd.underlying22 ⟨D, 5, none⟩ q 32 _ (by rw [byteCells_len, HML.out, Nat.mul_one]) (fun j u hu => mem_cells HD6.out q hqi j u hu) (fun u hu => byteCells_one hu)) (by omega) (by intro j hj; rw [byteCells_len, HML.out] at hj; exact (HB6.out.drewN 1).there _ (by simp [magicB, Lib.leBytes]; omega)) (by intro j hj; exact (HB6.out.drewN 1).free _) ?_
  go_wp2_with fail
  go_ret2
  rw [hg]
  exact ⟨rfl, HB7.out, Hb7.out⟩
end Go.Proofs.YtkpmhdpeglbacaaDoor
