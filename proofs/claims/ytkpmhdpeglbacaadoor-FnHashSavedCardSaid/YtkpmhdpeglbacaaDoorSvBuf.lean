/-
  A buffer known whole: appending to it in place; xxhash.appendUint64. Conditions: those of each theorem.
-/
import Derived.Test.YtkpmhdpeglbacaaDoorDig
import Derived.Test.YtkpmhdpeglbacaaDoorShelf
import Derived.Test.YtkpmhdpeglbacaaDoorOwn
import Derived.Lib.JoinLaws
import Derived.Deep.RegionWith
import Derived.Deep.OwnRows
import Derived.Outline
namespace Go.Proofs.YtkpmhdpeglbacaaDoor
open Go.RowKit

/-- block g holds the bytes o ++ z, and nothing else -/
def Buf (w : World) (g : Nat) (o z : List UInt8) : Prop := w.heap[g]? = some (.cells (Lib.byteCells (o ++ z)).toArray 5 (0, 0))
theorem row_setCells (g t : Nat) : ∀ (M o z : List Value) (w : World), w.heap[g]? = some (.cells (o ++ z).toArray t (0, 0)) → M.length ≤ z.length →
    (w.setCells g o.length M).heap[g]? = some (.cells ((o ++ M) ++ z.drop M.length).toArray t (0, 0))
  | [], o, z, _, h, _ => by simpa [World.setCells] using h
  | v :: M, o, [], _, _, hl => by simp at hl
  | v :: M, o, y :: z, w, h, hl => by
    have h1 : (w.setCell ⟨g, o.length, none⟩ v).heap[g]? = some (.cells ((o ++ [v]) ++ z).toArray t (0, 0)) := by
      simp [World.setCell, Array.getElem?_modify, h]
    have h2 := row_setCells g t M (o ++ [v]) z _ h1 (by simpa using hl)
    rw [show (o ++ [v]).length = o.length + 1 by simp] at h2
    rw [World.setCells, h2]
    simp
theorem below_setCellsB {B g : Nat} (hg : B ≤ g) : ∀ (M : List Value) (o : Nat) (w w0 : World), Below B w0 w → Below B w0 (w.setCells g o M)
  | [], _, _, _, h => h
  | v :: M, o, _, w0, h => below_setCellsB hg M (o + 1) _ w0 (h.setCell (p := ⟨g, o, none⟩) hg v)
theorem byteCells_add (a b : List UInt8) : Lib.byteCells (a ++ b) = Lib.byteCells a ++ Lib.byteCells b := by simp [Lib.byteCells]
theorem byteCells_drop (a : List UInt8) (n : Nat) : Lib.byteCells (a.drop n) = (Lib.byteCells a).drop n := by simp [Lib.byteCells]
theorem byteCells_one {l : List UInt8} {v : Value} (h : v ∈ Lib.byteCells l) : v.oneCell' = true := by
  simp only [Lib.byteCells, List.mem_map] at h
  obtain ⟨b, _, rfl⟩ := h
  rfl
theorem byteCells_len (l : List UInt8) : (Lib.byteCells l).length = l.length := by simp [Lib.byteCells]
theorem Buf.set_ {w : World} {g : Nat} {o z : List UInt8} (h : Buf w g o z) (M : List UInt8) (hM : M.length ≤ z.length) :
    Buf (w.setCells g o.length (Lib.byteCells M)) g (o ++ M) (z.drop M.length) := by
  unfold Buf at h ⊢
  rw [byteCells_add] at h
  have h2 := row_setCells g 5 (Lib.byteCells M) (Lib.byteCells o) (Lib.byteCells z) w h (by rw [byteCells_len, byteCells_len]; exact hM)
  rw [byteCells_len, byteCells_len] at h2
  rw [h2, byteCells_add, byteCells_add, byteCells_drop]
theorem Buf.keep {w w' : World} {g : Nat} {o z : List UInt8} (h : Buf w g o z) (hb : w'.heap[g]? = w.heap[g]?) : Buf w' g o z := hb.trans h
theorem Buf.below {w w' : World} {g B : Nat} {o z : List UInt8} (h : Buf w g o z) (hb : Below B w w') (hg : g < B) : Buf w' g o z := h.keep (hb.block g hg)
theorem Buf.drewN {w : World} {g : Nat} {o z : List UInt8} (h : Buf w g o z) (k : Nat) : Buf (w.drewN k) g o z := h
theorem Buf.drew {w : World} {g : Nat} {o z : List UInt8} (h : Buf w g o z) : Buf w.drew g o z := h
theorem Buf.there {w : World} {g : Nat} {o z : List UInt8} (h : Buf w g o z) (k : Nat) (hk : k < o.length + z.length) : (w.cell? ⟨g, k, none⟩).isSome = true := by
  rw [cell_of_row w g k _ _ (0, 0) h, List.getElem?_toArray]
  unfold Lib.byteCells
  rw [List.getElem?_map, List.getElem?_eq_getElem (by simpa using hk)]
  rfl
theorem Buf.free {w : World} {g : Nat} {o z : List UInt8} (h : Buf w g o z) (k : Nat) : w.frozen? ⟨g, k, none⟩ = false := frozen_of_row w g k _ _ h
theorem Buf.lt {w : World} {g : Nat} {o z : List UInt8} (h : Buf w g o z) : g < w.heap.size := by
  rcases Nat.lt_or_ge g w.heap.size with hlt | hge
  · exact hlt
  · unfold Buf at h; rw [Array.getElem?_eq_none hge] at h; cases h

/-- binary.LittleEndian.PutUint64 into a block of eight cells -/
theorem putU64_blk (B t : Nat) (row : List Value) (hr : row.length = 8) (v : Nat) (hv : v < 18446744073709551616) (w : World) (h : w.heap[B]? = some (.cells row.toArray t (0, 0))) :
    Calls Tryd.prog 51 #[.agg #[], .slice (some ⟨B, 0, none⟩) 8 8, .int .u64 v] w fun e w' =>
      e = .returned (.tuple #[]) ∧ w'.heap[B]? = some (.cells (Lib.byteCells (Lib.leBytes 8 v)).toArray t (0, 0)) ∧ Below B w w' := by
  match row, hr with
  | [x0, x1, x2, x3, x4, x5, x6, x7], _ =>
    have hB : B < w.heap.size := by
      rcases Nat.lt_or_ge B w.heap.size with hlt | hge
      · exact hlt
      · rw [Array.getElem?_eq_none hge] at h; cases h
    have c : ∀ k, w.cell? ⟨B, 0 + k, none⟩ = [x0, x1, x2, x3, x4, x5, x6, x7][k]? := fun k => by rw [Nat.zero_add, cell_of_row w B k _ t (0, 0) h]; simp
    have f : ∀ k, w.frozen? ⟨B, k, none⟩ = false := fun k => frozen_of_row w B k _ t h
    refine (Tryd.binary_LE_PutUint64 B 0 8 8 v hv x0 x1 x2 x3 x4 x5 x6 x7 w (by omega) (c 0) (c 1) (c 2) (c 3) (c 4) (c 5) (c 6) (c 7) (f _) (f _) (f _) (f _) (f _) (f _) (f _) (f _)).mono ?_
    rintro e w' ⟨rfl, rfl⟩
    refine ⟨rfl, ?_, below_setCellsB (Nat.le_refl B) _ _ _ _ ((Below.refl _ _).alloc (Nat.le_of_lt hB) _)⟩
    have h2 := row_setCells B t (Lib.byteCells (Lib.leBytes 8 v)) [] [x0, x1, x2, x3, x4, x5, x6, x7] (w.alloc (.cells #[] 68)) (by rw [((Below.refl w.heap.size w).alloc (Nat.le_refl _) _).block B hB]; exact h) (by rw [byteCells_len]; simp [Lib.leBytes])
    rw [List.length_nil] at h2
    rw [h2, byteCells_len]
    simp [Lib.leBytes]

theorem slc_cells {w : World} {B t : Nat} {l : List UInt8} (h : w.heap[B]? = some (.cells (Lib.byteCells l).toArray t (0, 0))) (j : Nat) (u : Value) (hu : (Lib.byteCells l)[j]? = some u) : w.cell? ((⟨B, 0, none⟩ : Addr).add j) = some u := by
  rw [add_some, Nat.zero_add, cell_of_row w B _ _ t (0, 0) h, List.getElem?_toArray]
  exact hu

theorem below_drew'' {B : Nat} {w w' : World} (h : Below B w.drew w') : Below B w w' := ((Below.refl _ _).drew).trans h
set_option maxHeartbeats 800000 in
theorem appendU64_any (g : Nat) (o z : List UInt8) (x : Nat) (hx : x < 18446744073709551616) (w : World) (hB : Buf w g o z) (hz : 8 ≤ z.length) (hlen : o.length + z.length = 76) :
    Calls Tryd.prog 44 #[.slice (some ⟨g, 0, none⟩) o.length 76, .int .u64 x] w fun e w' =>
      e = .returned (.slice (some ⟨g, 0, none⟩) (o.length + 8) 76) ∧ Buf w' g (o ++ Lib.leBytes 8 x) (z.drop 8) ∧ Below g w w' := by
  have hgl := hB.lt
  have HB := Lib.hid hB
  have HZ := Lib.hid hz
  have HL := Lib.hid hlen
  obtain ⟨B, hBe⟩ : ∃ B, w.heap.size = B := ⟨_, rfl⟩
  obtain ⟨wa, hwa⟩ : ∃ wa, w.alloc (.cells (Array.replicate 8 (.int .u8 0)) 70) = wa := ⟨_, rfl⟩
  have hba : Below B w wa := by rw [← hwa, ← hBe]; exact (Below.refl _ _).alloc (Nat.le_refl _) _
  have hRa : wa.heap[B]? = some (.cells (List.replicate 8 (Value.int .u8 0)).toArray 70 (0, 0)) := by rw [← hwa, ← hBe]; exact heap_alloc_new _ _
  have K := Lib.hid (putU64_blk B 70 (List.replicate 8 (.int .u8 0)) rfl x hx wa.drew hRa)
  have hw2 : w.alloc (.cells #[.int .u8 0, .int .u8 0, .int .u8 0, .int .u8 0, .int .u8 0, .int .u8 0, .int .u8 0, .int .u8 0] 70) = wa := hwa
  rw [hBe] at hgl
  clear hB hz hlen hx hRa hwa
  go_enter Tryd.func44, Tryd.ntmps44
  go_wp2_with fail
  have HBE := Lib.hid hBe
  clear hw2 hBe
  go_region_with (go_at_call 51; refine K.out.mono ?_; rintro e w2 ⟨rfl, hr2, hb2⟩)
  all_goals
    have hbb : Below g w w2 := (hba.mono (Nat.le_of_lt hgl)).trans (below_drew'' (hb2.mono (Nat.le_of_lt hgl)))
    have hB2 : Buf w2 g o z := (HB.out.below hba hgl).keep (hb2.block g hgl)
    have HB2 := Lib.hid hB2
    have HR2 := Lib.hid hr2
    clear hB2 hr2
    go_wp2_with (at_builtin; refine wpList_append_room1 _ rfl (.tmp 10) (.tmp 11) 22 22 rfl 5 (.int .u8 0) 1 Tryd.underlying22 info_u8 g 0 o.length 76 rfl _ rfl 8 (Lib.byteCells (Lib.leBytes 8 x)) (Src.ofSlice _ Tryd.underlying22 ⟨B, 0, none⟩ 8 8 _ (by rw [byteCells_len]; simp [Lib.leBytes]) (fun j u hu => slc_cells HR2.out j u hu) (fun u hu => byteCells_one hu)) ?c1 ?c2 ?c3 ?c4)
    case c1 => have := HZ.out; have := HL.out; omega
    case c2 => intro j hj; rw [byteCells_len] at hj; simp [Lib.leBytes] at hj; exact HB2.out.there _ (by have := HZ.out; omega)
    case c3 => intro j hj; exact HB2.out.free _
    have hB3 := HB2.out.set_ (Lib.leBytes 8 x) (by have := HZ.out; simp [Lib.leBytes]; omega)
    have hb3 := below_setCellsB (Nat.le_refl g) (Lib.byteCells (Lib.leBytes 8 x)) o.length w2 w hbb
    have HB3 := Lib.hid hB3
    have Hb3 := Lib.hid hb3
    clear hB3 hb3
    go_wp2
    go_ret
    trace_state
    exact ⟨rfl, HB3.out, Hb3.out⟩
end Go.Proofs.YtkpmhdpeglbacaaDoor
