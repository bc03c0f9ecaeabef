/-
  What is appended to a slice of the call's own, the block told; the header's bytes as lists: plain lemmas. Conditions: those of each.
-/
import Derived.Test.YtiobfiepapflaaaDoorOwn
import Derived.Test.YtiobfiepapflaaaDoorSl
import Derived.Test.YtiobfiepapflaaaDoorShelf
import Derived.Lib.AppendStr
import Derived.Deep.RegionWith
import Derived.Outline
namespace Go.Proofs.YtiobfiepapflaaaDoor
open Go.RowKit

structure AppD (w w' : World) (base : Nat) (v : Value) (A' : Option Addr) (n' c' : Nat) (l' : List UInt8) : Prop where
  app : App w w' base v A' n' c' l'
  blk : (Value.slice A' n' c').ownBlock = v.ownBlock ∨ (Value.slice A' n' c').ownBlock = some w.heap.size
theorem wp_append_sld {w : World} {o : Oper} {a : Act} {K : Act → World → Prop} {Q : Exit → Act → World → Prop} (s x : Operand)
    (ho : o.op = .call { callee := .builtin .append, args := #[s, x], argTypes := #[22, 22] })
    (base : Nat) (v : Value) (l l2 : List UInt8) (hs : a.eval s = v) (hown : Own w base v l) (B : Nat) (A : Option Addr) (n c : Nat) (hx : a.eval x = .slice A n c) (hsl : Sl w B A n c l2)
    (hbytes : l.length + n ≤ 140737488355328) (hbase : base ≤ w.heap.size) (n' : Nat) (l' : List UInt8) (hn' : l.length + n = n') (hl' : l ++ l2 = l')
    (h : ∀ A' c' w', AppD w w' base v A' n' c' l' → K (a.put o.dst (.slice A' n' c')) w') : o.wp Tryd.prog a w K Q := by
  obtain ⟨v', w', hrun, h2, h3, h4⟩ := run_append_sl w base o.type v l l2 hown B A n c hsl hbytes hbase
  subst hl'
  have hlen : (l ++ l2).length = n' := by have := hsl.len; simp; omega
  obtain ⟨A', c', hv', hsl', hat'⟩ := h2.form
  rw [hlen] at hv' hsl' hat'
  subst hv'
  unfold Oper.wp execOp
  simp only [ho, resolve, invoke, builtin, Sem.run_bind, Sem.run_pure, Result.andThen_ok, List.map_toArray, List.map_cons, List.map_nil, hs, hx, hrun]
  exact h A' c' w' ⟨⟨h2, hsl', (Below.refl _ _).grown h3 hbase hown.place, Nat.le_trans hbase h3.size, h3, hat'⟩, h4⟩
theorem wpList_append_sld {w : World} {ops : Array Oper} {rest : List Oper} {o : Oper} {a : Act} {Q : Exit → Act → World → Prop} (hgd : o.guard = none) (s x : Operand)
    (ho : o.op = .call { callee := .builtin .append, args := #[s, x], argTypes := #[22, 22] })
    (base : Nat) (v : Value) (l l2 : List UInt8) (hs : a.eval s = v) (hown : Own w base v l) (B : Nat) (A : Option Addr) (n c : Nat) (hx : a.eval x = .slice A n c) (hsl : Sl w B A n c l2)
    (hbytes : l.length + n ≤ 140737488355328) (hbase : base ≤ w.heap.size) (n' : Nat) (l' : List UInt8) (hn' : l.length + n = n') (hl' : l ++ l2 = l')
    (h : ∀ A' c' w', AppD w w' base v A' n' c' l' → wpList Tryd.prog ops Q rest (a.put o.dst (.slice A' n' c')) w') : wpList Tryd.prog ops Q (o :: rest) a w :=
  wpList_plain hgd fun _ hK => wp_append_sld s x ho base v l l2 hs hown B A n c hx hsl hbytes hbase n' l' hn' hl' fun A' c' w' h2 => hK _ _ (h A' c' w' h2)
/-- append(nil, text...) -/
theorem wpList_append_strd {w : World} {ops : Array Oper} {rest : List Oper} {o : Oper} {a : Act} {Q : Exit → Act → World → Prop} (hgd : o.guard = none) (s x : Operand)
    (ho : o.op = .call { callee := .builtin .append, args := #[s, x], argTypes := #[22, 9] })
    (base : Nat) (hs : a.eval s = .slice none 0 0) (t : ByteArray) (l : List UInt8) (hl : Lib.strCells t = Lib.byteCells l) (hll : l.length = t.size) (hx : a.eval x = .string t) (hbytes : t.size ≤ 1000) (hbase : base ≤ w.heap.size) (n : Nat) (hn : l.length = n)
    (h : ∀ A' c' w', App w w' base (.slice none 0 0) A' n c' l → wpList Tryd.prog ops Q rest (a.put o.dst (.slice A' n c')) w') : wpList Tryd.prog ops Q (o :: rest) a w := by
  obtain ⟨i, hi, hz, hsz, hby⟩ := info_parts info_u8
  refine Lib.wpList_append_own_string w hgd s x 22 9 ho base 5 i Tryd.underlying22 Tryd.underlying9 hi hz hsz hby (.slice none 0 0) 0 [] hs (World.ownsRow_nil _ _ _ _) t hx (by unfold maxLen; omega) (by omega) hbase ?_
  intro v' w' h2 h3 _
  have ho2 : Own w' base v' l := by
    unfold Own
    rw [hll, ← hl]
    simpa using h2
  obtain ⟨A', c', hv', hsl', hat'⟩ := ho2.form
  rw [hn] at hv' hsl' hat'
  subst hv'
  exact h A' c' w' ⟨ho2, hsl', (Below.refl _ _).grown h3 hbase (fun k hk => by cases hk), Nat.le_trans hbase h3.size, h3, hat'⟩

/-- the bytes of a header -/
def magicF : List UInt8 := [40, 181, 47, 253]
def beB (H i : Nat) : UInt8 := UInt8.ofNat (H / 256 ^ i)
theorem be_at (H i : Nat) : IntKind.u8.wrap ((H : Int) / ((256 ^ i : Nat) : Int)) = ((beB H i).toNat : Int) := by
  unfold beB
  rw [IntKind.wrap_u8, UInt8.toNat_ofNat']
  omega
theorem sl_lit (w w2 : World) (l : List UInt8) (h : w2 = w.alloc (.cells (Lib.byteCells l).toArray 5)) (hl : l.length ≤ 1000) : Sl w2 w2.heap.size (some ⟨w.heap.size, 0, none⟩) l.length l.length l := by
  subst h
  refine ⟨rfl, Nat.le_refl _, by unfold maxLen; omega, .inr ⟨w.heap.size, 0, rfl, by simp, fun j hj => ?_⟩⟩
  rw [Nat.zero_add, cell_of_row _ w.heap.size j _ 5 (0, 0) (heap_alloc_new _ _), List.getElem?_toArray]
  unfold Lib.byteCells
  rw [List.getElem?_map, List.getElem?_eq_getElem hj]
  rfl
def dcode (D : Nat) : Nat := if D = 0 then 0 else if D < 256 then 1 else if D < 65536 then 2 else 3
def dn (D : Nat) : Nat := if D = 0 then 0 else if D < 256 then 1 else if D < 65536 then 2 else 4
def fcs (z : Nat) : Nat := if z < 256 then 0 else if z < 65792 then 1 else if z < 4294967295 then 2 else 3
def szB (s : Bool) (z : Nat) : List UInt8 := if z < 256 then (if s then [beB z 0] else []) else if z < 65792 then [beB (z - 256) 0, beB (z - 256) 1] else if z < 4294967295 then [beB z 0, beB z 1, beB z 2, beB z 3] else [beB z 0, beB z 1, beB z 2, beB z 3, beB z 4, beB z 5, beB z 6, beB z 7]
def winB (s : Bool) (e : Nat) : List UInt8 := if s then [] else [UInt8.ofNat ((e - 10) * 8)]
def bN (b : Bool) : Nat := if b then 1 else 0
/-- the flags ahead of the size's -/
def fl0 (s k : Bool) (D : Nat) : Nat := 4 * bN k + 32 * bN s + dcode D
def hdOut (z e : Nat) (s k : Bool) (D : Nat) : List UInt8 := (((magicF ++ [UInt8.ofNat (fl0 s k D + 64 * fcs z)]) ++ winB s e) ++ Lib.leBytes (dn D) D) ++ szB s z
theorem row_setCells (g t : Nat) : ∀ (M o z : List Value) (w : World), w.heap[g]? = some (.cells (o ++ z).toArray t (0, 0)) → M.length ≤ z.length →
    (w.setCells g o.length M).heap[g]? = some (.cells ((o ++ M) ++ z.drop M.length).toArray t (0, 0))
  | [], o, z, _, h, _ => by simpa [World.setCells] using h
  | v :: M, o, [], _, _, hl => by simp at hl
  | v :: M, o, y :: z, w, h, hl => by
    have h1 : (w.setCell ⟨g, o.length, none⟩ v).heap[g]? = some (.cells ((o ++ [v]) ++ z).toArray t (0, 0)) := by
      simp [World.setCell, Array.getElem?_modify, h]
    have h2 := row_setCells g t M (o ++ [v]) z _ h1 (by simpa using hl)
    rw [show (o ++ [v]).length = o.length + 1 by simp] at h2
    rw [World.setCells, h2]
    simp
theorem below_setCellsB {B g : Nat} (hg : B ≤ g) : ∀ (M : List Value) (o : Nat) (w w0 : World), Below B w0 w → Below B w0 (w.setCells g o M)
  | [], _, _, _, h => h
  | v :: M, o, _, w0, h => below_setCellsB hg M (o + 1) _ w0 (h.setCell (p := ⟨g, o, none⟩) hg v)
theorem lt_of_blk {w : World} {B : Nat} {o : Obj} (h : w.heap[B]? = some o) : B < w.heap.size := by
  rcases Nat.lt_or_ge B w.heap.size with hlt | hge
  · exact hlt
  · rw [Array.getElem?_eq_none hge] at h; cases h
theorem put16_blk (B t v : Nat) (hv : v < 65536) (w : World) (h : w.heap[B]? = some (.cells (Lib.byteCells [0, 0, 0, 0]).toArray t (0, 0))) :
    Calls Tryd.prog 20 #[.agg #[], .slice (some ⟨B, 0, none⟩) 2 4, .int .u16 v] w fun e w' =>
      e = .returned (.tuple #[]) ∧ w'.heap[B]? = some (.cells (Lib.byteCells (Lib.leBytes 2 v ++ [0, 0])).toArray t (0, 0)) ∧ Below B w w' := by
  have hB := lt_of_blk h
  have c : ∀ k, w.cell? ⟨B, 0 + k, none⟩ = (Lib.byteCells [0, 0, 0, 0])[k]? := fun k => by rw [Nat.zero_add, cell_of_row w B k _ t (0, 0) h, List.getElem?_toArray]
  have f : ∀ k, w.frozen? ⟨B, k, none⟩ = false := fun k => frozen_of_row w B k _ t h
  refine (Tryd.binary_LE_PutUint16 B 0 2 4 v hv _ _ w (by omega) (c 0) (c 1) (f _) (f _)).mono ?_
  rintro e w' ⟨rfl, rfl⟩
  refine ⟨rfl, ?_, below_setCellsB (Nat.le_refl B) _ _ _ _ ((Below.refl _ _).alloc (Nat.le_of_lt hB) _)⟩
  have h2 := row_setCells B t (Lib.byteCells (Lib.leBytes 2 v)) [] (Lib.byteCells [0, 0, 0, 0]) (w.alloc (.cells #[] 55)) (by rw [((Below.refl w.heap.size w).alloc (Nat.le_refl _) _).block B hB]; exact h) (by simp [Lib.byteCells, Lib.leBytes])
  rw [List.length_nil] at h2
  rw [h2]
  simp [Lib.byteCells, Lib.leBytes]
theorem put32_blk (B t v : Nat) (hv : v < 4294967296) (w : World) (h : w.heap[B]? = some (.cells (Lib.byteCells [0, 0, 0, 0]).toArray t (0, 0))) :
    Calls Tryd.prog 21 #[.agg #[], .slice (some ⟨B, 0, none⟩) 4 4, .int .u32 v] w fun e w' =>
      e = .returned (.tuple #[]) ∧ w'.heap[B]? = some (.cells (Lib.byteCells (Lib.leBytes 4 v)).toArray t (0, 0)) ∧ Below B w w' := by
  have hB := lt_of_blk h
  have c : ∀ k, w.cell? ⟨B, 0 + k, none⟩ = (Lib.byteCells [0, 0, 0, 0])[k]? := fun k => by rw [Nat.zero_add, cell_of_row w B k _ t (0, 0) h, List.getElem?_toArray]
  have f : ∀ k, w.frozen? ⟨B, k, none⟩ = false := fun k => frozen_of_row w B k _ t h
  refine (Tryd.binary_LE_PutUint32 B 0 4 4 v hv _ _ _ _ w (by omega) (c 0) (c 1) (c 2) (c 3) (f _) (f _) (f _) (f _)).mono ?_
  rintro e w' ⟨rfl, rfl⟩
  refine ⟨rfl, ?_, below_setCellsB (Nat.le_refl B) _ _ _ _ ((Below.refl _ _).alloc (Nat.le_of_lt hB) _)⟩
  have h2 := row_setCells B t (Lib.byteCells (Lib.leBytes 4 v)) [] (Lib.byteCells [0, 0, 0, 0]) (w.alloc (.cells #[] 55)) (by rw [((Below.refl w.heap.size w).alloc (Nat.le_refl _) _).block B hB]; exact h) (by simp [Lib.byteCells, Lib.leBytes])
  rw [List.length_nil] at h2
  rw [h2]
  simp [Lib.byteCells, Lib.leBytes]
theorem Own.keepAt {w w' : World} {base g n c : Nat} {l : List UInt8} (h : Own w base (.slice (some ⟨g, 0, none⟩) n c) l) (hk : w'.heap[g]? = w.heap[g]?) : Own w' base (.slice (some ⟨g, 0, none⟩) n c) l := by
  refine ⟨h.1, ?_⟩
  rcases h.2 with ⟨e, _⟩ | ⟨g', cap, cur, e, hb, hh, r⟩
  · cases e
  · have hg : g = g' := by injection e with e _ _; injection e with e; injection e
    subst hg
    exact .inr ⟨g, cap, cur, e, hb, hk.trans hh, r⟩
theorem heap_set_ne {w : World} {T g i : Nat} {v : Value} (h : g ≠ T) : (w.setCell ⟨T, i, none⟩ v).heap[g]? = w.heap[g]? := by
  simp [World.setCell, Array.getElem?_modify, Ne.symm h]
theorem heap_set_eq {w : World} {T i t : Nat} {R : Array Value} {v : Value} (h : w.heap[T]? = some (.cells R t (0, 0))) : (w.setCell ⟨T, i, none⟩ v).heap[T]? = some (.cells (R.setIfInBounds i v) t (0, 0)) := by
  simp [World.setCell, Array.getElem?_modify, h]
theorem Own.setP {w : World} {base P i : Nat} {v x : Value} {l : List UInt8} (h : Own w base v l) (hP : P < base) : Own (w.setCell ⟨P, i, none⟩ x) base v l := by
  refine ⟨h.1, ?_⟩
  rcases h.2 with h0 | ⟨g, cap, cur, e, hb, hh, r⟩
  · exact .inl h0
  · exact .inr ⟨g, cap, cur, e, hb, (heap_set_ne (by omega)).trans hh, r⟩
theorem below_drew'' {B : Nat} {w w' : World} (h : Below B w.drew w') : Below B w w' := ((Below.refl _ _).drew).trans h

abbrev fhR (z W : Int) (s k : Bool) (D : Int) : Array Value := #[.int .u64 z, .int .u32 W, .bool s, .bool k, .int .u32 D]
/-- the slice that is built up, the frame's header beside it, and the dictionary's number in its own block T -/
def Dst (R0 : Array Value) (P B : Nat) (w : World) (D T : Nat) (R : List UInt8) (l : List UInt8) (v1 : Value) (wx : World) : Prop :=
  ∃ A c, v1 = .slice A l.length c ∧ Own wx B v1 l ∧ wx.heap[P]? = some (.cells R0 61 (0, 0)) ∧ Below P w wx ∧ B ≤ wx.heap.size ∧
    (0 < D → wx.heap[T]? = some (.cells (Lib.byteCells R).toArray 59 (0, 0)) ∧ (∀ g, v1.ownBlock = some g → g ≠ T) ∧ B ≤ T)
theorem Dst.app {R0 : Array Value} {P B : Nat} {w : World} {D T : Nat} {R l l' : List UInt8} {v1 : Value} {wx wa w' : World} {A' : Option Addr} {n' c' : Nat} (h : Dst R0 P B w D T R l v1 wx) (hPB : P < B) (hwa : Below wx.heap.size wx wa) (hap : AppD wa w' B v1 A' n' c' l') :
    Dst R0 P B w D T R l' (.slice A' n' c') w' := by
  obtain ⟨A, c, rfl, hown, hrow, hbel, hsz, hT⟩ := h
  have hPs := lt_of_blk hrow
  have hn : l'.length = n' := hap.app.sl.len
  subst hn
  refine ⟨A', c', rfl, hap.app.own, (hap.app.bel.block P hPB).trans ((hwa.block P hPs).trans hrow), (hbel.trans (hwa.mono (by omega))).trans (hap.app.bel.mono (by omega)), hap.app.le, fun h0 => ?_⟩
  obtain ⟨h1, h2, h3⟩ := hT h0
  have hTs := lt_of_blk h1
  have hTa : wa.heap[T]? = some (.cells (Lib.byteCells R).toArray 59 (0, 0)) := (hwa.block T hTs).trans h1
  refine ⟨(hap.app.grown.block T (lt_of_blk hTa) (fun e => h2 T e.symm rfl)).trans hTa, fun g hg => ?_, h3⟩
  rcases hap.blk with e | e
  · rw [e] at hg; exact h2 g hg
  · rw [e] at hg
    injection hg with hg
    have := lt_of_blk hTa
    omega
theorem Dst.own {R0 : Array Value} {P B : Nat} {w : World} {D T : Nat} {R l : List UInt8} {v1 : Value} {wx : World} (h : Dst R0 P B w D T R l v1 wx) : ∃ A c, v1 = .slice A l.length c ∧ Own wx B (.slice A l.length c) l := by
  obtain ⟨A, c, rfl, ho, _⟩ := h
  exact ⟨A, c, rfl, ho⟩
theorem or_flags (x c : Nat) (hc : c < 4) (hx : x < 40) : bits .or .u8 (x : Int) ((64 * c : Nat) : Int) = (((UInt8.ofNat (x + 64 * c)).toNat : Nat) : Int) := by
  have h : ∀ (x : Fin 40) (c : Fin 4), bits .or .u8 ((x : Nat) : Int) ((64 * (c : Nat) : Nat) : Int) = (((UInt8.ofNat ((x : Nat) + 64 * (c : Nat))).toNat : Nat) : Int) := by decide +kernel
  exact h ⟨x, hx⟩ ⟨c, hc⟩
theorem bitLen_pow (e : Nat) (h1 : 10 ≤ e) (h2 : e ≤ 31) : ((Lib.bitLen (((2 ^ e : Nat) : Int) - 1).toNat : Nat) : Int) = (e : Int) := by
  have h : ∀ e : Fin 32, 10 ≤ e.val → ((Lib.bitLen (((2 ^ e.val : Nat) : Int) - 1).toNat : Nat) : Int) = (e.val : Int) := by decide +kernel
  exact h ⟨e, by omega⟩ h1
theorem below_new (w : World) (o : Obj) : Below w.heap.size w (w.alloc o) := (Below.refl _ _).alloc (Nat.le_refl _) _
end Go.Proofs.YtiobfiepapflaaaDoor
