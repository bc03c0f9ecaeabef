/-
  fmt.Errorf and errors.New: an error comes back. Conditions: those of each; fmt's stop answers as it does.
  Whole structs stored and loaded, and results that are struct variables: laws for a walk. Conditions: the row is known whole.
  What a call leaves as it is: all blocks but some. Plain lemmas; and fse.byteReader's methods. Conditions: those of each.
  huff0.Scratch.prepare. Conditions: those of the theorem.
  fse.Scratch.prepare. Conditions: those of the theorem.
-/
import Derived.Test.YthkklojjpgjiiaaFmtHuffT03
import Derived.Stop.CallBack
import Derived.Stop.IfaceNil
import GoSem.ClaimData
import Derived.Test.YthkklojjpgjiiaaFmtHuffT01
import Derived.Laws.Tables
import Derived.Laws.Rows
import Derived.Below
import Derived.Outline
namespace Go.Proofs.YthkklojjpgjiiaaFmt
open Go.RowKit Go.Extern.Stop Go.Stop Go.Extern

/-- an error of errors.New's make comes back, in a new block -/
def ErrPost (w : World) (e : Ending) (w' : World) : Prop :=
  ∃ b s, w.heap.size ≤ b ∧ b < w'.heap.size ∧ e = .returned (.iface 107 (.pointer (some ⟨b, 0, none⟩))) ∧ w'.cell? ⟨b, 0, none⟩ = some (.string s) ∧ Below w.heap.size w w'
theorem call_errorf (args : Array Value) (w : World) : (callFunc 42 args).run Tryf.prog w = ((FmtStop.errorf #[9, 137] #[60] args).run Tryf.prog w).andThen fun v w' => .ok (.value v) w' :=
  run_callFunc_extern Tryf.func42 (by kernel_rfl) (by kernel_rfl) (by kernel_rfl) (by kernel_rfl) args w
theorem fmt_guard (name : String) (w : World) : (FmtStop.guard name).run Tryf.prog w = .ok () w := by kernel_rfl
theorem fmt_ptr (w : World) : (FmtStop.ptrTo "errors.errorString").run Tryf.prog w = .ok 107 w := by kernel_rfl
theorem fmt_elem (w : World) : (elemOf 107).run Tryf.prog w = .ok 109 w := by kernel_rfl
theorem fmt_isErr (w : World) : (FmtDoors.textMethod 107 "Error").run Tryf.prog w = .ok true w := by kernel_rfl
theorem fmt_ptrW (w : World) : (FmtStop.ptrTo "fmt.wrapError").run Tryf.prog w = .ok 138 w := by kernel_rfl
theorem fmt_elemW (w : World) : (elemOf 138).run Tryf.prog w = .ok 194 w := by kernel_rfl
theorem fmt_isErrW (w : World) : (FmtDoors.textMethod 138 "Error").run Tryf.prog w = .ok true w := by kernel_rfl
def plainE : List UInt8 := 14 :: FmtStop.pack "*errors.errorString".toUTF8.data.toList
theorem fmt_opE (name : String) (a : Addr) (s : ByteArray) (w : World) (hc : w.cell? a = some (.string s)) :
    (FmtStop.operand name true 119 false (.iface 107 (.pointer (some a)))).run Tryf.prog w = .ok (plainE, s.data.toList) w := by
  have h1 : (typeStr 107).run Tryf.prog w = .ok "*errors.errorString" w := by kernel_rfl
  have d2 : Tryf.t107.desc = .pointer 109 := rfl
  have d3 : Tryf.t109.desc = .named "errors.errorString" 108 := rfl
  simp [FmtStop.operand, h1, d2, d3, run_load, hc, plainE]
theorem errPost_new (w : World) (s : ByteArray) : ErrPost w (.returned (.iface 107 (.pointer (some ⟨w.heap.size, 0, none⟩)))) ((w.alloc (.cells #[.string s] 109)).drew) :=
  ⟨w.heap.size, s, Nat.le_refl _, by simp, rfl, cell_of_row _ _ 0 _ _ (0, 0) (heap_alloc_new _ _), below_drewN (below_new w _) 1⟩
theorem fmt_op_uint8 (name : String) (x : Int) (w : World) : ∃ r1 r2, (FmtStop.operand name true 100 false (.iface 5 (.int .u8 x))).run Tryf.prog w = .ok (r1, r2) w := ⟨match (FmtStop.operand name true 100 false (.iface 5 (.int .u8 x))).run Tryf.prog w with | .ok r _ => r.1 | _ => [], match (FmtStop.operand name true 100 false (.iface 5 (.int .u8 x))).run Tryf.prog w with | .ok r _ => r.2 | _ => [], by kernel_rfl⟩
theorem fmt_op_int (name : String) (x : Int) (w : World) : ∃ r1 r2, (FmtStop.operand name true 100 false (.iface 3 (.int .i64 x))).run Tryf.prog w = .ok (r1, r2) w := ⟨match (FmtStop.operand name true 100 false (.iface 3 (.int .i64 x))).run Tryf.prog w with | .ok r _ => r.1 | _ => [], match (FmtStop.operand name true 100 false (.iface 3 (.int .i64 x))).run Tryf.prog w with | .ok r _ => r.2 | _ => [], by kernel_rfl⟩
theorem fmt_op_uint16 (name : String) (x : Int) (w : World) : ∃ r1 r2, (FmtStop.operand name true 100 false (.iface 37 (.int .u16 x))).run Tryf.prog w = .ok (r1, r2) w := ⟨match (FmtStop.operand name true 100 false (.iface 37 (.int .u16 x))).run Tryf.prog w with | .ok r _ => r.1 | _ => [], match (FmtStop.operand name true 100 false (.iface 37 (.int .u16 x))).run Tryf.prog w with | .ok r _ => r.2 | _ => [], by kernel_rfl⟩
theorem fmt_op_uint (name : String) (x : Int) (w : World) : ∃ r1 r2, (FmtStop.operand name true 100 false (.iface 75 (.int .u64 x))).run Tryf.prog w = .ok (r1, r2) w := ⟨match (FmtStop.operand name true 100 false (.iface 75 (.int .u64 x))).run Tryf.prog w with | .ok r _ => r.1 | _ => [], match (FmtStop.operand name true 100 false (.iface 75 (.int .u64 x))).run Tryf.prog w with | .ok r _ => r.2 | _ => [], by kernel_rfl⟩
theorem fmt_pA (w : World) : (FmtDoors.printed ⟨#[105, 110, 112, 117, 116, 32, 116, 111, 111, 32, 115, 109, 97, 108, 108, 32, 102, 111, 114, 32, 116, 97, 98, 108, 101, 44, 32, 119, 97, 110, 116, 32, 37, 100, 32, 98, 121, 116, 101, 115, 44, 32, 104, 97, 118, 101, 32, 37, 100]⟩ 2).run Tryf.prog w = .ok [(0, 100, false), (1, 100, false)] w := by kernel_rfl

set_option maxHeartbeats 800000 in
theorem errorf_A (F : Interp) (g : Nat) (x0 x1 : Int) (w : World) (hF : F.answers w.tape) (h0 : w.cell? ⟨g, 0, none⟩ = some (.iface 5 (.int .u8 x0))) (h1 : w.cell? ⟨g, 1, none⟩ = some (.iface 3 (.int .i64 x1))) :
    Calls Tryf.prog 23 #[.string ⟨#[105, 110, 112, 117, 116, 32, 116, 111, 111, 32, 115, 109, 97, 108, 108, 32, 102, 111, 114, 32, 116, 97, 98, 108, 101, 44, 32, 119, 97, 110, 116, 32, 37, 100, 32, 98, 121, 116, 101, 115, 44, 32, 104, 97, 118, 101, 32, 37, 100]⟩, .slice (some ⟨g, 0, none⟩) 2 2] w (ErrPost w) := by
  have hF' : ∀ i name reading k range, w.tape i (.extern (word name reading k) range) = F name reading k := hF
  have z1 := call_errorf
  have z2 := fmt_guard
  have z3 := fmt_ptr
  have z4 := fmt_elem
  have z6 := fmt_pA
  obtain ⟨r0, s0, y0⟩ := fmt_op_uint8 "fmt.errorf" x0 w
  obtain ⟨r1, s1, y1⟩ := fmt_op_int "fmt.errorf" x1 w
  go_enter Tryf.func23, Tryf.ntmps23
  go_wp2
  go_ret
  exact errPost_new w _
theorem fmt_pC (w : World) : (FmtDoors.printed ⟨#[115, 121, 109, 98, 111, 108, 76, 101, 110, 32, 40, 37, 100, 41, 32, 116, 111, 111, 32, 115, 109, 97, 108, 108]⟩ 1).run Tryf.prog w = .ok [(0, 100, false)] w := by kernel_rfl

set_option maxHeartbeats 800000 in
theorem errorf_C (F : Interp) (g : Nat) (x0 : Int) (w : World) (hF : F.answers w.tape) (h0 : w.cell? ⟨g, 0, none⟩ = some (.iface 37 (.int .u16 x0))) :
    Calls Tryf.prog 23 #[.string ⟨#[115, 121, 109, 98, 111, 108, 76, 101, 110, 32, 40, 37, 100, 41, 32, 116, 111, 111, 32, 115, 109, 97, 108, 108]⟩, .slice (some ⟨g, 0, none⟩) 1 1] w (ErrPost w) := by
  have hF' : ∀ i name reading k range, w.tape i (.extern (word name reading k) range) = F name reading k := hF
  have z1 := call_errorf
  have z2 := fmt_guard
  have z3 := fmt_ptr
  have z4 := fmt_elem
  have z6 := fmt_pC
  obtain ⟨r0, s0, y0⟩ := fmt_op_uint16 "fmt.errorf" x0 w
  go_enter Tryf.func23, Tryf.ntmps23
  go_wp2
  go_ret
  exact errPost_new w _
theorem fmt_pD (w : World) : (FmtDoors.printed ⟨#[115, 121, 109, 98, 111, 108, 76, 101, 110, 32, 40, 37, 100, 41, 32, 116, 111, 111, 32, 98, 105, 103]⟩ 1).run Tryf.prog w = .ok [(0, 100, false)] w := by kernel_rfl

set_option maxHeartbeats 800000 in
theorem errorf_D (F : Interp) (g : Nat) (x0 : Int) (w : World) (hF : F.answers w.tape) (h0 : w.cell? ⟨g, 0, none⟩ = some (.iface 37 (.int .u16 x0))) :
    Calls Tryf.prog 23 #[.string ⟨#[115, 121, 109, 98, 111, 108, 76, 101, 110, 32, 40, 37, 100, 41, 32, 116, 111, 111, 32, 98, 105, 103]⟩, .slice (some ⟨g, 0, none⟩) 1 1] w (ErrPost w) := by
  have hF' : ∀ i name reading k range, w.tape i (.extern (word name reading k) range) = F name reading k := hF
  have z1 := call_errorf
  have z2 := fmt_guard
  have z3 := fmt_ptr
  have z4 := fmt_elem
  have z6 := fmt_pD
  obtain ⟨r0, s0, y0⟩ := fmt_op_uint16 "fmt.errorf" x0 w
  go_enter Tryf.func23, Tryf.ntmps23
  go_wp2
  go_ret
  exact errPost_new w _
theorem fmt_pX (w : World) : (FmtDoors.printed ⟨#[99, 111, 114, 114, 117, 112, 116, 105, 111, 110, 32, 100, 101, 116, 101, 99, 116, 101, 100, 32, 40, 98, 105, 116, 67, 111, 117, 110, 116, 32, 37, 100, 32, 62, 32, 51, 50, 41]⟩ 1).run Tryf.prog w = .ok [(0, 100, false)] w := by kernel_rfl

set_option maxHeartbeats 800000 in
theorem errorf_X (F : Interp) (g : Nat) (x0 : Int) (w : World) (hF : F.answers w.tape) (h0 : w.cell? ⟨g, 0, none⟩ = some (.iface 75 (.int .u64 x0))) :
    Calls Tryf.prog 23 #[.string ⟨#[99, 111, 114, 114, 117, 112, 116, 105, 111, 110, 32, 100, 101, 116, 101, 99, 116, 101, 100, 32, 40, 98, 105, 116, 67, 111, 117, 110, 116, 32, 37, 100, 32, 62, 32, 51, 50, 41]⟩, .slice (some ⟨g, 0, none⟩) 1 1] w (ErrPost w) := by
  have hF' : ∀ i name reading k range, w.tape i (.extern (word name reading k) range) = F name reading k := hF
  have z1 := call_errorf
  have z2 := fmt_guard
  have z3 := fmt_ptr
  have z4 := fmt_elem
  have z6 := fmt_pX
  obtain ⟨r0, s0, y0⟩ := fmt_op_uint "fmt.errorf" x0 w
  go_enter Tryf.func23, Tryf.ntmps23
  go_wp2
  go_ret
  exact errPost_new w _
theorem fmt_pJ (w : World) : (FmtDoors.printed ⟨#[110, 101, 119, 83, 116, 97, 116, 101, 32, 40, 37, 100, 41, 32, 61, 61, 32, 111, 108, 100, 83, 116, 97, 116, 101, 32, 40, 37, 100, 41, 32, 97, 110, 100, 32, 110, 111, 32, 98, 105, 116, 115]⟩ 2).run Tryf.prog w = .ok [(0, 100, false), (1, 100, false)] w := by kernel_rfl

set_option maxHeartbeats 800000 in
theorem errorf_J (F : Interp) (g : Nat) (x0 x1 : Int) (w : World) (hF : F.answers w.tape) (h0 : w.cell? ⟨g, 0, none⟩ = some (.iface 37 (.int .u16 x0))) (h1 : w.cell? ⟨g, 1, none⟩ = some (.iface 3 (.int .i64 x1))) :
    Calls Tryf.prog 23 #[.string ⟨#[110, 101, 119, 83, 116, 97, 116, 101, 32, 40, 37, 100, 41, 32, 61, 61, 32, 111, 108, 100, 83, 116, 97, 116, 101, 32, 40, 37, 100, 41, 32, 97, 110, 100, 32, 110, 111, 32, 98, 105, 116, 115]⟩, .slice (some ⟨g, 0, none⟩) 2 2] w (ErrPost w) := by
  have hF' : ∀ i name reading k range, w.tape i (.extern (word name reading k) range) = F name reading k := hF
  have z1 := call_errorf
  have z2 := fmt_guard
  have z3 := fmt_ptr
  have z4 := fmt_elem
  have z6 := fmt_pJ
  obtain ⟨r0, s0, y0⟩ := fmt_op_uint16 "fmt.errorf" x0 w
  obtain ⟨r1, s1, y1⟩ := fmt_op_int "fmt.errorf" x1 w
  go_enter Tryf.func23, Tryf.ntmps23
  go_wp2
  go_ret
  exact errPost_new w _
theorem fmt_pK (w : World) : (FmtDoors.printed ⟨#[111, 117, 116, 112, 117, 116, 32, 115, 105, 122, 101, 32, 40, 37, 100, 41, 32, 62, 32, 68, 101, 99, 111, 109, 112, 114, 101, 115, 115, 76, 105, 109, 105, 116, 32, 40, 37, 100, 41]⟩ 2).run Tryf.prog w = .ok [(0, 100, false), (1, 100, false)] w := by kernel_rfl

set_option maxHeartbeats 800000 in
theorem errorf_K (F : Interp) (g : Nat) (x0 x1 : Int) (w : World) (hF : F.answers w.tape) (h0 : w.cell? ⟨g, 0, none⟩ = some (.iface 3 (.int .i64 x0))) (h1 : w.cell? ⟨g, 1, none⟩ = some (.iface 3 (.int .i64 x1))) :
    Calls Tryf.prog 23 #[.string ⟨#[111, 117, 116, 112, 117, 116, 32, 115, 105, 122, 101, 32, 40, 37, 100, 41, 32, 62, 32, 68, 101, 99, 111, 109, 112, 114, 101, 115, 115, 76, 105, 109, 105, 116, 32, 40, 37, 100, 41]⟩, .slice (some ⟨g, 0, none⟩) 2 2] w (ErrPost w) := by
  have hF' : ∀ i name reading k range, w.tape i (.extern (word name reading k) range) = F name reading k := hF
  have z1 := call_errorf
  have z2 := fmt_guard
  have z3 := fmt_ptr
  have z4 := fmt_elem
  have z6 := fmt_pK
  obtain ⟨r0, s0, y0⟩ := fmt_op_int "fmt.errorf" x0 w
  obtain ⟨r1, s1, y1⟩ := fmt_op_int "fmt.errorf" x1 w
  go_enter Tryf.func23, Tryf.ntmps23
  go_wp2
  go_ret
  exact errPost_new w _

theorem fmt_pW (w : World) : (FmtDoors.printed ⟨#[102, 115, 101, 32, 100, 101, 99, 111, 109, 112, 114, 101, 115, 115, 32, 114, 101, 116, 117, 114, 110, 101, 100, 58, 32, 37, 119]⟩ 1).run Tryf.prog w = .ok [(0, 119, false)] w := by kernel_rfl
set_option maxHeartbeats 800000 in
theorem errorf_W (F : Interp) (g : Nat) (a : Addr) (s : ByteArray) (w : World) (hF : F.answers w.tape) (h0 : w.cell? ⟨g, 0, none⟩ = some (.iface 107 (.pointer (some a)))) (hs : w.cell? a = some (.string s)) :
    Calls Tryf.prog 23 #[.string ⟨#[102, 115, 101, 32, 100, 101, 99, 111, 109, 112, 114, 101, 115, 115, 32, 114, 101, 116, 117, 114, 110, 101, 100, 58, 32, 37, 119]⟩, .slice (some ⟨g, 0, none⟩) 1 1] w fun e w' => (∃ v, e = .returned (.iface 138 v)) ∧ Below w.heap.size w w' := by
  have hF' : ∀ i name reading k range, w.tape i (.extern (word name reading k) range) = F name reading k := hF
  have z1 := call_errorf
  have z2 := fmt_guard
  have z3 := fmt_ptrW
  have z4 := fmt_elemW
  have z5 := fmt_isErr
  have z6 := fmt_pW
  have y0 := fmt_opE "fmt.errorf" a s w hs
  go_enter Tryf.func23, Tryf.ntmps23
  go_wp2
  go_ret
  exact ⟨⟨_, rfl⟩, below_drewN (below_new w _) 1⟩
theorem errorsNew_any (s : ByteArray) (w : World) : Calls Tryf.prog 17 #[.string s] w (ErrPost w) := by
  go_enter Tryf.func17, Tryf.ntmps17
  go_wp2
  go_ret
  exact ⟨w.heap.size, s, Nat.le_refl _, by simp, rfl, cell_of_row _ _ 0 _ _ (0, 0) (heap_alloc_new _ _), below_new w _⟩
end Go.Proofs.YthkklojjpgjiiaaFmt
namespace Go.Proofs.YthkklojjpgjiiaaFmt
open Go.RowKit

theorem Sl.next {w : World} {B g o n c : Nat} {l : List UInt8} (h : Sl w B (some ⟨g, o, none⟩) n c l) (i : Nat) (hi : i ≤ n) :
    Sl w B (if c = i then some ⟨g, o, none⟩ else some ⟨g, o + i, none⟩) (n - i) (c - i) (l.drop i) := by
  have hc := h.cap
  have hl := h.len
  have := h.cut (if c = i then some ⟨g, o, none⟩ else some ⟨g, o + i, none⟩) (i := i) (j := n) (c' := c - i) hi (Nat.le_refl _) (by omega) (by omega)
    (fun hlt => by rw [if_neg (by omega)]; simp [add_some])
  rwa [List.take_of_length_le (by omega)] at this
theorem Sl.nextA {w : World} {B n c : Nat} {A : Option Addr} {l : List UInt8} (h : Sl w B A n c l) (i : Nat) (hi : i ≤ n) :
    Sl w B (if c = i then A else Option.map (fun x => x.add i) A) (n - i) (c - i) (l.drop i) := by
  have hc := h.cap
  have hl := h.len
  have := h.cut (if c = i then A else Option.map (fun x => x.add i) A) (i := i) (j := n) (c' := c - i) hi (Nat.le_refl _) (by omega) (by omega)
    (fun hlt => by rw [if_neg (by omega)])
  rwa [List.take_of_length_le (by omega)] at this
theorem Sl.first {w : World} {B n c : Nat} {A : Option Addr} {l : List UInt8} (h : Sl w B A n c l) (i : Nat) (hi : i ≤ n) : Sl w B A i c (l.take i) := by
  have hc := h.cap
  have := h.cut A (i := 0) (j := i) (c' := c) (by omega) hi (by omega) (by omega) (fun h0 => by
    obtain ⟨g1, o1, rfl, _⟩ := h.at_ (by omega)
    simp [add_some])
  simpa using this
theorem alloc2_facts {wa : World} {C : Nat} (hC : wa.heap.size = C) (x y : Obj) :
    ((wa.alloc x).alloc y).heap[C]? = some x ∧ ((wa.alloc x).alloc y).heap[C + 1]? = some y ∧ (∀ k, k < C → ((wa.alloc x).alloc y).heap[k]? = wa.heap[k]?) ∧ Below C wa ((wa.alloc x).alloc y) := by
  subst hC
  have h1 : (wa.alloc x).heap.size = wa.heap.size + 1 := Array.size_push ..
  refine ⟨heap_alloc2_old .., heap_alloc2_new .., fun k hk => ?_, ?_⟩
  · exact (Below.heap_alloc (wa.alloc x) y k (by omega)).trans (Below.heap_alloc wa x k hk)
  · exact ((Below.refl _ wa).alloc (Nat.le_refl _) _).alloc (by omega) _

section
variable {P : Program}
theorem results_cell_tmp_row {fn : Func} {p u : Tmp} {ty : TypeId} (h : fn.results = #[.cell p ty, .tmp u]) (tmps : Array Value) (w : World) (g : Nat) (t : TypeId) (cs : Array Value) (fr : Nat × Nat) (d : TypeDesc)
    (hp : tmps.getD p undef = .pointer (some ⟨g, 0, none⟩)) (hg : w.heap[g]? = some (.cells cs t fr))
    (hu : P.underlying ty = some d) (hd : (match d with | .struct _ | .array _ _ => true | _ => false) = true) (hi : (P.info? ty).map (·.size) = some cs.size) :
    (results fn tmps).run P w = .ok (.tuple #[.agg cs, tmps.getD u undef]) w := by
  have hp' : tmps[p]?.getD undef = .pointer (some ⟨g, 0, none⟩) := by simpa using hp
  simp [results, h, hp', asAddr, run_loadVar_row w g t ty cs fr d hg hu hd hi]
theorem results_cell_tmp2_row {fn : Func} {p u v : Tmp} {ty : TypeId} (h : fn.results = #[.cell p ty, .tmp u, .tmp v]) (tmps : Array Value) (w : World) (g : Nat) (t : TypeId) (cs : Array Value) (fr : Nat × Nat) (d : TypeDesc)
    (hp : tmps.getD p undef = .pointer (some ⟨g, 0, none⟩)) (hg : w.heap[g]? = some (.cells cs t fr))
    (hu : P.underlying ty = some d) (hd : (match d with | .struct _ | .array _ _ => true | _ => false) = true) (hi : (P.info? ty).map (·.size) = some cs.size) :
    (results fn tmps).run P w = .ok (.tuple #[.agg cs, tmps.getD u undef, tmps.getD v undef]) w := by
  have hp' : tmps[p]?.getD undef = .pointer (some ⟨g, 0, none⟩) := by simpa using hp
  simp [results, h, hp', asAddr, run_loadVar_row w g t ty cs fr d hg hu hd hi]

/-- a whole struct is stored: what is known behind it -/
theorem wpList_store_all {ops : Array Oper} {rest : List Oper} {o : Oper} {a : Act} {w : World} {Q : Exit → Act → World → Prop} (hgd : o.guard = none) (ty : TypeId) (x y : Operand) (ho : o.op = .store ty x y)
    (g : Nat) (cells : Array Value) (hx : a.eval x = .pointer (some ⟨g, 0, none⟩)) (hy : a.eval y = .agg cells)
    (t : TypeId) (old : Array Value) (hg : Hid (w.heap[g]? = some (.cells old t (0, 0)))) (hi : (P.info? ty).map (·.size) = some cells.size)
    (hold : old.size = cells.size) (h1 : cells.all (·.oneCell') = true) (B : Nat) (hB : B ≤ g)
    (h : ∀ w', Hid (w'.heap[g]? = some (.cells cells t (0, 0))) → Below B w w' → Hid (∀ k, k ≠ g → w'.heap[k]? = w.heap[k]?) → wpList P ops Q rest (a.put o.dst undef) w') : wpList P ops Q (o :: rest) a w := by
  refine wpList_store_row hgd ty x y ho g cells hx hy t old hg.out hi hold h1 ?_
  refine h _ (Lib.hid ?_) ?_ (Lib.hid fun k hk => ?_)
  · simpa using setRow_heap w g _ _ t (0, 0) hg.out
  · exact ⟨rfl, rfl, rfl, by simp [World.setRow], fun k hk => setRow_other w g k cells (by omega)⟩
  · exact setRow_other w g k cells hk
end
end Go.Proofs.YthkklojjpgjiiaaFmt
namespace Go.Proofs.YthkklojjpgjiiaaFmt
open Go.RowKit

/-- all blocks but those of S are as they were -/
structure Only (S : Nat → Prop) (w w' : World) : Prop where
  os : w'.os = w.os
  tape : w'.tape = w.tape
  output : w'.output = w.output
  size : w.heap.size ≤ w'.heap.size
  block : ∀ k, ¬ S k → k < w.heap.size → w'.heap[k]? = w.heap[k]?
  rows : ∀ k, k < w.heap.size → ∀ T N, (∃ f, RowF w k T N f) → ∃ f, RowF w' k T N f
theorem RowF.setAny {w : World} {g : Nat} {T : TypeId} {N : Nat} {f : Nat → Value} (h : RowF w g T N f) (p : Addr) (v : Value) : ∃ f', RowF (w.setCell p v) g T N f' := by
  by_cases hp : p.block = g
  · obtain ⟨arr, h1, h2, h3⟩ := h
    by_cases hs : p.spot.isSome = true
    · exact ⟨f, arr, by simp [World.setCell, Array.getElem?_modify, hp, h1, hs], h2, h3⟩
    · refine ⟨fun k => (arr.setIfInBounds p.off v).getD k undef, arr.setIfInBounds p.off v, by simp [World.setCell, Array.getElem?_modify, hp, h1, hs], by simp [h2], fun j hj => ?_⟩
      dsimp only
      rw [Array.getD_eq_getD_getElem?, Array.getElem?_eq_getElem (by simp; omega)]
      rfl
  · exact ⟨f, h.other v hp⟩
section
variable {S S' : Nat → Prop} {w w1 w2 : World}
theorem Only.refl (S : Nat → Prop) (w : World) : Only S w w := ⟨rfl, rfl, rfl, Nat.le_refl _, fun _ _ _ => rfl, fun _ _ _ _ h => h⟩
theorem Only.trans (h : Only S w w1) (h2 : Only S w1 w2) : Only S w w2 :=
  ⟨h2.os.trans h.os, h2.tape.trans h.tape, h2.output.trans h.output, Nat.le_trans h.size h2.size, fun k h3 h4 => (h2.block k h3 (Nat.lt_of_lt_of_le h4 h.size)).trans (h.block k h3 h4), fun k hk T N hr => h2.rows k (Nat.lt_of_lt_of_le hk h.size) T N (h.rows k hk T N hr)⟩
theorem Only.mono (h : Only S w w1) (hs : ∀ k, S k → S' k) : Only S' w w1 := ⟨h.os, h.tape, h.output, h.size, fun k h3 h4 => h.block k (fun h5 => h3 (hs k h5)) h4, h.rows⟩
theorem Only.alloc (h : Only S w w1) (o : Obj) : Only S w (w1.alloc o) :=
  h.trans ⟨rfl, rfl, rfl, by simp, fun k _ hk => Below.heap_alloc w1 o k hk, fun _ _ _ _ ⟨f, hf⟩ => ⟨f, hf.alloc o⟩⟩
theorem Only.set_ (h : Only S w w1) {p : Addr} (hp : S p.block) (v : Value) : Only S w (w1.setCell p v) :=
  h.trans ⟨rfl, rfl, rfl, by simp, fun k hk _ => setCell_heap v (fun e => hk (by rw [e]; exact hp)), fun _ _ _ _ ⟨f, hf⟩ => hf.setAny p v⟩
theorem Only.drewN (h : Only S w w1) (q : Nat) : Only S w (w1.drewN q) := ⟨h.os, h.tape, h.output, h.size, h.block, h.rows⟩
theorem Only.of_below (h : Below w.heap.size w w1) (_hB : ∀ k, k < w.heap.size → ¬ S k → k < w.heap.size) : Only S w w1 := ⟨h.os, h.tape, h.output, h.size, fun k _ h2 => h.block k h2, fun k hk _ _ ⟨f, hf⟩ => ⟨f, hf.same (h.block k hk)⟩⟩
theorem Only.below (h : Only S w w1) (B : Nat) (hB : ∀ k, k < B → ¬ S k) (hs : B ≤ w.heap.size) : Below B w w1 := ⟨h.os, h.tape, h.output, h.size, fun k hk => h.block k (hB k hk) (by omega)⟩
theorem Only.row (h : Only S w w1) {g : Nat} {T : TypeId} {N : Nat} {f : Nat → Value} (hr : RowF w g T N f) (hg : ¬ S g) : RowF w1 g T N f := hr.same (h.block g hg hr.lt)
end
theorem updV_same (f : Nat → Value) (p : Nat) (v : Value) : updV f p v p = v := by unfold updV; rw [if_pos rfl]
theorem updV_ne (f : Nat → Value) (p k : Nat) (v : Value) (h : k ≠ p) : updV f p v k = f k := by unfold updV; rw [if_neg h]

set_option maxHeartbeats 800000 in
theorem remain_any (A : Option Addr) (n c : Nat) (off : Int) (w : World) (h0 : 0 ≤ off) (h1 : off ≤ (n : Int)) (hn : n ≤ 1000000) :
    Calls Tryf.prog 57 #[.agg #[.slice A n c, .int .i64 off]] w fun e w' => e = .returned (.int .i64 ((n : Int) - off)) ∧ Below w.heap.size w w' := by
  have hw : IntKind.i64.wrap ((n : Int) - off) = (n : Int) - off := by rw [IntKind.wrap_i64]; omega
  go_enter Tryf.func57, Tryf.ntmps57
  go_wp2_with fail
  go_ret
  exact ⟨rfl, below_new w _⟩

theorem or32 (a b : Nat) (ha : a < 4294967296) (hb : b < 4294967296) : bits .or .u32 (a : Int) (b : Int) = ((a ||| b : Nat) : Int) := by
  have hx : a ||| b < 2 ^ 32 := Nat.or_lt_two_pow (by omega) (by omega)
  have h1 : (BitVec.ofInt 32 (a : Int)).toNat = a := by
    rw [BitVec.ofInt_natCast, BitVec.toNat_ofNat]; exact Nat.mod_eq_of_lt (by omega)
  have h2 : (BitVec.ofInt 32 (b : Int)).toNat = b := by
    rw [BitVec.ofInt_natCast, BitVec.toNat_ofNat]; exact Nat.mod_eq_of_lt (by omega)
  show IntKind.u32.wrap ((BitVec.ofInt 32 (a : Int) ||| BitVec.ofInt 32 (b : Int)).toNat : Int) = _
  rw [BitVec.toNat_or, h1, h2]
  have : IntKind.u32.wrap ((a ||| b : Nat) : Int) = ((a ||| b : Nat) : Int) := by simp [IntKind.wrap, IntKind.bits, IntKind.signed]; omega
  exact this
theorem or_shift (a b k : Nat) (ha : a < 2 ^ k) : a ||| (b * 2 ^ k) = a + b * 2 ^ k := by
  have := Nat.two_pow_add_eq_or_of_lt ha b
  rw [Nat.or_comm, Nat.mul_comm b, ← this, Nat.add_comm]

set_option maxRecDepth 100000 in
set_option maxHeartbeats 1600000 in
theorem uint32_any {w : World} {B : Nat} {A : Option Addr} {n c : Nat} {l : List UInt8} (hs : Sl w B A n c l) (hB : B ≤ w.heap.size) (i : Nat) (hi : i + 4 ≤ n) (hn : n ≤ 1000000) (ii : Int) (hii : ii = i) :
    Calls Tryf.prog 58 #[.agg #[.slice A n c, .int .i64 ii]] w fun e w' => e = .returned (.int .u32 (numF l (8 * i) 32 : Nat)) ∧ Below w.heap.size w w' := by
  subst hii
  have hnl := hs.len
  obtain ⟨g, o, rfl, hg, hc⟩ := hs.at_ (by omega)
  have hcc := hs.cap
  have hcm := hs.most
  have hw := numF_word l i
  obtain ⟨b0, hb0⟩ : ∃ b, (l.getD i 0).toNat = b := ⟨_, rfl⟩
  obtain ⟨b1, hb1⟩ : ∃ b, (l.getD (i + 1) 0).toNat = b := ⟨_, rfl⟩
  obtain ⟨b2, hb2⟩ : ∃ b, (l.getD (i + 2) 0).toNat = b := ⟨_, rfl⟩
  obtain ⟨b3, hb3⟩ : ∃ b, (l.getD (i + 3) 0).toNat = b := ⟨_, rfl⟩
  have hcell : ∀ j, i + j < n → w.cell? ⟨g, o + (i + j), none⟩ = some (.int .u8 ((l.getD (i + j) 0).toNat : Nat)) := fun j hj => by
    rw [hc (i + j) (by omega), List.getD_eq_getElem?_getD, List.getElem?_eq_getElem (by omega), Option.getD_some]
  obtain ⟨w1, hw1⟩ : ∃ w1, w.alloc (.cells #[.slice (some ⟨g, o, none⟩) n c, .int .i64 (i : Nat)] 87) = w1 := ⟨_, rfl⟩
  have hbw : Below w.heap.size w w1 := by rw [← hw1]; exact below_new _ _
  have r1 : w1.heap[w.heap.size]? = some (.cells #[.slice (some ⟨g, o, none⟩) n c, .int .i64 (i : Nat)] 87 (0, 0)) := by rw [← hw1]; exact heap_alloc_new _ _
  have q0 : w1.cell? ⟨w.heap.size, 0, none⟩ = some (.slice (some ⟨g, o, none⟩) n c) := cell_of_row w1 _ 0 _ _ (0, 0) r1
  have q1 : w1.cell? ⟨w.heap.size, 1, none⟩ = some (.int .i64 (i : Nat)) := cell_of_row w1 _ 1 _ _ (0, 0) r1
  have k0 : w1.cell? ⟨g, o + i, none⟩ = some (.int .u8 (b0 : Nat)) := by rw [hbw.cell (p := ⟨g, o + i, none⟩) (by show g < w.heap.size; omega), ← hb0]; exact hcell 0 (by omega)
  have k1 : w1.cell? ⟨g, o + i + 1, none⟩ = some (.int .u8 (b1 : Nat)) := by rw [hbw.cell (p := ⟨g, o + i + 1, none⟩) (by show g < w.heap.size; omega), ← hb1, Nat.add_assoc]; exact hcell 1 (by omega)
  have k2 : w1.cell? ⟨g, o + i + 2, none⟩ = some (.int .u8 (b2 : Nat)) := by rw [hbw.cell (p := ⟨g, o + i + 2, none⟩) (by show g < w.heap.size; omega), ← hb2, Nat.add_assoc]; exact hcell 2 (by omega)
  have k3 : w1.cell? ⟨g, o + i + 3, none⟩ = some (.int .u8 (b3 : Nat)) := by rw [hbw.cell (p := ⟨g, o + i + 3, none⟩) (by show g < w.heap.size; omega), ← hb3, Nat.add_assoc]; exact hcell 3 (by omega)
  rw [hb0, hb1, hb2, hb3] at hw
  have l0 : b0 < 256 := by rw [← hb0]; exact UInt8.toNat_lt _
  have l1 : b1 < 256 := by rw [← hb1]; exact UInt8.toNat_lt _
  have l2 : b2 < 256 := by rw [← hb2]; exact UInt8.toNat_lt _
  have l3 : b3 < 256 := by rw [← hb3]; exact UInt8.toNat_lt _
  have hne : ¬ c = i := by omega
  have e1 : bits .or .u32 (b0 : Int) ((b1 : Int) * 256) = ((b0 + b1 * 256 : Nat) : Int) := by
    rw [show (b1 : Int) * 256 = ((b1 * 256 : Nat) : Int) by simp, or32 _ _ (by omega) (by omega), show b1 * 256 = b1 * 2 ^ 8 by rfl, or_shift b0 b1 8 (by omega)]
  have e2 : bits .or .u32 ((b0 + b1 * 256 : Nat) : Int) ((b2 : Int) * 65536) = ((b0 + b1 * 256 + b2 * 65536 : Nat) : Int) := by
    rw [show (b2 : Int) * 65536 = ((b2 * 65536 : Nat) : Int) by simp, or32 _ _ (by omega) (by omega), show b2 * 65536 = b2 * 2 ^ 16 by rfl, or_shift _ b2 16 (by omega)]
  have e3 : bits .or .u32 ((b0 + b1 * 256 + b2 * 65536 : Nat) : Int) ((b3 : Int) * 16777216) = ((b0 + b1 * 256 + b2 * 65536 + b3 * 16777216 : Nat) : Int) := by
    rw [show (b3 : Int) * 16777216 = ((b3 * 16777216 : Nat) : Int) by simp, or32 _ _ (by omega) (by omega), show b3 * 16777216 = b3 * 2 ^ 24 by rfl, or_shift _ b3 24 (by omega)]
  have HW := Lib.hid hw
  have HBW := Lib.hid hbw
  have HS := Lib.hid hs
  have E1 := Lib.hid e1
  have E2 := Lib.hid e2
  have E3 := Lib.hid e3
  clear hs hc hcell hw hbw r1 hb0 hb1 hb2 hb3 hnl e1 e2 e3
  go_enter Tryf.func58, Tryf.ntmps58
  go_wp2_with fail
  go_ret
  refine ⟨?_, HBW.out⟩
  show Ending.returned (.int .u32 (bits .or .u32 (bits .or .u32 (bits .or .u32 (b0 : Int) ((b1 : Int) * 256)) ((b2 : Int) * 65536)) ((b3 : Int) * 16777216))) = _
  rw [E1.out, E2.out, E3.out, HW.out]
  exact congrArg (fun z : Nat => Ending.returned (Value.int .u32 (z : Int))) (by omega)

set_option maxHeartbeats 800000 in
theorem advance_any (D o : Nat) (off m : Int) (w : World) (h0 : 0 ≤ off) (h1 : off ≤ 1000000) (hm0 : 0 ≤ m) (hm1 : m ≤ 1000000) (hc : w.cell? ⟨D, o + 1, none⟩ = some (.int .i64 off)) (hf : w.frozen? ⟨D, o + 1, none⟩ = false) :
    Calls Tryf.prog 59 #[.pointer (some ⟨D, o, none⟩), .int .u64 m] w fun e w' => e = .returned (.tuple #[]) ∧ w' = w.setCell ⟨D, o + 1, none⟩ (.int .i64 (off + m)) := by
  go_enter Tryf.func59, Tryf.ntmps59
  go_wp2_with fail
  first
    | (refine bodyPost_end (results_none rfl _ _ _) rfl ?_; exact ⟨rfl, rfl⟩)
    | fail

set_option maxHeartbeats 800000 in
theorem brInit_any (D o : Nat) (v0 v1 : Value) (A : Option Addr) (n c : Nat) (w : World) (hc : w.cell? ⟨D, o, none⟩ = some v0) (hf : w.frozen? ⟨D, o, none⟩ = false) (hc1 : w.cell? ⟨D, o + 1, none⟩ = some v1) (hf1 : w.frozen? ⟨D, o + 1, none⟩ = false) :
    Calls Tryf.prog 56 #[.pointer (some ⟨D, o, none⟩), .slice A n c] w fun e w' => e = .returned (.tuple #[]) ∧ w' = (w.setCell ⟨D, o, none⟩ (.slice A n c)).setCell ⟨D, o + 1, none⟩ (.int .i64 0) := by
  go_enter Tryf.func56, Tryf.ntmps56
  go_wp2_with fail
  first
    | (refine bodyPost_end (results_none rfl _ _ _) rfl ?_; exact ⟨rfl, rfl⟩)
    | fail

set_option maxHeartbeats 800000 in
theorem unread_any {w : World} {B : Nat} {A : Option Addr} {n c : Nat} {l : List UInt8} (hs : Sl w B A n c l) (hB : B ≤ w.heap.size) (i : Nat) (hi : i ≤ n) (ii : Int) (hii : ii = i) :
    Calls Tryf.prog 64 #[.agg #[.slice A n c, .int .i64 ii]] w fun e w' => ∃ A2, e = .returned (.slice A2 (n - i) (c - i)) ∧ Sl w' B A2 (n - i) (c - i) (l.drop i) ∧ Below w.heap.size w w' := by
  subst hii
  have hsl := hs.nextA i hi
  obtain ⟨A4, hA4⟩ : ∃ A4, (if c = i then A else Option.map (fun x => x.add i) A) = A4 := ⟨_, rfl⟩
  rw [hA4] at hsl
  have HSL := Lib.hid hsl
  have hcc := hs.cap
  have hcm := hs.most
  clear hsl hs
  go_enter Tryf.func64, Tryf.ntmps64
  go_wp2_with fail
  go_ret
  exact ⟨A4, rfl, HSL.out.below ((below_new w _).mono hB), below_new w _⟩
end Go.Proofs.YthkklojjpgjiiaaFmt
namespace Go.Proofs.YthkklojjpgjiiaaFmt
open Go.RowKit Go.Extern.Stop Go.Stop Go.Extern

/-- a new scratch of huff0, a new one of fse -/
noncomputable def hz0 : Nat → Value := fun k => Tryf.zeroCells58.getD k undef
noncomputable def fz0 : Nat → Value := fun k => Tryf.zeroCells98.getD k undef
theorem getD_run (a : Array Value) (n : Nat) (h : a.size = n) : ∀ k, k < n → a[k]? = some (a.getD k undef) := fun k hk => by
  rw [Array.getD_eq_getD_getElem?, Array.getElem?_eq_getElem (by omega)]
  rfl
theorem hz_size : Tryf.zeroCells58.size = 540 := by kernel_rfl
theorem fz_size : Tryf.zeroCells98.size = 534 := by kernel_rfl
theorem info_node : (Tryf.prog.info? 110).map (fun i => (i.zero, i.size, i.bytes)) = some (some (.int .u64 0), 1, 8) := by kernel_rfl
theorem info_u8p : (Tryf.prog.info? 5).map (fun i => (i.zero, i.size, i.bytes)) = some (some (.int .u8 0), 1, 1) := by kernel_rfl
theorem make_cap (t e : TypeId) (z : Value) (bytes m : Nat) (ht : Tryf.prog.underlying t = some (.slice e)) (hi : (Tryf.prog.info? e).map (fun i => (i.zero, i.size, i.bytes)) = some (some z, 1, bytes)) (hb : bytes * m ≤ 1000000) (hb1 : 1 ≤ bytes) (mi : Int) (hm : mi = m) :
    ∃ arr : Array Value, ∀ w, (Instr.makeSlice t (.int .i64 0) (.int .i64 mi)).run Tryf.prog w = .ok (.slice (some ⟨w.heap.size, 0, none⟩) 0 m) (w.alloc (.cells arr e)) := by
  obtain ⟨i, h1, h2, h3, h4⟩ := info_parts hi
  subst hm
  refine ⟨madeCells z.cells ((m : Int).toNat * i.size), fun w => ?_⟩
  have hm2 : m ≤ 1000000 := Nat.le_trans (Nat.le_mul_of_pos_left m hb1) hb
  have h := run_make (P := Tryf.prog) w t e i z ht h1 h2 .i64 .i64 0 m (by omega) (by omega) (by rw [h4]; have h5 : ((bytes * m : Nat) : Int) ≤ 1000000 := (by omega); rw [Int.natCast_mul] at h5; omega) (by omega)
  simp only [Int.toNat_natCast] at h ⊢
  exact h
/-- what prepare makes: a scratch of huff0 and one of fse -/
def HufPost (w : World) (e : Ending) (w' : World) : Prop :=
  ∃ D f, e = .returned (.tuple #[.pointer (some ⟨w.heap.size, 0, none⟩), .nilIface]) ∧ w.heap.size < D ∧ RowF w' w.heap.size 58 540 f ∧ f 278 = .pointer (some ⟨D, 0, none⟩) ∧
    RowF w' D 98 534 fz0 ∧ Below w.heap.size w w' ∧ ∀ k, k < 540 → (k < 256 ∨ 262 < k) → k ≠ 273 → k ≠ 278 → f k = hz0 k
set_option maxRecDepth 100000 in
set_option maxHeartbeats 3200000 in
theorem hufPrep_any (w : World) :
    Calls Tryf.prog 18 #[.pointer none, .slice none 0 0] w (HufPost w) := by
  obtain ⟨ab, hmk0⟩ := make_cap 28 5 (.int .u8 0) 1 0 Tryf.underlying28 info_u8p (by omega) (by omega) 0 rfl
  obtain ⟨an, hmk1⟩ := make_cap 47 110 (.int .u64 0) 8 513 Tryf.underlying47 info_node (by omega) (by omega) 513 rfl
  go_enter Tryf.func18, Tryf.ntmps18
  go_upto_region 5 with fail
  have hR : RowF (w.alloc (.cells Tryf.zeroCells58 58)) w.heap.size 58 540 hz0 := ⟨_, heap_alloc_new _ _, hz_size, getD_run _ 540 hz_size⟩
  have hB := below_new w (.cells Tryf.zeroCells58 58)
  generalize hw1 : World.alloc w _ = w1 at hR hB ⊢
  obtain ⟨g, hg⟩ : ∃ g, w.heap.size = g := ⟨_, rfl⟩
  rw [hg] at hR hB ⊢
  have q261 : w1.cell? ⟨g, 261, none⟩ = some (.int .u8 0) := hR.cellv 261 (by omega) _ (by kernel_rfl)
  have z261 := hR.frozen 261
  have q262 : w1.cell? ⟨g, 262, none⟩ = some (.int .u8 0) := hR.cellv 262 (by omega) _ (by kernel_rfl)
  have z262 := hR.frozen 262
  have q259 : w1.cell? ⟨g, 259, none⟩ = some (.int .i64 0) := hR.cellv 259 (by omega) _ (by kernel_rfl)
  have z259 := hR.frozen 259
  have q267 : w1.cell? ⟨g, 267, none⟩ = some (.bool false) := hR.cellv 267 (by omega) _ (by kernel_rfl)
  have z267 := hR.frozen 267
  have q256 : w1.cell? ⟨g, 256, none⟩ = some (.slice none 0 0) := hR.cellv 256 (by omega) _ (by kernel_rfl)
  have z256 := hR.frozen 256
  have hR2 := ((hR.set_ 261 (.int .u8 255)).set_ 262 (.int .u8 11)).set_ 259 (.int .i64 262143)
  have hB2 := ((hB.setCell (p := ⟨g, 261, none⟩) (Nat.le_refl _) (.int .u8 255)).setCell (p := ⟨g, 262, none⟩) (Nat.le_refl _) (.int .u8 11)).setCell (p := ⟨g, 259, none⟩) (Nat.le_refl _) (.int .i64 262143)
  have HR2 := Lib.hid hR2
  have HB2 := Lib.hid hB2
  have HG := Lib.hid hg
  clear hR hB hR2 hB2 hw1 hg
  go_upto_region 20 with fail
  generalize hw2 : World.setCell (World.setCell (World.setCell w1 _ _) _ _) _ _ = w2
  have hR := HR2.out
  have hB := HB2.out
  rw [hw2] at hR hB
  have q256 : w2.cell? ⟨g, 256, none⟩ = some (.slice none 0 0) := hR.cellv 256 (by omega) _ (by kernel_rfl)
  have z256 := hR.frozen 256
  have q257 : w2.cell? ⟨g, 257, none⟩ = some (.slice none 0 0) := hR.cellv 257 (by omega) _ (by kernel_rfl)
  have z257 := hR.frozen 257
  have q258 : w2.cell? ⟨g, 258, none⟩ = some (.slice none 0 0) := hR.cellv 258 (by omega) _ (by kernel_rfl)
  have z258 := hR.frozen 258
  have q273 : w2.cell? ⟨g, 273, none⟩ = some (.slice none 0 0) := hR.cellv 273 (by omega) _ (by kernel_rfl)
  have z273 := hR.frozen 273

  have hlt := hR.lt
  have HR3 := Lib.hid hR
  have HB3 := Lib.hid hB
  clear hR hB hw2 HR2 HB2 q261 z261 q262 z262 q259 z259 q267 z267
  go_upto_region 25 with fail
  go_upto_region 28 with fail
  obtain ⟨z2, hz2⟩ : ∃ z2, w2.heap.size = z2 := ⟨_, rfl⟩
  rw [hz2] at hlt ⊢
  have hR := ((((((HR3.out.set_ 256 (.slice (some ⟨z2, 0, none⟩) 0 0)).set_ 256 (.slice (some ⟨z2, 0, none⟩) 0 0)).set_ 257 (.slice none 0 0)).set_ 258 (.slice none 0 0)).set_ 273 (.slice (some ⟨z2 + 1, 0, none⟩) 0 513)).set_ 273 (.slice (some ⟨z2 + 1, 0, none⟩) 0 513)).alloc (.cells ab 5)
  have hR := hR.alloc (.cells an 110)
  have hB := ((((((HB3.out.setCell (p := ⟨g, 256, none⟩) (Nat.le_refl _) (.slice (some ⟨z2, 0, none⟩) 0 0)).setCell (p := ⟨g, 256, none⟩) (Nat.le_refl _) (.slice (some ⟨z2, 0, none⟩) 0 0)).setCell (p := ⟨g, 257, none⟩) (Nat.le_refl _) (.slice none 0 0)).setCell (p := ⟨g, 258, none⟩) (Nat.le_refl _) (.slice none 0 0)).setCell (p := ⟨g, 273, none⟩) (Nat.le_refl _) (.slice (some ⟨z2 + 1, 0, none⟩) 0 513)).setCell (p := ⟨g, 273, none⟩) (Nat.le_refl _) (.slice (some ⟨z2 + 1, 0, none⟩) 0 513))
  have hB := hB.trans ((below_new _ (.cells ab 5)).mono (by simp; omega))
  have hB := hB.trans ((below_new _ (.cells an 110)).mono (by simp; omega))
  generalize hw3 : World.alloc (World.alloc _ _) _ = w3 at hR hB ⊢
  have q278 : w3.cell? ⟨g, 278, none⟩ = some (.pointer none) := hR.cellv 278 (by omega) _ (by kernel_rfl)
  have z278 := hR.frozen 278
  have q260 : w3.cell? ⟨g, 260, none⟩ = some (.int .i64 0) := hR.cellv 260 (by omega) _ (by kernel_rfl)
  have z260 := hR.frozen 260
  have hlt3 := hR.lt
  have HR4 := Lib.hid hR
  have HB4 := Lib.hid hB
  clear hR hB hw3 HR3 HB3 q256 z256 q257 z257 q258 z258 q273 z273 hlt hz2
  go_wp2_with fail
  go_ret2
  obtain ⟨D, hD⟩ : ∃ D, w3.heap.size = D := ⟨_, rfl⟩
  rw [hD] at hlt3 ⊢
  have hR5 := ((HR4.out.set_ 278 (.pointer (some ⟨D, 0, none⟩))).set_ 260 (.int .i64 0)).alloc (.cells Tryf.zeroCells98 98)
  have hB5 := ((HB4.out.setCell (p := ⟨g, 278, none⟩) (Nat.le_refl _) (.pointer (some ⟨D, 0, none⟩))).setCell (p := ⟨g, 260, none⟩) (Nat.le_refl _) (.int .i64 0)).trans ((below_new _ (.cells Tryf.zeroCells98 98)).mono (by simp; omega))
  have hN : RowF (World.alloc (World.setCell (World.setCell w3 ⟨g, 278, none⟩ (.pointer (some ⟨D, 0, none⟩))) ⟨g, 260, none⟩ (.int .i64 0)) (.cells Tryf.zeroCells98 98)) D 98 534 fz0 := by
    refine ⟨_, ?_, fz_size, getD_run _ 534 fz_size⟩
    rw [← hD]
    have := heap_alloc_new (World.setCell (World.setCell w3 ⟨g, 278, none⟩ (.pointer (some ⟨w3.heap.size, 0, none⟩))) ⟨g, 260, none⟩ (.int .i64 0)) (.cells Tryf.zeroCells98 98)
    simpa using this
  unfold HufPost
  rw [HG.out]
  refine ⟨D, _, rfl, by omega, hR5, ?_, hN, hB5, fun k hk h1 h2 h3 => ?_⟩
  · rw [updV_ne _ _ _ _ (by omega), updV_same]
  · rw [updV_ne _ _ _ _ (by omega), updV_ne _ _ _ _ (by omega), updV_ne _ _ _ _ (by omega), updV_ne _ _ _ _ (by omega), updV_ne _ _ _ _ (by omega), updV_ne _ _ _ _ (by omega), updV_ne _ _ _ _ (by omega), updV_ne _ _ _ _ (by omega), updV_ne _ _ _ _ (by omega), updV_ne _ _ _ _ (by omega), updV_ne _ _ _ _ (by omega)]
end Go.Proofs.YthkklojjpgjiiaaFmt
namespace Go.Proofs.YthkklojjpgjiiaaFmt
open Go.RowKit Go.Extern.Stop Go.Stop Go.Extern

set_option maxRecDepth 100000 in
set_option maxHeartbeats 1600000 in
theorem fsePrep_any {w : World} {D n c : Nat} {A : Option Addr} {ad : Addr} {f : Nat → Value} (hr : RowF w D 98 534 f) (h532 : f 532 = .int .u8 0) (h533 : f 533 = .int .u8 0) (h526 : f 526 = .slice (some ad) 256 256) (h531 : f 531 = .bool false) (h527 : f 527 = .int .i64 255) :
    Calls Tryf.prog 43 #[.pointer (some ⟨D, 0, none⟩), .slice A n c] w fun e w' => e = .returned (.tuple #[.pointer (some ⟨D, 0, none⟩), .nilIface]) ∧
      RowF w' D 98 534 (updV (updV (updV (updV f 532 (.int .u8 255)) 533 (.int .u8 11)) 512 (.slice A n c)) 513 (.int .i64 0)) ∧ Only (· = D) w w' := by
  have q532 : w.cell? ⟨D, 532, none⟩ = some (.int .u8 0) := hr.cellv _ (by omega) _ h532
  have q533 : w.cell? ⟨D, 533, none⟩ = some (.int .u8 0) := hr.cellv _ (by omega) _ h533
  have z532 : w.frozen? ⟨D, 532, none⟩ = false := hr.frozen _
  have z533 : w.frozen? ⟨D, 533, none⟩ = false := hr.frozen _
  have hr2 := (hr.set_ 532 (.int .u8 255)).set_ 533 (.int .u8 11)
  have ho2 : Only (· = D) w ((w.setCell ⟨D, 532, none⟩ (.int .u8 255)).setCell ⟨D, 533, none⟩ (.int .u8 11)) := ((Only.refl (· = D) w).set_ (p := ⟨D, 532, none⟩) rfl _).set_ (p := ⟨D, 533, none⟩) rfl _
  have HR2 := Lib.hid hr2
  have HO2 := Lib.hid ho2
  have H526 := Lib.hid h526
  have H531 := Lib.hid h531
  have H527 := Lib.hid h527
  clear hr hr2 ho2 h526 h531 h527 h532 h533
  go_enter Tryf.func43, Tryf.ntmps43
  go_upto_region 7 with fail
  generalize hw1 : World.setCell (World.setCell w _ _) _ _ = w1
  have hr1 := HR2.out
  have ho1 := HO2.out
  rw [hw1] at hr1 ho1
  have q533 : w1.cell? ⟨D, 533, none⟩ = some (.int .u8 11) := hr1.cellv _ (by omega) _ (updV_same _ _ _)
  have q526 : w1.cell? ⟨D, 526, none⟩ = some (.slice (some ad) 256 256) := hr1.cellv _ (by omega) _ (by rw [updV_ne _ _ _ _ (by omega), updV_ne _ _ _ _ (by omega)]; exact H526.out)
  have q531 : w1.cell? ⟨D, 531, none⟩ = some (.bool false) := hr1.cellv _ (by omega) _ (by rw [updV_ne _ _ _ _ (by omega), updV_ne _ _ _ _ (by omega)]; exact H531.out)
  have q512 := hr1.cell 512 (by omega)
  have z512 := hr1.frozen 512
  have q513 := hr1.cell 513 (by omega)
  have z513 := hr1.frozen 513
  have KB := Lib.hid (brInit_any D 512 _ _ A n c w1 q512 z512 q513 z513)
  have HR1 := Lib.hid hr1
  have HO1 := Lib.hid ho1
  clear hr1 ho1 hw1 HR2 HO2 q512 z512 q513 z513 z532
  go_wp2_with fail
  refine KB.out.mono ?_
  rintro e w2 ⟨rfl, hw2⟩
  have hr2 := (HR1.out.set_ 512 (.slice A n c)).set_ 513 (.int .i64 0)
  have ho2 := (HO1.out.set_ (p := ⟨D, 512, none⟩) rfl (.slice A n c)).set_ (p := ⟨D, 513, none⟩) rfl (.int .i64 0)
  rw [← hw2] at hr2 ho2
  have q527 : w2.cell? ⟨D, 527, none⟩ = some (.int .i64 255) := hr2.cellv _ (by omega) _ (by rw [updV_ne _ _ _ _ (by omega), updV_ne _ _ _ _ (by omega), updV_ne _ _ _ _ (by omega), updV_ne _ _ _ _ (by omega)]; exact H527.out)
  have HR3 := Lib.hid hr2
  have HO3 := Lib.hid ho2
  clear hr2 ho2 hw2
  go_wp2_with fail
  go_ret2
  exact ⟨rfl, HR3.out, HO3.out⟩
end Go.Proofs.YthkklojjpgjiiaaFmt
