/-
  fmt.Errorf and errors.New: an error comes back. Conditions: those of each; fmt's stop answers as it does.
-/
import Derived.Test.YthkklojjpgjiiaaFmtCodeT10
import Derived.Stop.CallBack
import Derived.Stop.IfaceNil
import GoSem.ClaimData
namespace Go.Proofs.YthkklojjpgjiiaaFmt
open Go.RowKit Go.Extern.Stop Go.Stop Go.Extern

/-- an error of errors.New's make comes back, in a new block -/
def ErrPost (w : World) (e : Ending) (w' : World) : Prop :=
  ∃ b s, w.heap.size ≤ b ∧ b < w'.heap.size ∧ e = .returned (.iface 107 (.pointer (some ⟨b, 0, none⟩))) ∧ w'.cell? ⟨b, 0, none⟩ = some (.string s) ∧ Below w.heap.size w w'
theorem call_errorf (args : Array Value) (w : World) : (callFunc 42 args).run Tryf.prog w = ((FmtStop.errorf #[9, 137] #[60] args).run Tryf.prog w).andThen fun v w' => .ok (.value v) w' :=
  run_callFunc_extern Tryf.func42 (by kernel_rfl) (by kernel_rfl) (by kernel_rfl) (by kernel_rfl) args w
theorem fmt_guard (name : String) (w : World) : (FmtStop.guard name).run Tryf.prog w = .ok () w := by kernel_rfl
theorem fmt_ptr (w : World) : (FmtStop.ptrTo "errors.errorString").run Tryf.prog w = .ok 107 w := by kernel_rfl
theorem fmt_elem (w : World) : (elemOf 107).run Tryf.prog w = .ok 109 w := by kernel_rfl
theorem fmt_isErr (w : World) : (FmtDoors.textMethod 107 "Error").run Tryf.prog w = .ok true w := by kernel_rfl
theorem fmt_ptrW (w : World) : (FmtStop.ptrTo "fmt.wrapError").run Tryf.prog w = .ok 138 w := by kernel_rfl
theorem fmt_elemW (w : World) : (elemOf 138).run Tryf.prog w = .ok 194 w := by kernel_rfl
theorem fmt_isErrW (w : World) : (FmtDoors.textMethod 138 "Error").run Tryf.prog w = .ok true w := by kernel_rfl
def plainE : List UInt8 := 14 :: FmtStop.pack "*errors.errorString".toUTF8.data.toList
theorem fmt_opE (name : String) (a : Addr) (s : ByteArray) (w : World) (hc : w.cell? a = some (.string s)) :
    (FmtStop.operand name true 119 false (.iface 107 (.pointer (some a)))).run Tryf.prog w = .ok (plainE, s.data.toList) w := by
  have h1 : (typeStr 107).run Tryf.prog w = .ok "*errors.errorString" w := by kernel_rfl
  have d2 : Tryf.t107.desc = .pointer 109 := rfl
  have d3 : Tryf.t109.desc = .named "errors.errorString" 108 := rfl
  simp [FmtStop.operand, h1, d2, d3, run_load, hc, plainE]
theorem errPost_new (w : World) (s : ByteArray) : ErrPost w (.returned (.iface 107 (.pointer (some ⟨w.heap.size, 0, none⟩)))) ((w.alloc (.cells #[.string s] 109)).drew) :=
  ⟨w.heap.size, s, Nat.le_refl _, by simp, rfl, cell_of_row _ _ 0 _ _ (0, 0) (heap_alloc_new _ _), below_drewN (below_new w _) 1⟩
theorem fmt_op_uint8 (name : String) (x : Int) (w : World) : ∃ r1 r2, (FmtStop.operand name true 100 false (.iface 5 (.int .u8 x))).run Tryf.prog w = .ok (r1, r2) w := ⟨match (FmtStop.operand name true 100 false (.iface 5 (.int .u8 x))).run Tryf.prog w with | .ok r _ => r.1 | _ => [], match (FmtStop.operand name true 100 false (.iface 5 (.int .u8 x))).run Tryf.prog w with | .ok r _ => r.2 | _ => [], by kernel_rfl⟩
theorem fmt_op_int (name : String) (x : Int) (w : World) : ∃ r1 r2, (FmtStop.operand name true 100 false (.iface 3 (.int .i64 x))).run Tryf.prog w = .ok (r1, r2) w := ⟨match (FmtStop.operand name true 100 false (.iface 3 (.int .i64 x))).run Tryf.prog w with | .ok r _ => r.1 | _ => [], match (FmtStop.operand name true 100 false (.iface 3 (.int .i64 x))).run Tryf.prog w with | .ok r _ => r.2 | _ => [], by kernel_rfl⟩
theorem fmt_op_uint16 (name : String) (x : Int) (w : World) : ∃ r1 r2, (FmtStop.operand name true 100 false (.iface 37 (.int .u16 x))).run Tryf.prog w = .ok (r1, r2) w := ⟨match (FmtStop.operand name true 100 false (.iface 37 (.int .u16 x))).run Tryf.prog w with | .ok r _ => r.1 | _ => [], match (FmtStop.operand name true 100 false (.iface 37 (.int .u16 x))).run Tryf.prog w with | .ok r _ => r.2 | _ => [], by kernel_rfl⟩
theorem fmt_op_uint (name : String) (x : Int) (w : World) : ∃ r1 r2, (FmtStop.operand name true 100 false (.iface 75 (.int .u64 x))).run Tryf.prog w = .ok (r1, r2) w := ⟨match (FmtStop.operand name true 100 false (.iface 75 (.int .u64 x))).run Tryf.prog w with | .ok r _ => r.1 | _ => [], match (FmtStop.operand name true 100 false (.iface 75 (.int .u64 x))).run Tryf.prog w with | .ok r _ => r.2 | _ => [], by kernel_rfl⟩
theorem fmt_pA (w : World) : (FmtDoors.printed ⟨#[105, 110, 112, 117, 116, 32, 116, 111, 111, 32, 115, 109, 97, 108, 108, 32, 102, 111, 114, 32, 116, 97, 98, 108, 101, 44, 32, 119, 97, 110, 116, 32, 37, 100, 32, 98, 121, 116, 101, 115, 44, 32, 104, 97, 118, 101, 32, 37, 100]⟩ 2).run Tryf.prog w = .ok [(0, 100, false), (1, 100, false)] w := by kernel_rfl

set_option maxHeartbeats 800000 in
theorem errorf_A (F : Interp) (g : Nat) (x0 x1 : Int) (w : World) (hF : F.answers w.tape) (h0 : w.cell? ⟨g, 0, none⟩ = some (.iface 5 (.int .u8 x0))) (h1 : w.cell? ⟨g, 1, none⟩ = some (.iface 3 (.int .i64 x1))) :
    Calls Tryf.prog 23 #[.string ⟨#[105, 110, 112, 117, 116, 32, 116, 111, 111, 32, 115, 109, 97, 108, 108, 32, 102, 111, 114, 32, 116, 97, 98, 108, 101, 44, 32, 119, 97, 110, 116, 32, 37, 100, 32, 98, 121, 116, 101, 115, 44, 32, 104, 97, 118, 101, 32, 37, 100]⟩, .slice (some ⟨g, 0, none⟩) 2 2] w (ErrPost w) := by
  have hF' : ∀ i name reading k range, w.tape i (.extern (word name reading k) range) = F name reading k := hF
  have z1 := call_errorf
  have z2 := fmt_guard
  have z3 := fmt_ptr
  have z4 := fmt_elem
  have z6 := fmt_pA
  obtain ⟨r0, s0, y0⟩ := fmt_op_uint8 "fmt.errorf" x0 w
  obtain ⟨r1, s1, y1⟩ := fmt_op_int "fmt.errorf" x1 w
  go_enter Tryf.func23, Tryf.ntmps23
  go_wp2
  go_ret
  exact errPost_new w _
theorem fmt_pC (w : World) : (FmtDoors.printed ⟨#[115, 121, 109, 98, 111, 108, 76, 101, 110, 32, 40, 37, 100, 41, 32, 116, 111, 111, 32, 115, 109, 97, 108, 108]⟩ 1).run Tryf.prog w = .ok [(0, 100, false)] w := by kernel_rfl

set_option maxHeartbeats 800000 in
theorem errorf_C (F : Interp) (g : Nat) (x0 : Int) (w : World) (hF : F.answers w.tape) (h0 : w.cell? ⟨g, 0, none⟩ = some (.iface 37 (.int .u16 x0))) :
    Calls Tryf.prog 23 #[.string ⟨#[115, 121, 109, 98, 111, 108, 76, 101, 110, 32, 40, 37, 100, 41, 32, 116, 111, 111, 32, 115, 109, 97, 108, 108]⟩, .slice (some ⟨g, 0, none⟩) 1 1] w (ErrPost w) := by
  have hF' : ∀ i name reading k range, w.tape i (.extern (word name reading k) range) = F name reading k := hF
  have z1 := call_errorf
  have z2 := fmt_guard
  have z3 := fmt_ptr
  have z4 := fmt_elem
  have z6 := fmt_pC
  obtain ⟨r0, s0, y0⟩ := fmt_op_uint16 "fmt.errorf" x0 w
  go_enter Tryf.func23, Tryf.ntmps23
  go_wp2
  go_ret
  exact errPost_new w _
theorem fmt_pD (w : World) : (FmtDoors.printed ⟨#[115, 121, 109, 98, 111, 108, 76, 101, 110, 32, 40, 37, 100, 41, 32, 116, 111, 111, 32, 98, 105, 103]⟩ 1).run Tryf.prog w = .ok [(0, 100, false)] w := by kernel_rfl

set_option maxHeartbeats 800000 in
theorem errorf_D (F : Interp) (g : Nat) (x0 : Int) (w : World) (hF : F.answers w.tape) (h0 : w.cell? ⟨g, 0, none⟩ = some (.iface 37 (.int .u16 x0))) :
    Calls Tryf.prog 23 #[.string ⟨#[115, 121, 109, 98, 111, 108, 76, 101, 110, 32, 40, 37, 100, 41, 32, 116, 111, 111, 32, 98, 105, 103]⟩, .slice (some ⟨g, 0, none⟩) 1 1] w (ErrPost w) := by
  have hF' : ∀ i name reading k range, w.tape i (.extern (word name reading k) range) = F name reading k := hF
  have z1 := call_errorf
  have z2 := fmt_guard
  have z3 := fmt_ptr
  have z4 := fmt_elem
  have z6 := fmt_pD
  obtain ⟨r0, s0, y0⟩ := fmt_op_uint16 "fmt.errorf" x0 w
  go_enter Tryf.func23, Tryf.ntmps23
  go_wp2
  go_ret
  exact errPost_new w _
theorem fmt_pX (w : World) : (FmtDoors.printed ⟨#[99, 111, 114, 114, 117, 112, 116, 105, 111, 110, 32, 100, 101, 116, 101, 99, 116, 101, 100, 32, 40, 98, 105, 116, 67, 111, 117, 110, 116, 32, 37, 100, 32, 62, 32, 51, 50, 41]⟩ 1).run Tryf.prog w = .ok [(0, 100, false)] w := by kernel_rfl

set_option maxHeartbeats 800000 in
theorem errorf_X (F : Interp) (g : Nat) (x0 : Int) (w : World) (hF : F.answers w.tape) (h0 : w.cell? ⟨g, 0, none⟩ = some (.iface 75 (.int .u64 x0))) :
    Calls Tryf.prog 23 #[.string ⟨#[99, 111, 114, 114, 117, 112, 116, 105, 111, 110, 32, 100, 101, 116, 101, 99, 116, 101, 100, 32, 40, 98, 105, 116, 67, 111, 117, 110, 116, 32, 37, 100, 32, 62, 32, 51, 50, 41]⟩, .slice (some ⟨g, 0, none⟩) 1 1] w (ErrPost w) := by
  have hF' : ∀ i name reading k range, w.tape i (.extern (word name reading k) range) = F name reading k := hF
  have z1 := call_errorf
  have z2 := fmt_guard
  have z3 := fmt_ptr
  have z4 := fmt_elem
  have z6 := fmt_pX
  obtain ⟨r0, s0, y0⟩ := fmt_op_uint "fmt.errorf" x0 w
  go_enter Tryf.func23, Tryf.ntmps23
  go_wp2
  go_ret
  exact errPost_new w _
theorem fmt_pJ (w : World) : (FmtDoors.printed ⟨#[110, 101, 119, 83, 116, 97, 116, 101, 32, 40, 37, 100, 41, 32, 61, 61, 32, 111, 108, 100, 83, 116, 97, 116, 101, 32, 40, 37, 100, 41, 32, 97, 110, 100, 32, 110, 111, 32, 98, 105, 116, 115]⟩ 2).run Tryf.prog w = .ok [(0, 100, false), (1, 100, false)] w := by kernel_rfl

set_option maxHeartbeats 800000 in
theorem errorf_J (F : Interp) (g : Nat) (x0 x1 : Int) (w : World) (hF : F.answers w.tape) (h0 : w.cell? ⟨g, 0, none⟩ = some (.iface 37 (.int .u16 x0))) (h1 : w.cell? ⟨g, 1, none⟩ = some (.iface 3 (.int .i64 x1))) :
    Calls Tryf.prog 23 #[.string ⟨#[110, 101, 119, 83, 116, 97, 116, 101, 32, 40, 37, 100, 41, 32, 61, 61, 32, 111, 108, 100, 83, 116, 97, 116, 101, 32, 40, 37, 100, 41, 32, 97, 110, 100, 32, 110, 111, 32, 98, 105, 116, 115]⟩, .slice (some ⟨g, 0, none⟩) 2 2] w (ErrPost w) := by
  have hF' : ∀ i name reading k range, w.tape i (.extern (word name reading k) range) = F name reading k := hF
  have z1 := call_errorf
  have z2 := fmt_guard
  have z3 := fmt_ptr
  have z4 := fmt_elem
  have z6 := fmt_pJ
  obtain ⟨r0, s0, y0⟩ := fmt_op_uint16 "fmt.errorf" x0 w
  obtain ⟨r1, s1, y1⟩ := fmt_op_int "fmt.errorf" x1 w
  go_enter Tryf.func23, Tryf.ntmps23
  go_wp2
  go_ret
  exact errPost_new w _
theorem fmt_pK (w : World) : (FmtDoors.printed ⟨#[111, 117, 116, 112, 117, 116, 32, 115, 105, 122, 101, 32, 40, 37, 100, 41, 32, 62, 32, 68, 101, 99, 111, 109, 112, 114, 101, 115, 115, 76, 105, 109, 105, 116, 32, 40, 37, 100, 41]⟩ 2).run Tryf.prog w = .ok [(0, 100, false), (1, 100, false)] w := by kernel_rfl

set_option maxHeartbeats 800000 in
theorem errorf_K (F : Interp) (g : Nat) (x0 x1 : Int) (w : World) (hF : F.answers w.tape) (h0 : w.cell? ⟨g, 0, none⟩ = some (.iface 3 (.int .i64 x0))) (h1 : w.cell? ⟨g, 1, none⟩ = some (.iface 3 (.int .i64 x1))) :
    Calls Tryf.prog 23 #[.string ⟨#[111, 117, 116, 112, 117, 116, 32, 115, 105, 122, 101, 32, 40, 37, 100, 41, 32, 62, 32, 68, 101, 99, 111, 109, 112, 114, 101, 115, 115, 76, 105, 109, 105, 116, 32, 40, 37, 100, 41]⟩, .slice (some ⟨g, 0, none⟩) 2 2] w (ErrPost w) := by
  have hF' : ∀ i name reading k range, w.tape i (.extern (word name reading k) range) = F name reading k := hF
  have z1 := call_errorf
  have z2 := fmt_guard
  have z3 := fmt_ptr
  have z4 := fmt_elem
  have z6 := fmt_pK
  obtain ⟨r0, s0, y0⟩ := fmt_op_int "fmt.errorf" x0 w
  obtain ⟨r1, s1, y1⟩ := fmt_op_int "fmt.errorf" x1 w
  go_enter Tryf.func23, Tryf.ntmps23
  go_wp2
  go_ret
  exact errPost_new w _

theorem fmt_pW (w : World) : (FmtDoors.printed ⟨#[102, 115, 101, 32, 100, 101, 99, 111, 109, 112, 114, 101, 115, 115, 32, 114, 101, 116, 117, 114, 110, 101, 100, 58, 32, 37, 119]⟩ 1).run Tryf.prog w = .ok [(0, 119, false)] w := by kernel_rfl
set_option maxHeartbeats 800000 in
theorem errorf_W (F : Interp) (g : Nat) (a : Addr) (s : ByteArray) (w : World) (hF : F.answers w.tape) (h0 : w.cell? ⟨g, 0, none⟩ = some (.iface 107 (.pointer (some a)))) (hs : w.cell? a = some (.string s)) :
    Calls Tryf.prog 23 #[.string ⟨#[102, 115, 101, 32, 100, 101, 99, 111, 109, 112, 114, 101, 115, 115, 32, 114, 101, 116, 117, 114, 110, 101, 100, 58, 32, 37, 119]⟩, .slice (some ⟨g, 0, none⟩) 1 1] w fun e w' => (∃ v, e = .returned (.iface 138 v)) ∧ Below w.heap.size w w' := by
  have hF' : ∀ i name reading k range, w.tape i (.extern (word name reading k) range) = F name reading k := hF
  have z1 := call_errorf
  have z2 := fmt_guard
  have z3 := fmt_ptrW
  have z4 := fmt_elemW
  have z5 := fmt_isErr
  have z6 := fmt_pW
  have y0 := fmt_opE "fmt.errorf" a s w hs
  go_enter Tryf.func23, Tryf.ntmps23
  go_wp2
  go_ret
  exact ⟨⟨_, rfl⟩, below_drewN (below_new w _) 1⟩
theorem errorsNew_any (s : ByteArray) (w : World) : Calls Tryf.prog 17 #[.string s] w (ErrPost w) := by
  go_enter Tryf.func17, Tryf.ntmps17
  go_wp2
  go_ret
  exact ⟨w.heap.size, s, Nat.le_refl _, by simp, rfl, cell_of_row _ _ 0 _ _ (0, 0) (heap_alloc_new _ _), below_new w _⟩
end Go.Proofs.YthkklojjpgjiiaaFmt
