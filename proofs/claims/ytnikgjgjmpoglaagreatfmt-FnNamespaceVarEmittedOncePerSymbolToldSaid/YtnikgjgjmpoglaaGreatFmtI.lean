/-
  The looks into a statement, an expression, a binding: each hands back the datum and true where it is of the kind asked for, else nil and false. No conditions.
-/
import Derived.Test.YtnikgjgjmpoglaaGreatFmtH1
namespace Go.Proofs.YtnikgjgjmpoglaaGreatFmt
open Go Go.RowKit
set_option maxRecDepth 100000

def AsPost (v : Value) (b : Bool) (w : World) (e : Ending) (w' : World) : Prop := e = .returned (.tuple #[v, .bool b]) ∧ Grew (fun _ => False) w w'
def BoolPost (b : Bool) (w : World) (e : Ending) (w' : World) : Prop := e = .returned (.bool b) ∧ Grew (fun _ => False) w w'

theorem tas_199 (v : Value) (w : World) : (Instr.typeAssert (.iface 199 v) 43 199 true).run Tryz.prog w = .ok (.tuple #[v, .bool true]) w := by kernel_rfl
theorem as_24 (q : Nat) (l : Int) (w : World) : Calls Tryz.prog 24 #[.agg #[.iface 199 (.pointer (some ⟨q, 0, none⟩)), .int .i32 l]] w (AsPost (.pointer (some ⟨q, 0, none⟩)) true w) := by
  have ta := tas_199
  go_enter Tryz.func24, Tryz.ntmps24
  go_wp2
  go_ret2
  exact ⟨rfl, (Grew.refl _ w).alloc _⟩
theorem tas_39 (v : Value) (w : World) : (Instr.typeAssert (.iface 39 v) 43 39 true).run Tryz.prog w = .ok (.tuple #[v, .bool true]) w := by kernel_rfl
theorem as_12 (q : Nat) (l : Int) (w : World) : Calls Tryz.prog 12 #[.agg #[.iface 39 (.pointer (some ⟨q, 0, none⟩)), .int .i32 l]] w (AsPost (.pointer (some ⟨q, 0, none⟩)) true w) := by
  have ta := tas_39
  go_enter Tryz.func12, Tryz.ntmps12
  go_wp2
  go_ret2
  exact ⟨rfl, (Grew.refl _ w).alloc _⟩
theorem tas_224 (v : Value) (w : World) : (Instr.typeAssert (.iface 224 v) 43 224 true).run Tryz.prog w = .ok (.tuple #[v, .bool true]) w := by kernel_rfl
theorem as_31 (q : Nat) (l : Int) (w : World) : Calls Tryz.prog 31 #[.agg #[.iface 224 (.pointer (some ⟨q, 0, none⟩)), .int .i32 l]] w (AsPost (.pointer (some ⟨q, 0, none⟩)) true w) := by
  have ta := tas_224
  go_enter Tryz.func31, Tryz.ntmps31
  go_wp2
  go_ret2
  exact ⟨rfl, (Grew.refl _ w).alloc _⟩
theorem tas_202 (v : Value) (w : World) : (Instr.typeAssert (.iface 202 v) 56 202 true).run Tryz.prog w = .ok (.tuple #[v, .bool true]) w := by kernel_rfl
theorem as_25 (q : Nat) (l : Int) (w : World) : Calls Tryz.prog 25 #[.agg #[.iface 202 (.pointer (some ⟨q, 0, none⟩)), .int .i32 l]] w (AsPost (.pointer (some ⟨q, 0, none⟩)) true w) := by
  have ta := tas_202
  go_enter Tryz.func25, Tryz.ntmps25
  go_wp2
  go_ret2
  exact ⟨rfl, (Grew.refl _ w).alloc _⟩
theorem tas_211 (v : Value) (w : World) : (Instr.typeAssert (.iface 211 v) 56 211 true).run Tryz.prog w = .ok (.tuple #[v, .bool true]) w := by kernel_rfl
theorem as_26 (q : Nat) (l : Int) (w : World) : Calls Tryz.prog 26 #[.agg #[.iface 211 (.pointer (some ⟨q, 0, none⟩)), .int .i32 l]] w (AsPost (.pointer (some ⟨q, 0, none⟩)) true w) := by
  have ta := tas_211
  go_enter Tryz.func26, Tryz.ntmps26
  go_wp2
  go_ret2
  exact ⟨rfl, (Grew.refl _ w).alloc _⟩
theorem tas_190 (v : Value) (w : World) : (Instr.typeAssert (.iface 190 v) 56 190 true).run Tryz.prog w = .ok (.tuple #[v, .bool true]) w := by kernel_rfl
theorem as_28 (q : Nat) (l : Int) (w : World) : Calls Tryz.prog 28 #[.agg #[.iface 190 (.pointer (some ⟨q, 0, none⟩)), .int .i32 l]] w (AsPost (.pointer (some ⟨q, 0, none⟩)) true w) := by
  have ta := tas_190
  go_enter Tryz.func28, Tryz.ntmps28
  go_wp2
  go_ret2
  exact ⟨rfl, (Grew.refl _ w).alloc _⟩
theorem tas_249 (v : Value) (w : World) : (Instr.typeAssert (.iface 249 v) 56 249 true).run Tryz.prog w = .ok (.tuple #[v, .bool true]) w := by kernel_rfl
theorem as_38 (q : Nat) (l : Int) (w : World) : Calls Tryz.prog 38 #[.agg #[.iface 249 (.pointer (some ⟨q, 0, none⟩)), .int .i32 l]] w (AsPost (.pointer (some ⟨q, 0, none⟩)) true w) := by
  have ta := tas_249
  go_enter Tryz.func38, Tryz.ntmps38
  go_wp2
  go_ret2
  exact ⟨rfl, (Grew.refl _ w).alloc _⟩
theorem tas_269 (v : Value) (w : World) : (Instr.typeAssert (.iface 269 v) 56 269 true).run Tryz.prog w = .ok (.tuple #[v, .bool true]) w := by kernel_rfl
theorem as_39 (q : Nat) (l : Int) (w : World) : Calls Tryz.prog 39 #[.agg #[.iface 269 (.pointer (some ⟨q, 0, none⟩)), .int .i32 l]] w (AsPost (.pointer (some ⟨q, 0, none⟩)) true w) := by
  have ta := tas_269
  go_enter Tryz.func39, Tryz.ntmps39
  go_wp2
  go_ret2
  exact ⟨rfl, (Grew.refl _ w).alloc _⟩
theorem tas_259 (v : Value) (w : World) : (Instr.typeAssert (.iface 259 v) 56 259 true).run Tryz.prog w = .ok (.tuple #[v, .bool true]) w := by kernel_rfl
theorem as_40 (q : Nat) (l : Int) (w : World) : Calls Tryz.prog 40 #[.agg #[.iface 259 (.pointer (some ⟨q, 0, none⟩)), .int .i32 l]] w (AsPost (.pointer (some ⟨q, 0, none⟩)) true w) := by
  have ta := tas_259
  go_enter Tryz.func40, Tryz.ntmps40
  go_wp2
  go_ret2
  exact ⟨rfl, (Grew.refl _ w).alloc _⟩
theorem tas_194 (v : Value) (w : World) : (Instr.typeAssert (.iface 194 v) 52 194 true).run Tryz.prog w = .ok (.tuple #[v, .bool true]) w := by kernel_rfl
theorem as_23 (q : Nat) (l : Int) (w : World) : Calls Tryz.prog 23 #[.agg #[.iface 194 (.pointer (some ⟨q, 0, none⟩)), .int .i32 l]] w (AsPost (.pointer (some ⟨q, 0, none⟩)) true w) := by
  have ta := tas_194
  go_enter Tryz.func23, Tryz.ntmps23
  go_wp2
  go_ret2
  exact ⟨rfl, (Grew.refl _ w).alloc _⟩
theorem tas_199_39 (v : Value) (w : World) : (Instr.typeAssert (.iface 199 v) 43 39 true).run Tryz.prog w = .ok (.tuple #[.pointer none, .bool false]) w := by kernel_rfl
theorem as_12_no (q : Nat) (l : Int) (w : World) : Calls Tryz.prog 12 #[.agg #[.iface 199 (.pointer (some ⟨q, 0, none⟩)), .int .i32 l]] w (AsPost (.pointer none) false w) := by
  have ta := tas_199_39
  go_enter Tryz.func12, Tryz.ntmps12
  go_wp2
  go_ret2
  exact ⟨rfl, (Grew.refl _ w).alloc _⟩
theorem tas_259_269 (v : Value) (w : World) : (Instr.typeAssert (.iface 259 v) 56 269 true).run Tryz.prog w = .ok (.tuple #[.pointer none, .bool false]) w := by kernel_rfl
theorem as_39_no (q : Nat) (l : Int) (w : World) : Calls Tryz.prog 39 #[.agg #[.iface 259 (.pointer (some ⟨q, 0, none⟩)), .int .i32 l]] w (AsPost (.pointer none) false w) := by
  have ta := tas_259_269
  go_enter Tryz.func39, Tryz.ntmps39
  go_wp2
  go_ret2
  exact ⟨rfl, (Grew.refl _ w).alloc _⟩
end Go.Proofs.YtnikgjgjmpoglaaGreatFmt
