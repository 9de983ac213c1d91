/-
  FnEnumNestedUsesNamespaceForm answers true at every input. Conditions: the variable InvalidRef as its initialiser lays it.
-/
import Derived.Test.YtnikgjgjmpoglaaGreatFmtE4
namespace Go.Proofs.YtnikgjgjmpoglaaGreatFmt
open Go Go.RowKit
set_option maxRecDepth 100000

set_option maxHeartbeats 1000000 in
theorem law3_out (m : Int) (ex pure mf : Bool) (w : World) (h : m < 0 ∨ 4096 < m) :
    Calls Tryz.prog 3 #[.int .i64 m, .bool ex, .bool pure, .bool mf] w (BoolPost true w) := by
  by_cases h1 : m < 0
  · have d1 : decide (m < 0) = true := by simpa using h1
    clear h
    go_enter Tryz.func3, Tryz.ntmps3
    go_wp2
    go_ret
    exact ⟨rfl, Grew.refl _ w⟩
  · have d1 : decide (m < 0) = false := by simpa using h1
    have h4 : 4096 < m := by omega
    have d4 : decide (4096 < m) = true := by simpa using h4
    clear h
    go_enter Tryz.func3, Tryz.ntmps3
    go_wp2
    go_ret
    exact ⟨rfl, Grew.refl _ w⟩

theorem law3 (m : Int) (ex pure mf : Bool) (w : World) (z : 0 < w.heap.size) (g0 : w.cell? ⟨0, 0, none⟩ = some (.int .u32 4294967295)) (g1 : w.cell? ⟨0, 1, none⟩ = some (.int .u32 4294967295)) :
    Calls Tryz.prog 3 #[.int .i64 m, .bool ex, .bool pure, .bool mf] w (BoolPost true w) := by
  by_cases h : m < 0 ∨ 4096 < m
  · exact law3_out m ex pure mf w h
  · obtain ⟨m, rfl⟩ := Int.eq_ofNat_of_zero_le (show 0 ≤ m by omega)
    exact law3_walk m (by omega) ex pure mf w z g0 g1
end Go.Proofs.YtnikgjgjmpoglaaGreatFmt
