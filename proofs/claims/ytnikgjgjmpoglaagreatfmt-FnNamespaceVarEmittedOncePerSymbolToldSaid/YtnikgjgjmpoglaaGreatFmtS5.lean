/-
  FnNamespaceVarEmittedOncePerSymbol answers true at every input. Conditions: the variable InvalidRef as its initialiser lays it.
-/
import Derived.Test.YtnikgjgjmpoglaaGreatFmtL5
namespace Go.Proofs.YtnikgjgjmpoglaaGreatFmt
open Go Go.RowKit
set_option maxRecDepth 100000

set_option maxHeartbeats 1000000 in
theorem law5_out (k : Int) (linked bn : Bool) (w : World) (h : k < 0 ∨ 4096 < k) :
    Calls Tryz.prog 5 #[.int .i64 k, .bool linked, .bool bn] w (BoolPost true w) := by
  by_cases h1 : k < 0
  · have d1 : decide (k < 0) = true := by simpa using h1
    clear h
    go_enter Tryz.func5, Tryz.ntmps5
    go_wp2
    go_ret
    exact ⟨rfl, Grew.refl _ w⟩
  · have d1 : decide (k < 0) = false := by simpa using h1
    have h4 : 4096 < k := by omega
    have d4 : decide (4096 < k) = true := by simpa using h4
    clear h
    go_enter Tryz.func5, Tryz.ntmps5
    go_wp2
    go_ret
    exact ⟨rfl, Grew.refl _ w⟩

theorem law5 (k : Int) (linked bn : Bool) (w : World) (z : 0 < w.heap.size) (g0 : w.cell? ⟨0, 0, none⟩ = some (.int .u32 4294967295)) (g1 : w.cell? ⟨0, 1, none⟩ = some (.int .u32 4294967295)) :
    Calls Tryz.prog 5 #[.int .i64 k, .bool linked, .bool bn] w (BoolPost true w) := by
  by_cases h : k < 0 ∨ 4096 < k
  · exact law5_out k linked bn w h
  · obtain ⟨k, rfl⟩ := Int.eq_ofNat_of_zero_le (show 0 ≤ k by omega)
    exact law5_walk k (by omega) linked bn w z g0 g1
end Go.Proofs.YtnikgjgjmpoglaaGreatFmt
