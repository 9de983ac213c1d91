/-
  FnNamespaceClosureCaseTable answers true at every input. Conditions: the variable InvalidRef as its initialiser lays it.
-/
import Derived.Test.YtnikgjgjmpoglaaGreatFmtR
namespace Go.Proofs.YtnikgjgjmpoglaaGreatFmt
open Go Go.RowKit
set_option maxRecDepth 100000

set_option maxHeartbeats 1000000 in
theorem law4_out (n m : Int) (ex ek nested mf na : Bool) (sl nl : Int) (w : World) (h : n < 0 ∨ 4096 < n ∨ m < 0 ∨ 4096 < m) :
    Calls Tryz.prog 4 #[.int .i64 n, .int .i64 m, .bool ex, .bool ek, .bool nested, .bool mf, .bool na, .int .i32 sl, .int .i32 nl] w (BoolPost true w) := by
  by_cases h1 : n < 0
  · have d1 : decide (n < 0) = true := by simpa using h1
    clear h
    go_enter Tryz.func4, Tryz.ntmps4
    go_wp2
    go_ret
    exact ⟨rfl, Grew.refl _ w⟩
  · have d1 : decide (n < 0) = false := by simpa using h1
    by_cases h2 : 4096 < n
    · have d2 : decide (4096 < n) = true := by simpa using h2
      clear h
      go_enter Tryz.func4, Tryz.ntmps4
      go_wp2
      go_ret
      exact ⟨rfl, Grew.refl _ w⟩
    · have d2 : decide (4096 < n) = false := by simpa using h2
      by_cases h3 : m < 0
      · have d3 : decide (m < 0) = true := by simpa using h3
        clear h
        go_enter Tryz.func4, Tryz.ntmps4
        go_wp2
        go_ret
        exact ⟨rfl, Grew.refl _ w⟩
      · have d3 : decide (m < 0) = false := by simpa using h3
        have h4 : 4096 < m := by omega
        have d4 : decide (4096 < m) = true := by simpa using h4
        clear h
        go_enter Tryz.func4, Tryz.ntmps4
        go_wp2
        go_ret
        exact ⟨rfl, Grew.refl _ w⟩

theorem law4 (n m : Int) (ex ek nested mf na : Bool) (sl nl : Int) (w : World) (z : 0 < w.heap.size) (g0 : w.cell? ⟨0, 0, none⟩ = some (.int .u32 4294967295)) (g1 : w.cell? ⟨0, 1, none⟩ = some (.int .u32 4294967295)) :
    Calls Tryz.prog 4 #[.int .i64 n, .int .i64 m, .bool ex, .bool ek, .bool nested, .bool mf, .bool na, .int .i32 sl, .int .i32 nl] w (BoolPost true w) := by
  by_cases h : n < 0 ∨ 4096 < n ∨ m < 0 ∨ 4096 < m
  · exact law4_out n m ex ek nested mf na sl nl w h
  · obtain ⟨n, rfl⟩ := Int.eq_ofNat_of_zero_le (show 0 ≤ n by omega)
    obtain ⟨m, rfl⟩ := Int.eq_ofNat_of_zero_le (show 0 ≤ m by omega)
    exact law4_walk n m (by omega) (by omega) ex ek nested mf na sl nl w z g0 g1
#print axioms law4
end Go.Proofs.YtnikgjgjmpoglaaGreatFmt
