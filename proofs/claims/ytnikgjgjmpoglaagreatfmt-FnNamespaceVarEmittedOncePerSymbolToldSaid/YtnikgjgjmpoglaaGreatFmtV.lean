/-
  A start that fits the rows: the door's own heap, unicode's case ranges laid behind it; and what the listed variables give the walks. No conditions.
-/
import Derived.Test.YtnikgjgjmpoglaaGreatFmtRows
import Derived.ProofKit
import Derived.Lay
import Derived.LaidMore
import Derived.LaidOnce
import Derived.Lib.LaidIn
import Derived.Lib.LaidU8
import Derived.SevenTiedAt
import Derived.Stop.JoinedTold
namespace Go.Proofs.YtnikgjgjmpoglaaGreatFmt
open Go Go.RowKit
set_option maxRecDepth 100000

noncomputable def wit0 (os : Os) : World := (World.doorLaid Tryz.prog 153 os).layVars Tryz.prog [("unicode.CaseRanges", Rows.laid_unicode_CaseRanges)]
theorem wit_os (os : Os) : (wit0 os).os = os := World.layVars_os _ _ _
noncomputable def elders : List Nat := (List.range (World.doorLaid Tryz.prog 153 default).heap.size).filter (· != 5)

theorem wit_shaped (os : Os) (args : Array Value) : ((wit0 os).forCall (fun _ _ => 0) ⟨#[], args, []⟩).Shaped Tryz.prog :=
  World.shaped_of_ZipB (by kernel_rfl) (by kernel_rfl)

theorem wit_met (os : Os) (args : Array Value) : laidMet Tryz.prog Rows.fnNamespaceClosureCaseTableRow.laid ((wit0 os).forCall (fun _ _ => 0) ⟨#[], args, []⟩).memory :=
  laidMet_layVars (w0 := World.doorLaid Tryz.prog 153 os) ["unicode.CaseRanges"] elders (by rfl) (by kernel_rfl) (by kernel_rfl) (LaidIn.of_run elders 8 (by kernel_rfl) (by kernel_rfl) (by kernel_rfl) (by kernel_rfl))
end Go.Proofs.YtnikgjgjmpoglaaGreatFmt
