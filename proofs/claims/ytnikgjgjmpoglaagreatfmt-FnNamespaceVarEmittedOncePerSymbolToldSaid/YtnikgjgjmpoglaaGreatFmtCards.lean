/-
  DERIVED. GIVEN WITH THE SEED: THE CARDS: each row of YtnikgjgjmpoglaaGreatFmtRows.lean that lists a variable, with what it lists TIED to the program's text (the seventh form; the later family's looks); each row that meets fmt, with fmt's text TOLD by the authors' own Lean function (tested against real Go, not proved from fmt's source: count such statements apart). THE CARD IS WHAT COUNTS. Prove the row's statement (the work); the ties are given (YtnikgjgjmpoglaaGreatFmtTie.lean); close each card by the builder's one call (the guide's Derived/Test/ToyasCard.lean, 'card_holds'). Laid BY PROGRAM, IN A SANDBOX (cutbox-door.mjs). By AI agents, Wed Nov 11 2026. No macro, syntax, notation, axiom, sorry.
-/
import Derived.Test.YtnikgjgjmpoglaaGreatFmtRows
import GoSem.ClaimSeven
namespace Go.Proofs.YtnikgjgjmpoglaaGreatFmt
namespace Rows

/-- THE TOLD AND TIED CARD OF 'n011_223.FnEnumNestedUsesNamespaceForm'. -/
def fnEnumNestedUsesNamespaceFormCard : Claim7 := { stood := { row := fnEnumNestedUsesNamespaceFormRow, standIns := [], harness := (true, "c94e3fd34d7f08be69c9cbc6ab6b09fa77e82d311916b4dcdfc1812bb7245179"), looks := true }, told := true, laidByText := true, laidKinds := [.data, .data, .data, .data, .mapped, .pinned], laidTests := true, laidLooks := .later, goes := false }
def FnEnumNestedUsesNamespaceFormToldSaid : Prop := Claim7.holds Tryz.pinned (.plain (OpenSpec.ofChange fnEnumNestedUsesNamespaceFormSpec)) fnEnumNestedUsesNamespaceFormCard
/-- ITS FALSE NEIGHBOUR. Refute it at one input. -/
def FnEnumNestedUsesNamespaceFormToldWrongFalsely : Prop := Claim7.holds Tryz.pinned (.plain (OpenSpec.ofChange fnEnumNestedUsesNamespaceFormWrong)) fnEnumNestedUsesNamespaceFormCard

/-- THE TOLD AND TIED CARD OF 'n011_223.FnNamespaceClosureCaseTable'. -/
def fnNamespaceClosureCaseTableCard : Claim7 := { stood := { row := fnNamespaceClosureCaseTableRow, standIns := [], harness := (true, "c94e3fd34d7f08be69c9cbc6ab6b09fa77e82d311916b4dcdfc1812bb7245179"), looks := true }, told := true, laidByText := true, laidKinds := [.data, .data, .data, .data, .mapped, .pinned], laidTests := true, laidLooks := .later, goes := false }
def FnNamespaceClosureCaseTableToldSaid : Prop := Claim7.holds Tryz.pinned (.plain (OpenSpec.ofChange fnNamespaceClosureCaseTableSpec)) fnNamespaceClosureCaseTableCard
/-- ITS FALSE NEIGHBOUR. Refute it at one input. -/
def FnNamespaceClosureCaseTableToldWrongFalsely : Prop := Claim7.holds Tryz.pinned (.plain (OpenSpec.ofChange fnNamespaceClosureCaseTableWrong)) fnNamespaceClosureCaseTableCard

/-- THE TOLD AND TIED CARD OF 'n011_223.FnNamespaceVarEmittedOncePerSymbol'. -/
def fnNamespaceVarEmittedOncePerSymbolCard : Claim7 := { stood := { row := fnNamespaceVarEmittedOncePerSymbolRow, standIns := [], harness := (true, "c94e3fd34d7f08be69c9cbc6ab6b09fa77e82d311916b4dcdfc1812bb7245179"), looks := true }, told := true, laidByText := true, laidKinds := [.data, .data, .data, .data, .mapped, .pinned], laidTests := true, laidLooks := .later, goes := false }
def FnNamespaceVarEmittedOncePerSymbolToldSaid : Prop := Claim7.holds Tryz.pinned (.plain (OpenSpec.ofChange fnNamespaceVarEmittedOncePerSymbolSpec)) fnNamespaceVarEmittedOncePerSymbolCard
/-- ITS FALSE NEIGHBOUR. Refute it at one input. -/
def FnNamespaceVarEmittedOncePerSymbolToldWrongFalsely : Prop := Claim7.holds Tryz.pinned (.plain (OpenSpec.ofChange fnNamespaceVarEmittedOncePerSymbolWrong)) fnNamespaceVarEmittedOncePerSymbolCard
end Rows
end Go.Proofs.YtnikgjgjmpoglaaGreatFmt
