/-
  DERIVED. GIVEN WITH THE SEED: THE PROGRAM's TIES (one call each: nine closed facts by the kernel) AND EACH ROW's TIE, after the 31st guide's Derived/Test/Toyas{Tie, Card}.lean. No idea stands in it: it is a product of the set-up. Laid BY PROGRAM, IN A SANDBOX (cutbox-door.mjs). By AI agents, Wed Nov 11 2026. No macro, syntax, notation, axiom, sorry.
-/
import Derived.Test.YtnikgjgjmpoglaaGreatFmtRows
import Derived.LaidByTextLater
import Derived.SevenTiedAt
import Derived.LaidSub
import Derived.LaidOnce
namespace Go.Proofs.YtnikgjgjmpoglaaGreatFmt
open Go
set_option maxRecDepth 100000
theorem seatTie1 : Tryz.prog.laidByTextLater [("unicode.asciiFold", Rows.laid_unicode_asciiFold), ("unicode.caseOrbit", Rows.laid_unicode_caseOrbit), ("github.com/evanw/esbuild/pub/regexp.matchSize", Rows.laid_github_com_evanw_esbuild_pub_regexp_matchSize), ("github.com/evanw/esbuild/internal/ast.InvalidRef", Rows.laid_github_com_evanw_esbuild_internal_ast_InvalidRef), ("github.com/evanw/esbuild/internal/js_parser.permanentReservedProps", Rows.laid_github_com_evanw_esbuild_internal_js_parser_permanentReservedProps)] [.data, .data, .data, .data, .mapped] true :=
  Program.laidByTextLater_by_one 153 8 189 (by kernel_rfl) (by kernel_rfl) (by kernel_rfl) (by kernel_rfl) (by kernel_rfl) (by kernel_rfl) (fun _ _ => by kernel_rfl)
theorem pin_laid_unicode_CaseRanges : Tryz.pinned.checked.prog.pinnedFits "unicode.CaseRanges" = true := by kernel_rfl
theorem noOwnUnsafe : Tryz.pinned.checked.prog.headLifts.contains "ownunsafe" = false := by kernel_rfl
theorem fits1 : Tryz.pinned.checked.prog.listedFits [("unicode.asciiFold", Rows.laid_unicode_asciiFold), ("unicode.caseOrbit", Rows.laid_unicode_caseOrbit), ("github.com/evanw/esbuild/pub/regexp.matchSize", Rows.laid_github_com_evanw_esbuild_pub_regexp_matchSize), ("github.com/evanw/esbuild/internal/ast.InvalidRef", Rows.laid_github_com_evanw_esbuild_internal_ast_InvalidRef), ("github.com/evanw/esbuild/internal/js_parser.permanentReservedProps", Rows.laid_github_com_evanw_esbuild_internal_js_parser_permanentReservedProps), ("unicode.CaseRanges", Rows.laid_unicode_CaseRanges)] = true := by
  unfold Program.listedFits
  rw [noOwnUnsafe]
  kernel_rfl
theorem tie : Tryz.prog.laidByTextLater [("unicode.asciiFold", Rows.laid_unicode_asciiFold), ("unicode.caseOrbit", Rows.laid_unicode_caseOrbit), ("github.com/evanw/esbuild/pub/regexp.matchSize", Rows.laid_github_com_evanw_esbuild_pub_regexp_matchSize), ("github.com/evanw/esbuild/internal/ast.InvalidRef", Rows.laid_github_com_evanw_esbuild_internal_ast_InvalidRef), ("github.com/evanw/esbuild/internal/js_parser.permanentReservedProps", Rows.laid_github_com_evanw_esbuild_internal_js_parser_permanentReservedProps)] [.data, .data, .data, .data, .mapped] true :=
  Program.laidByTextLater.sub seatTie1 ["unicode.asciiFold", "unicode.caseOrbit", "github.com/evanw/esbuild/pub/regexp.matchSize", "github.com/evanw/esbuild/internal/ast.InvalidRef", "github.com/evanw/esbuild/internal/js_parser.permanentReservedProps"] (by kernel_rfl) (by kernel_rfl)
theorem fnEnumNestedUsesNamespaceForm_row_tie : Rows.fnEnumNestedUsesNamespaceFormRow.laidByTextAt .later Tryz.pinned [.data, .data, .data, .data, .mapped, .pinned] true :=
  OpenClaim.laidByTextAt_pinned rfl rfl tie rfl rfl rfl rfl (fun y hy _e => by
    simp only [Rows.fnEnumNestedUsesNamespaceFormRow, List.zip_cons_cons, List.zip_nil_right, List.mem_cons, List.mem_nil_iff, or_false] at hy
    rcases hy with rfl | rfl | rfl | rfl | rfl | rfl
    · cases _e
    · cases _e
    · cases _e
    · cases _e
    · cases _e
    · exact ⟨pin_laid_unicode_CaseRanges, by kernel_rfl⟩) fits1
theorem fnNamespaceClosureCaseTable_row_tie : Rows.fnNamespaceClosureCaseTableRow.laidByTextAt .later Tryz.pinned [.data, .data, .data, .data, .mapped, .pinned] true :=
  OpenClaim.laidByTextAt_pinned rfl rfl tie rfl rfl rfl rfl (fun y hy _e => by
    simp only [Rows.fnNamespaceClosureCaseTableRow, List.zip_cons_cons, List.zip_nil_right, List.mem_cons, List.mem_nil_iff, or_false] at hy
    rcases hy with rfl | rfl | rfl | rfl | rfl | rfl
    · cases _e
    · cases _e
    · cases _e
    · cases _e
    · cases _e
    · exact ⟨pin_laid_unicode_CaseRanges, by kernel_rfl⟩) fits1
theorem fnNamespaceVarEmittedOncePerSymbol_row_tie : Rows.fnNamespaceVarEmittedOncePerSymbolRow.laidByTextAt .later Tryz.pinned [.data, .data, .data, .data, .mapped, .pinned] true :=
  OpenClaim.laidByTextAt_pinned rfl rfl tie rfl rfl rfl rfl (fun y hy _e => by
    simp only [Rows.fnNamespaceVarEmittedOncePerSymbolRow, List.zip_cons_cons, List.zip_nil_right, List.mem_cons, List.mem_nil_iff, or_false] at hy
    rcases hy with rfl | rfl | rfl | rfl | rfl | rfl
    · cases _e
    · cases _e
    · cases _e
    · cases _e
    · cases _e
    · exact ⟨pin_laid_unicode_CaseRanges, by kernel_rfl⟩) fits1
end Go.Proofs.YtnikgjgjmpoglaaGreatFmt
