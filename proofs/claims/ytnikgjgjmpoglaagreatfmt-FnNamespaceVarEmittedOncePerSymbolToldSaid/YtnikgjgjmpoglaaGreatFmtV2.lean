/-
  What the listed variables give the walks; the witness in the told form; closed facts. No conditions.
-/
import Derived.Test.YtnikgjgjmpoglaaGreatFmtV
namespace Go.Proofs.YtnikgjgjmpoglaaGreatFmt
open Go Go.RowKit
set_option maxRecDepth 100000

theorem own : ownKnob Tryz.prog.godebug = none := by kernel_rfl
theorem laidOut : laidOutB Tryz.prog = true := by kernel_rfl

theorem wit_metH (os : Os) (args : Array Value) : laidMetH Tryz.prog Rows.fnNamespaceClosureCaseTableRow.laid ((wit0 os).forCall (fun _ _ => 0) ⟨#[], args, []⟩).memory := by
  rw [MakeChecks.laidMetH_plain _ _ _ (by kernel_rfl)]
  exact wit_met os args

theorem wit_told {H : Type} {enc : TypeId × Value → H} {C : Checked} {os : Os} {f : FuncId} {fn : Func} {s : OpenSpec} {conds : List PathCond} {apart : Bool} {laid : List (String × DataW Unit)} (w0 : World) (args : Array Value) (hos : w0.os = os)
    (hsh : (w0.forCall (fun _ _ => 0) ⟨#[], args, []⟩).Shaped C.prog)
    (hok : Input.okWideB C.prog (w0.forCall (fun _ _ => 0) ⟨#[], args, []⟩) f ⟨#[], args, []⟩ = true)
    (hrow : s.preRow enc C.prog fn conds apart laid (w0.forCall (fun _ _ => 0) ⟨#[], args, []⟩).memory args) (F : Stop.Interp) :
    ∃ (w : World) (tape : Tape) (i : Input), w.os = os ∧ (w.forCall tape i).Shaped C.prog ∧ i.vars = [] ∧ Input.okWide C.prog (w.forCall tape i) .any w.heap.size f i ∧
      s.preRow enc C.prog fn conds apart laid (w.forCall tape i).memory i.args ∧ ({} : Assume).holds C.prog (lone (Frame.enter C.prog f i.args .normal) [] (w.forCall tape i)) ∧ F.answers tape :=
  ⟨w0, F.over fun _ _ => 0, ⟨#[], args, []⟩, hos, hsh, (Input.okWide_of_okWideB (base := 0) hok).1, (Input.okWide_of_okWideB hok).2, hrow, by
    simp only [Assume.holds]
    exact ⟨by simp, by simp, fun _ => F.over_modest Modest.zero, by simp, by simp⟩, F.over_answers _⟩

theorem gInvalid : Tryz.prog.globalNamed "github.com/evanw/esbuild/internal/ast.InvalidRef" = some 0 := by kernel_rfl
theorem tInvalid : (Tryz.prog.globals[0]?).map (·.type) = some 30 := by kernel_rfl

theorem of_laid {W : World} (h : laidMetH Tryz.prog Rows.fnNamespaceClosureCaseTableRow.laid W) : 0 < W.heap.size ∧ W.cell? ⟨0, 0, none⟩ = some (.int .u32 4294967295) ∧ W.cell? ⟨0, 1, none⟩ = some (.int .u32 4294967295) := by
  rw [MakeChecks.laidMetH_plain _ _ _ (by kernel_rfl)] at h
  obtain ⟨g, t, cs, fuel, p, hg, ht, hv, hd⟩ := Lib.laidMet.reads h (n := "github.com/evanw/esbuild/internal/ast.InvalidRef") (d := Rows.laid_github_com_evanw_esbuild_internal_ast_InvalidRef) (by simp [Rows.fnNamespaceClosureCaseTableRow])
  obtain rfl := Option.some.inj (gInvalid.symm.trans hg)
  obtain rfl := Option.some.inj (tInvalid.symm.trans ht)
  obtain ⟨y0, y1, n, hx, hl, h0, h1⟩ := Go.ChangeShapes.trod_struct2 Tryz.underlying30 hd
  have c0 := World.var?_cell hg hv 0
  have c1 := World.var?_cell hg hv 1
  have e28 : Tryz.prog.cellsOf 28 = 1 := by kernel_rfl
  have e30 : Tryz.prog.cellsOf 30 = 2 := by kernel_rfl
  obtain ⟨n0, a0, x0, _⟩ := DataW.trod_int Tryz.underlying28 h0
  obtain ⟨n1, a1, x1, _⟩ := DataW.trod_int Tryz.underlying28 h1
  subst x0 x1
  simp only [e28] at a0 a1
  simp only [Rows.laid_github_com_evanw_esbuild_internal_ast_InvalidRef, Prod.mk.injEq, DataW.agg.injEq, List.cons.injEq, DataW.lit.injEq, Lit.int.injEq, true_and, and_true] at hx
  obtain ⟨⟨rfl, rfl⟩, _⟩ := hx
  rw [e30] at hl
  obtain ⟨l⟩ := cs
  match l, hl with
  | [c, d], _ =>
    simp at a0 a1 c0 c1
    subst a0 a1
    exact ⟨Nat.lt_of_le_of_lt (Nat.zero_le _) (World.block_lt_of_cell? W _ c0), c0, c1⟩

theorem vars3 {H : Type} {enc : TypeId × Value → H} {P : Program} {w : World} {sp : Nat → Bool} {a b c : String} {gs : List (DataW H)} {ps : List MemPlace} (h : DataW.TrodVars enc P w sp [a, b, c] gs ps) : ∃ x y z, gs = [x, y, z] := by
  match gs, h with
  | [x, y, z], _ => exact ⟨x, y, z, rfl⟩
  | [], h => exact h.elim
  | [_], h => obtain ⟨_, _, _, _, _, _, _, _, _, _, h, _⟩ := h; exact h.elim
  | [_, _], h => obtain ⟨_, _, _, _, _, _, _, _, _, _, ⟨_, _, _, _, _, _, _, _, _, _, h, _⟩, _⟩ := h; exact h.elim
  | _ :: _ :: _ :: _ :: _, h => obtain ⟨_, _, _, _, _, _, _, _, _, _, ⟨_, _, _, _, _, _, _, _, _, _, ⟨_, _, _, _, _, _, _, _, _, _, h, _⟩, _⟩, _⟩ := h; exact h.elim
end Go.Proofs.YtnikgjgjmpoglaaGreatFmt
