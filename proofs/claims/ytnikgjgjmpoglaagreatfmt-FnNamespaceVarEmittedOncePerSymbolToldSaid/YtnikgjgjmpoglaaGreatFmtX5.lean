/-
  FnNamespaceVarEmittedOncePerSymbol: the row's told statement, and the card. No conditions.
-/
import Derived.Test.YtnikgjgjmpoglaaGreatFmtS5
import Derived.Test.YtnikgjgjmpoglaaGreatFmtV2
import Derived.Test.YtnikgjgjmpoglaaGreatFmtTie
import Derived.Test.YtnikgjgjmpoglaaGreatFmtCards
import Derived.SevenTiedAt
import Derived.OpenVars
import Derived.ProofKit
namespace Go.Proofs.YtnikgjgjmpoglaaGreatFmt
open Go Go.RowKit Go.ChangeShapes Go.WideShapes Go.ChangeAt
open Go.Extern.Stop Go.Stop Go.Extern
set_option maxRecDepth 100000

theorem law5_lifted (os : Os) (started : os.Started) (H : Type) (enc : TypeId × Value → H) :
    ReturnsInTold none {} Tryz.checked os 5 .any Input.okWide ((OpenSpec.ofChange Rows.fnNamespaceVarEmittedOncePerSymbolSpec).preRow enc Tryz.prog Tryz.f5 Rows.fnNamespaceVarEmittedOncePerSymbolRow.domain false Rows.fnNamespaceVarEmittedOncePerSymbolRow.laid)
      (fun F => ((OpenSpec.ofChange Rows.fnNamespaceVarEmittedOncePerSymbolSpec).at F).post enc Tryz.prog Tryz.f5 false true false false) (aloneAtReturn Tryz.prog) nothingAlways := by
  refine returnsInTold_of_row (C := Tryz.checked) (s := OpenSpec.ofChange Rows.fnNamespaceVarEmittedOncePerSymbolSpec) (by kernel_rfl) own started (by kernel_rfl) Tryz.func5
    (wit_told (wit0 os) #[.int .i64 0, .bool false, .bool false] (wit_os os) (wit_shaped os _) (by kernel_rfl) (OpenSpec.preRow_of_B rfl 8 (by kernel_rfl) (by kernel_rfl) (wit_metH os _))) ?_
  intro F W base args ds gs before _ _ hval0 hW _ _ _ hL _
  have hval : ∀ (j : Nat) t v, Tryz.f5.params[j]? = some t → args[j]? = some v → Value.okWide Tryz.prog W .any base t v := hval0
  have hW' := hW
  obtain ⟨p, q, hA00, hV, rfl, _, _⟩ := hW
  have hA : DataW.TrodAll enc Tryz.prog W 0 (fun _ => true) true Tryz.f5.params.toList args.toList ds p := hA00
  rw [Tryz.params5] at hA hval
  obtain ⟨v0, l0, d0, m0, p0, q0, ha0, rfl, rfl, t0, hA0⟩ := trodAll_cons hA
  obtain ⟨v1, l1, d1, m1, p1, q1, ha1, rfl, rfl, t1, hA1⟩ := trodAll_cons hA0
  obtain ⟨v2, l2, d2, m2, p2, q2, ha2, rfl, rfl, t2, hA2⟩ := trodAll_cons hA1
  obtain ⟨hz1, rfl, rfl⟩ := trodAll_nil hA2
  obtain rfl : args = #[v0, v1, v2] := by cases args; simp_all
  obtain ⟨x0, rfl, rfl, rfl, wx0⟩ := open_int Tryz.underlying3 (hval 0 3 v0 rfl rfl) t0
  obtain ⟨x1, rfl, rfl, rfl⟩ := open_bool Tryz.underlying4 (hval 1 4 v1 rfl rfl) t1
  obtain ⟨x2, rfl, rfl, rfl⟩ := open_bool Tryz.underlying4 (hval 2 4 v2 rfl rfl) t2
  obtain ⟨z, g0, g1⟩ := of_laid hL
  refine (law5 x0 x1 x2 W z g0 g1).mono ?_
  rintro e W' ⟨rfl, hg⟩
  have hb : Below W.heap.size W W' := hg.below (Nat.le_refl _) (fun _ _ h => h)
  have hV' := Below.trodVars laidOut hb (by kernel_rfl) hV
  obtain ⟨g1', g2', g3', rfl⟩ := vars3 hV
  exact ⟨_, rfl, _, _, _, [], _, _, hW', trodAll_mk1 (shut_bool Tryz.underlying4 _), (trodAll_cons_mk (shut_int Tryz.underlying3 wx0) (trodAll_cons_mk (shut_bool Tryz.underlying4 _) (trodAll_cons_mk (shut_bool Tryz.underlying4 _) trodAll_mk0))), hV', hb.frame _, fun h => by cases h⟩
end Go.Proofs.YtnikgjgjmpoglaaGreatFmt
