/-
  FnNamespaceClosureCaseTable: the row's told statement, and the card. No conditions.
-/
import Derived.Test.YtnikgjgjmpoglaaGreatFmtS
import Derived.Test.YtnikgjgjmpoglaaGreatFmtV2
import Derived.Test.YtnikgjgjmpoglaaGreatFmtTie
import Derived.Test.YtnikgjgjmpoglaaGreatFmtCards
import Derived.SevenTiedAt
import Derived.OpenVars
import Derived.ProofKit
namespace Go.Proofs.YtnikgjgjmpoglaaGreatFmt
open Go Go.RowKit Go.ChangeShapes Go.WideShapes Go.ChangeAt
open Go.Extern.Stop Go.Stop Go.Extern
set_option maxRecDepth 100000

theorem law4_lifted (os : Os) (started : os.Started) (H : Type) (enc : TypeId × Value → H) :
    ReturnsInTold none {} Tryz.checked os 4 .any Input.okWide ((OpenSpec.ofChange Rows.fnNamespaceClosureCaseTableSpec).preRow enc Tryz.prog Tryz.f4 Rows.fnNamespaceClosureCaseTableRow.domain false Rows.fnNamespaceClosureCaseTableRow.laid)
      (fun F => ((OpenSpec.ofChange Rows.fnNamespaceClosureCaseTableSpec).at F).post enc Tryz.prog Tryz.f4 false true false false) (aloneAtReturn Tryz.prog) nothingAlways := by
  refine returnsInTold_of_row (C := Tryz.checked) (s := OpenSpec.ofChange Rows.fnNamespaceClosureCaseTableSpec) (by kernel_rfl) own started (by kernel_rfl) Tryz.func4
    (wit_told (wit0 os) #[.int .i64 0, .int .i64 0, .bool false, .bool false, .bool false, .bool false, .bool false, .int .i32 0, .int .i32 0] (wit_os os) (wit_shaped os _) (by kernel_rfl) (OpenSpec.preRow_of_B rfl 8 (by kernel_rfl) (by kernel_rfl) (wit_metH os _))) ?_
  intro F W base args ds gs before _ _ hval0 hW _ _ _ hL _
  have hval : ∀ (j : Nat) t v, Tryz.f4.params[j]? = some t → args[j]? = some v → Value.okWide Tryz.prog W .any base t v := hval0
  have hW' := hW
  obtain ⟨p, q, hA00, hV, rfl, _, _⟩ := hW
  have hA : DataW.TrodAll enc Tryz.prog W 0 (fun _ => true) true Tryz.f4.params.toList args.toList ds p := hA00
  rw [Tryz.params4] at hA hval
  obtain ⟨v0, l0, d0, m0, p0, q0, ha0, rfl, rfl, t0, hA0⟩ := trodAll_cons hA
  obtain ⟨v1, l1, d1, m1, p1, q1, ha1, rfl, rfl, t1, hA1⟩ := trodAll_cons hA0
  obtain ⟨v2, l2, d2, m2, p2, q2, ha2, rfl, rfl, t2, hA2⟩ := trodAll_cons hA1
  obtain ⟨v3, l3, d3, m3, p3, q3, ha3, rfl, rfl, t3, hA3⟩ := trodAll_cons hA2
  obtain ⟨v4, l4, d4, m4, p4, q4, ha4, rfl, rfl, t4, hA4⟩ := trodAll_cons hA3
  obtain ⟨v5, l5, d5, m5, p5, q5, ha5, rfl, rfl, t5, hA5⟩ := trodAll_cons hA4
  obtain ⟨v6, l6, d6, m6, p6, q6, ha6, rfl, rfl, t6, hA6⟩ := trodAll_cons hA5
  obtain ⟨v7, l7, d7, m7, p7, q7, ha7, rfl, rfl, t7, hA7⟩ := trodAll_cons hA6
  obtain ⟨v8, l8, d8, m8, p8, q8, ha8, rfl, rfl, t8, hA8⟩ := trodAll_cons hA7
  obtain ⟨hz1, rfl, rfl⟩ := trodAll_nil hA8
  obtain rfl : args = #[v0, v1, v2, v3, v4, v5, v6, v7, v8] := by cases args; simp_all
  obtain ⟨x0, rfl, rfl, rfl, wx0⟩ := open_int Tryz.underlying3 (hval 0 3 v0 rfl rfl) t0
  obtain ⟨x1, rfl, rfl, rfl, wx1⟩ := open_int Tryz.underlying3 (hval 1 3 v1 rfl rfl) t1
  obtain ⟨x2, rfl, rfl, rfl⟩ := open_bool Tryz.underlying4 (hval 2 4 v2 rfl rfl) t2
  obtain ⟨x3, rfl, rfl, rfl⟩ := open_bool Tryz.underlying4 (hval 3 4 v3 rfl rfl) t3
  obtain ⟨x4, rfl, rfl, rfl⟩ := open_bool Tryz.underlying4 (hval 4 4 v4 rfl rfl) t4
  obtain ⟨x5, rfl, rfl, rfl⟩ := open_bool Tryz.underlying4 (hval 5 4 v5 rfl rfl) t5
  obtain ⟨x6, rfl, rfl, rfl⟩ := open_bool Tryz.underlying4 (hval 6 4 v6 rfl rfl) t6
  obtain ⟨x7, rfl, rfl, rfl, wx7⟩ := open_int Tryz.underlying21 (hval 7 21 v7 rfl rfl) t7
  obtain ⟨x8, rfl, rfl, rfl, wx8⟩ := open_int Tryz.underlying21 (hval 8 21 v8 rfl rfl) t8
  obtain ⟨z, g0, g1⟩ := of_laid hL
  refine (law4 x0 x1 x2 x3 x4 x5 x6 x7 x8 W z g0 g1).mono ?_
  rintro e W' ⟨rfl, hg⟩
  have hb : Below W.heap.size W W' := hg.below (Nat.le_refl _) (fun _ _ h => h)
  have hV' := Below.trodVars laidOut hb (by kernel_rfl) hV
  obtain ⟨g1', g2', g3', rfl⟩ := vars3 hV
  exact ⟨_, rfl, _, _, _, [], _, _, hW', trodAll_mk1 (shut_bool Tryz.underlying4 _), (trodAll_cons_mk (shut_int Tryz.underlying3 wx0) (trodAll_cons_mk (shut_int Tryz.underlying3 wx1) (trodAll_cons_mk (shut_bool Tryz.underlying4 _) (trodAll_cons_mk (shut_bool Tryz.underlying4 _) (trodAll_cons_mk (shut_bool Tryz.underlying4 _) (trodAll_cons_mk (shut_bool Tryz.underlying4 _) (trodAll_cons_mk (shut_bool Tryz.underlying4 _) (trodAll_cons_mk (shut_int Tryz.underlying21 wx7) (trodAll_cons_mk (shut_int Tryz.underlying21 wx8) trodAll_mk0))))))))), hV', hb.frame _, fun h => by cases h⟩
end Go.Proofs.YtnikgjgjmpoglaaGreatFmt
