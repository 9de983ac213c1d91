/-
  identIs, bindingIs, oneArg, closureParts: true (or the parts) of what the function laid. Conditions: the blocks as listed.
-/
import Derived.Test.YtnikgjgjmpoglaaGreatFmtI
import Derived.Test.YtnikgjgjmpoglaaGreatFmtH5
import Derived.Deep.QuietTactic
import Derived.BigQuiet
namespace Go.Proofs.YtnikgjgjmpoglaaGreatFmt
open Go Go.RowKit
set_option maxRecDepth 100000

set_option maxHeartbeats 1000000 in
theorem identIs_yes (q j : Nat) (l : Int) (w : World) (hq : w.heap[q]? = some (ident j)) :
    Calls Tryz.prog 27 #[.agg #[.iface 249 (.pointer (some ⟨q, 0, none⟩)), .int .i32 l], .agg #[.int .u32 0, .int .u32 j]] w (BoolPost true w) := by
  have HQ := Lib.hid hq
  clear hq
  go_enter Tryz.func27, Tryz.ntmps27
  go_wp2_with fail
  refine (as_38 q l _).mono ?_
  rintro e W ⟨rfl, hg⟩
  have g : Grew (fun _ => False) w W := Grew.trans (((Grew.refl _ w).alloc _).alloc _) hg
  have i0 := hg.obj (blk_at _ _ (w.heap.size + 1) (by simp)) (fun h => h)
  have iq := g.obj HQ.out (fun h => h)
  have x0 : W.cell? ⟨w.heap.size + 1, 0, none⟩ = some (.int .u32 0) := (blk_cell i0 0).trans rfl
  have x1 : W.cell? ⟨w.heap.size + 1, 1, none⟩ = some (.int .u32 j) := (blk_cell i0 1).trans rfl
  have y0 : W.cell? ⟨q, 0, none⟩ = some (.int .u32 0) := (blk_cell iq 0).trans rfl
  have y1 : W.cell? ⟨q, 1, none⟩ = some (.int .u32 j) := (blk_cell iq 1).trans rfl
  have HG := Lib.hid g
  clear hg g i0 iq
  go_wp2_with fail
  go_quiet (fail)
  go_wp2
  go_ret
  exact ⟨rfl, HG.out.drewN _⟩

set_option maxHeartbeats 1000000 in
theorem bindingIs_yes (q j : Nat) (l : Int) (w : World) (hq : w.heap[q]? = some (.cells #[.int .u32 0, .int .u32 j] 198 (0, 0))) :
    Calls Tryz.prog 13 #[.agg #[.iface 194 (.pointer (some ⟨q, 0, none⟩)), .int .i32 l], .agg #[.int .u32 0, .int .u32 j]] w (BoolPost true w) := by
  have HQ := Lib.hid hq
  clear hq
  go_enter Tryz.func13, Tryz.ntmps13
  go_wp2_with fail
  refine (as_23 q l _).mono ?_
  rintro e W ⟨rfl, hg⟩
  have g : Grew (fun _ => False) w W := Grew.trans (((Grew.refl _ w).alloc _).alloc _) hg
  have i0 := hg.obj (blk_at _ _ (w.heap.size + 1) (by simp)) (fun h => h)
  have iq := g.obj HQ.out (fun h => h)
  have x0 : W.cell? ⟨w.heap.size + 1, 0, none⟩ = some (.int .u32 0) := (blk_cell i0 0).trans rfl
  have x1 : W.cell? ⟨w.heap.size + 1, 1, none⟩ = some (.int .u32 j) := (blk_cell i0 1).trans rfl
  have y0 : W.cell? ⟨q, 0, none⟩ = some (.int .u32 0) := (blk_cell iq 0).trans rfl
  have y1 : W.cell? ⟨q, 1, none⟩ = some (.int .u32 j) := (blk_cell iq 1).trans rfl
  have HG := Lib.hid g
  clear hg g i0 iq
  go_wp2_with fail
  go_quiet (fail)
  go_wp2
  go_ret
  exact ⟨rfl, HG.out.drewN _⟩

set_option maxHeartbeats 1000000 in
theorem oneArg_yes (lo qa a : Nat) (nl : Int) (w : World) (ha : ArgsAt lo w nl a qa) :
    Calls Tryz.prog 30 #[.slice (some ⟨qa, 0, none⟩) 1 1, .agg #[.int .u32 0, .int .u32 a]] w (BoolPost true w) := by
  obtain ⟨_, qb, _, hqa, hqb⟩ := ha
  have HA := Lib.hid hqa
  have HB := Lib.hid hqb
  clear hqa hqb
  go_enter Tryz.func30, Tryz.ntmps30
  go_wp2_with fail
  have G0 := Lib.hid ((Grew.refl (fun _ => False) w).alloc (.cells #[.int .u32 0, .int .u32 a] 30))
  refine wp_named (fun W => Grew (fun _ => False) w W ∧ W.heap[w.heap.size]? = some (.cells #[.int .u32 0, .int .u32 a] 30 (0, 0))) ⟨G0.out, blk_at _ _ _ rfl⟩ ?_
  intro W hW
  obtain ⟨g, hbx⟩ := hW
  have iq := g.obj HA.out (fun h => h)
  have y0 : W.cell? ⟨qa, 0, none⟩ = some (.iface 194 (.pointer (some ⟨qb, 0, none⟩))) := (blk_cell iq 0).trans rfl
  have y1 : W.cell? ⟨qa, 1, none⟩ = some (.int .i32 nl) := (blk_cell iq 1).trans rfl
  have x0 : W.cell? ⟨w.heap.size, 0, none⟩ = some (.int .u32 0) := (blk_cell hbx 0).trans rfl
  have x1 : W.cell? ⟨w.heap.size, 1, none⟩ = some (.int .u32 a) := (blk_cell hbx 1).trans rfl
  have hb1 := g.obj HB.out (fun h => h)
  have HB1 := Lib.hid hb1
  have HG := Lib.hid g
  clear g hbx iq hb1 G0
  go_region_held3 (fun w' => w'.cell? ⟨qa, 0, none⟩ = some (.iface 194 (.pointer (some ⟨qb, 0, none⟩))) ∧ w'.cell? ⟨qa, 1, none⟩ = some (.int .i32 nl) ∧ w'.cell? ⟨w.heap.size, 0, none⟩ = some (.int .u32 0) ∧ w'.cell? ⟨w.heap.size, 1, none⟩ = some (.int .u32 a)) (first | (refine ⟨?_, ?_, ?_, ?_⟩ <;> assumption) | (refine ⟨?_, ?_, ?_, ?_⟩ <;> (refine hg.cell ?_ (fun h => h); assumption))) (first | (go_at_call 13; refine (bindingIs_yes qb a nl W.drew HB1.out).mono ?_; rintro e w' ⟨rfl, hg⟩))
  go_wp2
  go_ret
  exact ⟨rfl, Grew.trans HG.out (Grew.trans (Grew.refl _ W).drew hg)⟩

set_option maxHeartbeats 1000000 in
theorem closureParts_arrow (q qa : Nat) (a7 : Option Addr) (m c7 : Nat) (sl : Int) (w : World) (hq : w.heap[q]? = some (earrow (.slice (some ⟨qa, 0, none⟩) 1 1) (.slice a7 m c7) sl)) :
    Calls Tryz.prog 29 #[.agg #[.iface 269 (.pointer (some ⟨q, 0, none⟩)), .int .i32 sl]] w fun e w' => e = .returned (.tuple #[.slice (some ⟨qa, 0, none⟩) 1 1, .slice a7 m c7, .bool true, .bool true, .bool true]) ∧ Grew (fun _ => False) w w' := by
  have HQ := Lib.hid hq
  clear hq
  go_enter Tryz.func29, Tryz.ntmps29
  go_wp2_with fail
  refine (as_39 q sl _).mono ?_
  rintro e W ⟨rfl, hg⟩
  have g : Grew (fun _ => False) w W := Grew.trans ((Grew.refl _ w).alloc _) hg
  have iq := g.obj HQ.out (fun h => h)
  have y0 : W.cell? ⟨q, 0, none⟩ = some (.slice (some ⟨qa, 0, none⟩) 1 1) := (blk_cell iq 0).trans rfl
  have y1 : W.cell? ⟨q, 1, none⟩ = some (.slice a7 m c7) := (blk_cell iq 1).trans rfl
  have y6 : W.cell? ⟨q, 6, none⟩ = some (.bool true) := (blk_cell iq 6).trans rfl
  have HG := Lib.hid g
  clear hg g iq
  go_wp2_with fail
  go_quiet (fail)
  go_wp2
  refine bodyPost_ret (v := .tuple #[.slice (some ⟨qa, 0, none⟩) 1 1, .slice a7 m c7, .bool true, .bool true, .bool true]) (by simp [results, Tryz.results29, go_sem]) rfl ⟨rfl, HG.out.drewN _⟩

set_option maxHeartbeats 1000000 in
theorem closureParts_fun (q qa : Nat) (a7 : Option Addr) (m c7 : Nat) (sl : Int) (w : World) (hq : w.heap[q]? = some (efun (.slice (some ⟨qa, 0, none⟩) 1 1) (.slice a7 m c7) sl)) :
    Calls Tryz.prog 29 #[.agg #[.iface 259 (.pointer (some ⟨q, 0, none⟩)), .int .i32 sl]] w fun e w' => e = .returned (.tuple #[.slice (some ⟨qa, 0, none⟩) 1 1, .slice a7 m c7, .bool false, .bool false, .bool true]) ∧ Grew (fun _ => False) w w' := by
  have HQ := Lib.hid hq
  clear hq
  go_enter Tryz.func29, Tryz.ntmps29
  go_wp2_with fail
  refine (as_39_no q sl _).mono ?_
  rintro e W ⟨rfl, hg⟩
  have g : Grew (fun _ => False) w W := Grew.trans ((Grew.refl _ w).alloc _) hg
  have i0 := hg.obj (blk_at _ _ w.heap.size rfl) (fun h => h)
  have x0 : W.cell? ⟨w.heap.size, 0, none⟩ = some (.iface 259 (.pointer (some ⟨q, 0, none⟩))) := (blk_cell i0 0).trans rfl
  have x1 : W.cell? ⟨w.heap.size, 1, none⟩ = some (.int .i32 sl) := (blk_cell i0 1).trans rfl
  have HG0 := Lib.hid g
  clear hg g i0
  go_wp2_with fail
  refine (as_40 q sl _).mono ?_
  rintro e W2 ⟨rfl, hg⟩
  have g : Grew (fun _ => False) w W2 := Grew.trans HG0.out hg
  have iq := g.obj HQ.out (fun h => h)
  have y1 : W2.cell? ⟨q, 1, none⟩ = some (.slice (some ⟨qa, 0, none⟩) 1 1) := (blk_cell iq 1).trans rfl
  have y2 : W2.cell? ⟨q, 2, none⟩ = some (.slice a7 m c7) := (blk_cell iq 2).trans rfl
  have HG := Lib.hid g
  clear hg g iq x0 x1
  go_wp2_with fail
  go_quiet (fail)
  go_wp2
  refine bodyPost_ret (v := .tuple #[.slice (some ⟨qa, 0, none⟩) 1 1, .slice a7 m c7, .bool false, .bool false, .bool true]) (by simp [results, Tryz.results29, go_sem]) rfl ⟨rfl, HG.out.drewN _⟩
end Go.Proofs.YtnikgjgjmpoglaaGreatFmt
