/-
  pushScopeForParsePass at a parser without a scope: one new scope, which is then the current one. Conditions: no scope yet, none in order.
-/
import Derived.Test.YtnikgjgjmpoglaaGreatFmtB
namespace Go.Proofs.YtnikgjgjmpoglaaGreatFmt
open Go Go.RowKit
set_option maxRecDepth 100000

theorem info244 : (Tryz.prog.info? 244).map (fun i => (i.zero, i.size, i.bytes)) = some (some (.agg #[.pointer none, .int .i32 0]), 2, 16) := by kernel_rfl

def Push1Post (b : Nat) (pc : Array Value) (w : World) (e : Ending) (w' : World) : Prop :=
  e = .returned (.int .i64 0) ∧ ∃ sc g cap sca, w.heap.size ≤ sc ∧ w.heap.size ≤ g ∧ sc ≠ g ∧ w'.heap[b]? = some (.cells ((pc.setIfInBounds 104 (.pointer (some ⟨sc, 0, none⟩))).setIfInBounds 177 (.slice (some ⟨g, 0, none⟩) 1 cap)) 185 (0, 0)) ∧
    w'.heap[sc]? = some (.cells sca 242 (0, 0)) ∧ sca[2]? = some (.slice none 0 0) ∧ sca[6]? = some (.int .i32 0) ∧ sca[14]? = some (.int .u8 0) ∧
    w'.ownsRow 0 244 2 (.slice (some ⟨g, 0, none⟩) 1 cap) 1 [.pointer (some ⟨sc, 0, none⟩), .int .i32 1] ∧ Grew (fun k => k = b) w w'

theorem push1_close {b : Nat} {pc sca : Array Value} {w w1 : World} {o1 o2 o4 : Obj} {g cap' : Nat} {v0 : Value}
    (hp : w.heap[b]? = some (.cells pc 185 (0, 0))) (hv : v0 = .pointer (some ⟨w.heap.size + 1 + 1, 0, none⟩))
    (q1 : w1.ownsRow 0 244 2 (.slice (some ⟨g, 0, none⟩) (0 + 1) cap') (0 + 1) ([] ++ [.pointer (some ⟨w.heap.size + 1 + 1, 0, none⟩), .int .i32 1]))
    (q2 : ((((((w.setCell ⟨b, 104, none⟩ v0).alloc o1).alloc o2).alloc (.cells sca 242)).alloc o4).drew).grownBy w1 (Value.slice none 0 0).ownBlock)
    (q3 : (Value.slice none 0 0).ownBlock = some g ∨ g = ((((((w.setCell ⟨b, 104, none⟩ v0).alloc o1).alloc o2).alloc (.cells sca 242)).alloc o4).drew).heap.size)
    (s2 : sca[2]? = some (.slice none 0 0)) (s6 : sca[6]? = some (.int .i32 0)) (s14 : sca[14]? = some (.int .u8 0)) :
    Push1Post b pc w (.returned (.int .i64 0)) (w1.setCell ⟨b, 177, none⟩ (.slice (some ⟨g, 0, none⟩) 1 cap')) := by
  subst hv
  have hbl : b < w.heap.size := blk_lt hp
  have hg : g = w.heap.size + 4 := by
    rcases q3 with h | h
    · simp [Value.ownBlock] at h
    · simpa using h
  have hb1 : w1.heap[b]? = some (.cells (pc.setIfInBounds 104 (.pointer (some ⟨w.heap.size + 1 + 1, 0, none⟩))) 185 (0, 0)) :=
    (q2.block b (by simp; omega) (by simp [Value.ownBlock])).trans (blk_drew (blk_alloc (blk_alloc (blk_alloc (blk_alloc (blk_set hp 104 _) _) _) _) _))
  have hs1 : w1.heap[w.heap.size + 1 + 1]? = some (.cells sca 242 (0, 0)) :=
    (q2.block (w.heap.size + 1 + 1) (by simp) (by simp [Value.ownBlock])).trans (blk_drew (blk_alloc (blk_at _ _ _ (by simp)) _))
  refine ⟨rfl, w.heap.size + 1 + 1, g, cap', sca, by omega, by omega, by omega, blk_set hb1 177 _, blk_set_other hs1 _ _ (by simp; omega), s2, s6, s14, ?_, ?_⟩
  · exact owns_same q1 fun k hk => by
      obtain rfl : g = k := by simpa [Value.ownBlock] using hk
      exact heap_set_other _ _ _ (by simp; omega)
  · refine Grew.setCell (S := fun k => k = b) (p := ⟨b, 177, none⟩) ?_ (.inl rfl) _
    exact Grew.trans (((((Grew.setCell (S := fun k => k = b) (p := ⟨b, 104, none⟩) (Grew.refl _ w) (.inl rfl) _).alloc o1).alloc o2).alloc (.cells sca 242)).alloc o4).drew (Grew.of_grownBy q2 fun k hk => by simp [Value.ownBlock] at hk)

set_option maxHeartbeats 2000000 in
theorem pushScope1 (b : Nat) (pc : Array Value) (w : World)
    (hp : w.heap[b]? = some (.cells pc 185 (0, 0))) (c104 : pc[104]? = some (.pointer none)) (c177 : pc[177]? = some (.slice none 0 0)) (hz : 0 < w.heap.size)
    (g0 : w.cell? ⟨0, 0, none⟩ = some (.int .u32 4294967295)) (g1 : w.cell? ⟨0, 1, none⟩ = some (.int .u32 4294967295)) :
    Calls Tryz.prog 20 #[.pointer (some ⟨b, 0, none⟩), .int .u8 6, .agg #[.int .i32 1]] w (Push1Post b pc w) := by
  have hbl : b < w.heap.size := blk_lt hp
  have hbl1 : b < w.heap.size + 1 := by omega
  have hbl2 : b < w.heap.size + 1 + 1 := by omega
  have hbl3 : b < w.heap.size + 1 + 1 + 1 := by omega
  have hz1 : 0 < w.heap.size + 1 := by omega
  have hz2 : 0 < w.heap.size + 1 + 1 := by omega
  have hz3 : 0 < w.heap.size + 1 + 1 + 1 := by omega
  have k104 : w.cell? ⟨b, 104, none⟩ = some (.pointer none) := (blk_cell hp 104).trans c104
  have k177 : w.cell? ⟨b, 177, none⟩ = some (.slice none 0 0) := (blk_cell hp 177).trans c177
  have f104 : w.frozen? ⟨b, 104, none⟩ = false := blk_free hp 104
  have hmm := @run_makeMap Tryz.prog
  clear c104 c177
  obtain ⟨i0, hi, hz0, hs0, hy0⟩ := info_parts info244
  have HP := Lib.hid hp
  have HI := Lib.hid hi
  have HZ := Lib.hid hz0
  have HS := Lib.hid hs0
  have HY := Lib.hid hy0
  clear hp hi hz0 hs0 hy0
  go_enter Tryz.func20, Tryz.ntmps20
  go_wp2
  go_region_law (refine step_append_lies _ rfl (.tmp 138) (.tmp 142) 164 rfl 0 244 i0 _ 2 16 Tryz.underlying164 HI.out HZ.out HS.out HY.out rfl (by decide) (.slice none 0 0) 0 [] (by simp [Act.eval]) (World.ownsRow_nil _ 0 244 2) ⟨w.heap.size + 1 + 1 + 1, 0, none⟩ 1 1 [.pointer (some ⟨w.heap.size + 1 + 1, 0, none⟩), .int .i32 1] (by simp [Act.eval]) rfl (World.news_of_block (cs := #[.pointer (some ⟨w.heap.size + 1 + 1, 0, none⟩), .int .i32 1]) (t := 244) (fr := (0, 0)) (blk_drew (blk_at _ _ _ (by simp)))) (by simp [Value.oneCell']) (by decide) (by decide) (by decide) (Nat.zero_le _) _ rfl ?_; intro g cap' w1 hown1 hgrow hat hlt; have q1 := Lib.hid hown1; have q2 := Lib.hid hgrow; have q3 := Lib.hid hat; clear hown1 hgrow hat; have hbk : w1.heap[b]? = some (.cells (pc.setIfInBounds 104 (.pointer (some ⟨w.heap.size + 1 + 1, 0, none⟩))) 185 (0, 0)) := (q2.out.block b (by simp; omega) (by simp [Value.ownBlock])).trans (blk_drew (blk_alloc (blk_alloc (blk_alloc (blk_alloc (blk_set HP.out 104 _) _) _) _) _)); have j177 : w1.cell? ⟨b, 177, none⟩ = some (.slice none 0 0) := (blk_cell hbk 177).trans ((Array.getElem?_setIfInBounds_ne (by decide)).trans ((blk_cell HP.out 177).symm.trans k177)); have jf : w1.frozen? ⟨b, 177, none⟩ = false := blk_free hbk 177; have q4 := Lib.hid hbk; clear hbk)
  all_goals go_wp2
  all_goals go_ret
  all_goals exact push1_close HP.out rfl q1.out q2.out q3.out rfl rfl rfl
end Go.Proofs.YtnikgjgjmpoglaaGreatFmt
