/-
  pushScopeForParsePass at a parser with one scope (location 1): a second scope under it (location 2), which is then the current one. Conditions: those facts.
-/
import Derived.Test.YtnikgjgjmpoglaaGreatFmtC
namespace Go.Proofs.YtnikgjgjmpoglaaGreatFmt
open Go Go.RowKit
set_option maxRecDepth 100000

theorem info123 : (Tryz.prog.info? 123).map (fun i => (i.zero, i.size, i.bytes)) = some (some (.pointer none), 1, 8) := by kernel_rfl

def Push2Post (b sc gs : Nat) (pc : Array Value) (w : World) (e : Ending) (w' : World) : Prop :=
  e = .returned (.int .i64 1) ∧ ∃ sc2 v, w.heap.size ≤ sc2 ∧ (∃ c2, w'.heap[sc2]? = some (.cells c2 242 (0, 0))) ∧ (∃ c3, w'.heap[sc]? = some (.cells c3 242 (0, 0))) ∧ w'.heap[b]? = some (.cells ((pc.setIfInBounds 104 (.pointer (some ⟨sc2, 0, none⟩))).setIfInBounds 177 v) 185 (0, 0)) ∧ Grew (fun k => k = b ∨ k = sc ∨ k = gs) w w'

set_option maxHeartbeats 2000000 in
theorem pushScope2 (b sc gs cap : Nat) (pc sca : Array Value) (w : World)
    (hp : w.heap[b]? = some (.cells pc 185 (0, 0))) (c104 : pc[104]? = some (.pointer (some ⟨sc, 0, none⟩))) (c177 : pc[177]? = some (.slice (some ⟨gs, 0, none⟩) 1 cap)) (hz : 0 < w.heap.size)
    (hs : w.heap[sc]? = some (.cells sca 242 (0, 0))) (s2 : sca[2]? = some (.slice none 0 0)) (s6 : sca[6]? = some (.int .i32 0)) (s14 : sca[14]? = some (.int .u8 0))
    (hown : w.ownsRow 0 244 2 (.slice (some ⟨gs, 0, none⟩) 1 cap) 1 [.pointer (some ⟨sc, 0, none⟩), .int .i32 1]) (hbs : b ≠ sc) (hbg : b ≠ gs) (hsg : sc ≠ gs)
    (g0 : w.cell? ⟨0, 0, none⟩ = some (.int .u32 4294967295)) (g1 : w.cell? ⟨0, 1, none⟩ = some (.int .u32 4294967295)) :
    Calls Tryz.prog 20 #[.pointer (some ⟨b, 0, none⟩), .int .u8 6, .agg #[.int .i32 2]] w (Push2Post b sc gs pc w) := by
  have hbl : b < w.heap.size := blk_lt hp
  have hbl1 : b < w.heap.size + 1 := by omega
  have hbl2 : b < w.heap.size + 1 + 1 := by omega
  have hbl3 : b < w.heap.size + 1 + 1 + 1 := by omega
  have hsl : sc < w.heap.size := blk_lt hs
  have hsl1 : sc < w.heap.size + 1 := by omega
  have hsl2 : sc < w.heap.size + 1 + 1 := by omega
  have hsl3 : sc < w.heap.size + 1 + 1 + 1 := by omega
  have hz1 : 0 < w.heap.size + 1 := by omega
  have hz2 : 0 < w.heap.size + 1 + 1 := by omega
  have hz3 : 0 < w.heap.size + 1 + 1 + 1 := by omega
  have k104 : w.cell? ⟨b, 104, none⟩ = some (.pointer (some ⟨sc, 0, none⟩)) := (blk_cell hp 104).trans c104
  have k177 : w.cell? ⟨b, 177, none⟩ = some (.slice (some ⟨gs, 0, none⟩) 1 cap) := (blk_cell hp 177).trans c177
  have f104 : w.frozen? ⟨b, 104, none⟩ = false := blk_free hp 104
  have t2 : w.cell? ⟨sc, 2, none⟩ = some (.slice none 0 0) := (blk_cell hs 2).trans s2
  have t6 : w.cell? ⟨sc, 6, none⟩ = some (.int .i32 0) := (blk_cell hs 6).trans s6
  have t14 : w.cell? ⟨sc, 14, none⟩ = some (.int .u8 0) := (blk_cell hs 14).trans s14
  have ft2 : w.frozen? ⟨sc, 2, none⟩ = false := blk_free hs 2
  have hgl := (hown.lt gs rfl).2
  have hgl1 : gs < w.heap.size + 1 := by omega
  have hgl2 : gs < w.heap.size + 1 + 1 := by omega
  have hgl3 : gs < w.heap.size + 1 + 1 + 1 := by omega
  have hgl4 : gs < w.heap.size + 1 + 1 + 1 + 1 := by omega
  have hbl4 : b < w.heap.size + 1 + 1 + 1 + 1 := by omega
  have hsl4 : sc < w.heap.size + 1 + 1 + 1 + 1 := by omega
  have u1 : w.cell? ⟨gs, 1, none⟩ = some (.int .i32 1) := hown.cellAt 1 (by decide)
  have hmm := @run_makeMap Tryz.prog
  clear c104 c177 s2 s6 s14
  obtain ⟨i0, hi, hz0, hs0, hy0⟩ := info_parts info244
  obtain ⟨j0, hj, hjz, hjs, hjy⟩ := info_parts info123
  have HP := Lib.hid hp
  have HT := Lib.hid hs
  have HO := Lib.hid hown
  have HI := Lib.hid hi
  have HZ := Lib.hid hz0
  have HS := Lib.hid hs0
  have HY := Lib.hid hy0
  have JI := Lib.hid hj
  have JZ := Lib.hid hjz
  have JS := Lib.hid hjs
  have JY := Lib.hid hjy
  clear hp hi hz0 hs0 hy0 hs hown hj hjz hjs hjy
  go_enter Tryz.func20, Tryz.ntmps20
  go_wp2_with fail
  go_quiet (fail)
  go_wp2
  refine wp_named (fun W => W.heap.size = w.heap.size + 5 ∧ W.heap[b]? = some (.cells (pc.setIfInBounds 104 (.pointer (some ⟨w.heap.size + 1 + 1, 0, none⟩))) 185 (0, 0)) ∧ W.ownsRow 0 244 2 (.slice (some ⟨gs, 0, none⟩) 1 cap) 1 [.pointer (some ⟨sc, 0, none⟩), .int .i32 1] ∧
    Grew (fun k => k = b ∨ k = sc) w W ∧ W.cell? ⟨w.heap.size, 0, none⟩ = some (.int .i32 2) ∧ (∃ c2, W.heap[w.heap.size + 1 + 1]? = some (.cells c2 242 (0, 0))) ∧ ∃ c3, W.heap[sc]? = some (.cells c3 242 (0, 0))) ⟨by simp, ?_, ?_, ?_, by go_simp, ⟨_, blk_drewN (blk_alloc (blk_alloc (blk_at _ _ _ (by simp)) _) _) _⟩,
    ⟨_, blk_drewN (blk_alloc (blk_alloc (blk_alloc (blk_alloc (blk_alloc (blk_set_other (blk_set HT.out 2 _) _ _ hbs) _) _) _) _) _) _⟩⟩ ?_
  · exact blk_drewN (blk_alloc (blk_alloc (blk_alloc (blk_alloc (blk_alloc (blk_set (blk_set_other HP.out _ _ (fun h => hbs h.symm)) 104 _) _) _) _) _) _) _
  · refine owns_same HO.out fun k hk => ?_
    obtain rfl : gs = k := by simpa [Value.ownBlock] using hk
    obtain ⟨o, ho⟩ : ∃ o, w.heap[gs]? = some o := ⟨_, Array.getElem?_eq_getElem hgl⟩
    rw [ho]
    exact blk_drewN (blk_alloc (blk_alloc (blk_alloc (blk_alloc (blk_alloc (blk_set_other (blk_set_other ho _ _ hsg) _ _ hbg) _) _) _) _) _) _
  · refine Grew.drewN (Grew.alloc (Grew.alloc (Grew.alloc (Grew.alloc (Grew.alloc (Grew.setCell (Grew.setCell (Grew.refl _ w) (.inl (.inr rfl)) _) (.inl (.inl rfl)) _) _) _) _) _) _) _
  intro W hW
  obtain ⟨W1, W2, W3, W4, W5, ⟨c2, W6⟩, c3, W7⟩ := hW
  clear k104 t2 t6 t14 ft2 u1 g0 g1 f104
  have j5 : W.cell? ⟨b, 177, none⟩ = some (.slice (some ⟨gs, 0, none⟩) 1 cap) := (blk_cell W2 177).trans ((Array.getElem?_setIfInBounds_ne (by decide)).trans ((blk_cell HP.out 177).symm.trans k177))
  clear k177
  have V1 := Lib.hid W1
  have V2 := Lib.hid W2
  have V3 := Lib.hid W3
  have V4 := Lib.hid W4
  have V6 := Lib.hid W6
  have V7 := Lib.hid W7
  have hbW := blk_lt W2
  have hbW1 : b < W.heap.size + 1 := by omega
  have h0W : w.heap.size < W.heap.size := by omega
  have h0W1 : w.heap.size < W.heap.size + 1 := by omega
  clear W1 W2 W3 W4 W6 W7
  go_region_law (refine step_append_lies _ rfl (.tmp 138) (.tmp 142) 164 rfl 0 244 i0 _ 2 16 Tryz.underlying164 HI.out HZ.out HS.out HY.out rfl (by decide) (.slice (some ⟨gs, 0, none⟩) 1 cap) 1 _ (by simp [Act.eval]) (V3.out.alloc _) ⟨W.heap.size, 0, none⟩ 1 1 [.pointer (some ⟨w.heap.size + 1 + 1, 0, none⟩), .int .i32 2] (by simp [Act.eval]) rfl (World.news_of_block (cs := #[.pointer (some ⟨w.heap.size + 1 + 1, 0, none⟩), .int .i32 2]) (t := 244) (fr := (0, 0)) (blk_drew (blk_at _ _ _ rfl))) (by simp [Value.oneCell']) (by decide) (by decide) (by decide) (Nat.zero_le _) _ rfl ?_; intro g cap' w1 hown1 hgrow hat hlt; have q2 := Lib.hid hgrow; clear hown1 hgrow hat; have hbk : w1.heap[b]? = some (.cells (pc.setIfInBounds 104 (.pointer (some ⟨w.heap.size + 1 + 1, 0, none⟩))) 185 (0, 0)) := (q2.out.block b (by simp; omega) (by simp [Value.ownBlock]; exact hbg)).trans (blk_drew (blk_alloc V2.out _)); have j177 : w1.cell? ⟨b, 177, none⟩ = some (.slice (some ⟨gs, 0, none⟩) 1 cap) := (blk_cell hbk 177).trans ((blk_cell V2.out 177).symm.trans j5); have jf : w1.frozen? ⟨b, 177, none⟩ = false := blk_free hbk 177; have q4 := Lib.hid hbk; clear hbk)
  all_goals go_wp2
  all_goals go_ret
  all_goals refine ⟨rfl, w.heap.size + 1 + 1, _, by omega, ⟨c2, blk_set_other ((q2.out.block (w.heap.size + 1 + 1) (by have := blk_lt V6.out; simp; omega) (by simp [Value.ownBlock]; omega)).trans (blk_drew (blk_alloc V6.out _))) _ _ (by simp; omega)⟩, ⟨c3, blk_set_other ((q2.out.block sc (by have := blk_lt V7.out; simp; omega) (by simp [Value.ownBlock]; exact hsg)).trans (blk_drew (blk_alloc V7.out _))) _ _ hbs⟩, blk_set q4.out 177 _, ?_⟩
  all_goals refine Grew.setCell (S := fun k => k = b ∨ k = sc ∨ k = gs) (p := ⟨b, 177, none⟩) ?_ (.inl (.inl rfl)) _
  all_goals refine Grew.trans ((V4.out.mono (fun k _ h => by rcases h with h | h <;> simp [h])).alloc _).drew (Grew.of_grownBy q2.out fun k hk => by simp [Value.ownBlock] at hk; exact .inr (.inr hk.symm))
end Go.Proofs.YtnikgjgjmpoglaaGreatFmt
