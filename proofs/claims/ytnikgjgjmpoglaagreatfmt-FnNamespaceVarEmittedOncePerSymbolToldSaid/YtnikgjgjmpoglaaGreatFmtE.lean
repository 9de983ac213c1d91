/-
  recordUsage, useCount, linkSymbol, markModuleScope: one cell each. Conditions: no current part, no dead code, no TypeScript parse.
-/
import Derived.Test.YtnikgjgjmpoglaaGreatFmtD
namespace Go.Proofs.YtnikgjgjmpoglaaGreatFmt
open Go Go.RowKit
set_option maxRecDepth 100000

def UsagePost (bs i : Nat) (uc : Int) (w : World) (e : Ending) (w' : World) : Prop :=
  e = .returned (.tuple #[]) ∧ w' = ((w.setCell ⟨bs, i * 10 + 4, none⟩ (.int .u32 (uc + 1))).alloc (.cells #[.int .u32 0, .int .u32 i] 30)).drew

set_option maxHeartbeats 2000000 in
theorem recordUsage_any (b bs i n cap : Nat) (uc : Int) (w : World)
    (k350 : w.cell? ⟨b, 350, none⟩ = some (.bool false)) (k106 : w.cell? ⟨b, 106, none⟩ = some (.slice (some ⟨bs, 0, none⟩) n cap)) (k105 : w.cell? ⟨b, 105, none⟩ = some (.pointer none)) (k32 : w.cell? ⟨b, 32, none⟩ = some (.bool false))
    (hi : i < n) (_hn : n ≤ 10) (hbs : b ≠ bs) (u4 : w.cell? ⟨bs, i * 10 + 4, none⟩ = some (.int .u32 uc)) (f4 : w.frozen? ⟨bs, i * 10 + 4, none⟩ = false) (h0 : 0 ≤ uc) (h1 : uc ≤ 100000) :
    Calls Tryz.prog 37 #[.pointer (some ⟨b, 0, none⟩), .agg #[.int .u32 0, .int .u32 i]] w (UsagePost bs i uc w) := by
  have hb := World.block_lt_of_cell? w _ k350
  have hs := World.block_lt_of_cell? w _ u4
  simp only at hb hs
  have hb1 : b < w.heap.size + 1 := by omega
  have hs1 : bs < w.heap.size + 1 := by omega
  have hii : (i : Int) < (n : Int) := by omega
  have hsb : bs ≠ b := fun h => hbs h.symm
  go_enter Tryz.func37, Tryz.ntmps37
  go_wp2
  go_region
  go_wp2
  go_end0
  exact ⟨rfl, rfl⟩

set_option maxHeartbeats 2000000 in
theorem useCount_any (b bs i n cap : Nat) (uc : Int) (w : World)
    (k106 : w.cell? ⟨b, 106, none⟩ = some (.slice (some ⟨bs, 0, none⟩) n cap)) (hi : i < n) (_hn : n ≤ 10) (u4 : w.cell? ⟨bs, i * 10 + 4, none⟩ = some (.int .u32 uc)) :
    Calls Tryz.prog 15 #[.pointer (some ⟨b, 0, none⟩), .agg #[.int .u32 0, .int .u32 i]] w fun e w' => e = .returned (.int .u32 uc) ∧ Grew (fun _ => False) w w' := by
  have hb := World.block_lt_of_cell? w _ k106
  have hs := World.block_lt_of_cell? w _ u4
  simp only at hb hs
  have hb1 : b < w.heap.size + 1 := by omega
  have hs1 : bs < w.heap.size + 1 := by omega
  have hii : (i : Int) < (n : Int) := by omega
  go_enter Tryz.func15, Tryz.ntmps15
  go_wp2
  go_quiet (fail)
  go_wp2
  go_ret
  exact ⟨rfl, Grew.drewN (Grew.alloc (Grew.refl _ w) _) _⟩

def LinkPost (bs i j : Nat) (w : World) (e : Ending) (w' : World) : Prop :=
  e = .returned (.tuple #[]) ∧ w' = ((((w.setCell ⟨bs, i * 10 + 2, none⟩ (.int .u32 0)).setCell ⟨bs, i * 10 + 3, none⟩ (.int .u32 j)).alloc (.cells #[.int .u32 0, .int .u32 i] 30)).alloc (.cells #[.int .u32 0, .int .u32 j] 30)).drew

set_option maxHeartbeats 2000000 in
theorem linkSymbol_any (b bs i j n cap : Nat) (x y : Value) (w : World)
    (k106 : w.cell? ⟨b, 106, none⟩ = some (.slice (some ⟨bs, 0, none⟩) n cap)) (hi : i < n) (_hn : n ≤ 10) (hbs : b ≠ bs)
    (u2 : w.cell? ⟨bs, i * 10 + 2, none⟩ = some x) (u3 : w.cell? ⟨bs, i * 10 + 3, none⟩ = some y) (f2 : w.frozen? ⟨bs, i * 10 + 2, none⟩ = false) (f3 : w.frozen? ⟨bs, i * 10 + 3, none⟩ = false) :
    Calls Tryz.prog 19 #[.pointer (some ⟨b, 0, none⟩), .agg #[.int .u32 0, .int .u32 i], .agg #[.int .u32 0, .int .u32 j]] w (LinkPost bs i j w) := by
  have hb := World.block_lt_of_cell? w _ k106
  have hs := World.block_lt_of_cell? w _ u2
  simp only at hb hs
  have hb1 : b < w.heap.size + 1 := by omega
  have hs1 : bs < w.heap.size + 1 := by omega
  have hb2 : b < w.heap.size + 1 + 1 := by omega
  have hs2 : bs < w.heap.size + 1 + 1 := by omega
  have hii : (i : Int) < (n : Int) := by omega
  have hsb : bs ≠ b := fun h => hbs h.symm
  go_enter Tryz.func19, Tryz.ntmps19
  go_wp2
  go_region
  go_wp2
  go_end0
  exact ⟨rfl, rfl⟩

set_option maxHeartbeats 2000000 in
theorem markModule_any (b sc : Nat) (y : Value) (w : World) (k104 : w.cell? ⟨b, 104, none⟩ = some (.pointer (some ⟨sc, 0, none⟩))) (k187 : w.cell? ⟨b, 187, none⟩ = some y) (f187 : w.frozen? ⟨b, 187, none⟩ = false) :
    Calls Tryz.prog 8 #[.pointer (some ⟨b, 0, none⟩)] w fun e w' => e = .returned (.tuple #[]) ∧ w' = w.setCell ⟨b, 187, none⟩ (.pointer (some ⟨sc, 0, none⟩)) := by
  go_enter Tryz.func8, Tryz.ntmps8
  go_wp2
  go_end0
  exact ⟨rfl, rfl⟩
end Go.Proofs.YtnikgjgjmpoglaaGreatFmt
