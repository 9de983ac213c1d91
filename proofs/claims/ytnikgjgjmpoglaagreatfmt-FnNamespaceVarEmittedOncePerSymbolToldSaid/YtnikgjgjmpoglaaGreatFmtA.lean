/-
  The common ground of the walks of n011_223: the parser's zero value, its cells, frames over several blocks. No conditions.
-/
import Derived.Test.YtnikgjgjmpoglaaGreatFmtProg
import Derived.WalkKit
import Derived.Handy
import Derived.BigQuiet
import Derived.Deep.QuietTactic
import Derived.KernelRfl
import Derived.Lib.Hide
import Derived.Laws.OwnMore
namespace Go.Proofs.YtnikgjgjmpoglaaGreatFmt
open Go Go.RowKit
set_option maxRecDepth 100000

/-- The zero value of 'parser', cell by cell. -/
noncomputable def zeroP : Array Value := match (zeroValue 185).run Tryz.prog default with | .ok v _ => v.cells | _ => #[]
theorem zeroP_run (w : World) : (zeroValue 185).run Tryz.prog w = .ok (.agg zeroP) w := by kernel_rfl
theorem zeroP_size : zeroP.size = 353 := by kernel_rfl
theorem z23 : zeroP[23]? = some (.int .u64 0) := by kernel_rfl
theorem z32 : zeroP[32]? = some (.bool false) := by kernel_rfl
theorem z41 : zeroP[41]? = some (.bool false) := by kernel_rfl
theorem z66 : zeroP[66]? = some (.int .u32 0) := by kernel_rfl
theorem z104 : zeroP[104]? = some (.pointer none) := by kernel_rfl
theorem z105 : zeroP[105]? = some (.pointer none) := by kernel_rfl
theorem z106 : zeroP[106]? = some (.slice none 0 0) := by kernel_rfl
theorem z161 : zeroP[161]? = some (.map none) := by kernel_rfl
theorem z168 : zeroP[168]? = some (.pointer none) := by kernel_rfl
theorem z177 : zeroP[177]? = some (.slice none 0 0) := by kernel_rfl
theorem z187 : zeroP[187]? = some (.pointer none) := by kernel_rfl
theorem z350 : zeroP[350]? = some (.bool false) := by kernel_rfl

theorem run_buildP (r : Nat) (w : World) : (Instr.build 185 #[(32, .map (some r))]).run Tryz.prog w = .ok (.agg (zeroP.setIfInBounds 161 (.map (some r)))) w := by kernel_rfl

/-- The parser as newParser lays it. -/
noncomputable def initP (mf : Bool) (f : Int) (r : Nat) : Array Value := ((zeroP.setIfInBounds 161 (.map (some r))).setIfInBounds 41 (.bool mf)).setIfInBounds 23 (.int .u64 f)

theorem wpList_buildP {ops : Array Oper} {rest : List Oper} {o : Oper} {a : Act} {w : World} {Q : Exit → Act → World → Prop} (hgd : o.guard = none) (x : Operand) (ho : o.op = .build 185 #[(32, x)])
    (r : Nat) (hx : a.eval x = .map (some r)) (h : wpList Tryz.prog ops Q rest (a.put o.dst (.agg (zeroP.setIfInBounds 161 (.map (some r))))) w) : wpList Tryz.prog ops Q (o :: rest) a w :=
  wpList_plain hgd fun _ hK => by
    unfold Oper.wp execOp
    simp only [ho, List.map_toArray, List.map_cons, List.map_nil, hx, Sem.run_bind, run_buildP, Sem.run_pure, Result.andThen_ok]
    exact hK _ _ h

set_option maxHeartbeats 2000000 in
theorem newParser_any (mf : Bool) (f : Int) (w : World) :
    Calls Tryz.prog 6 #[.bool mf, .int .u64 f] w fun e w' => e = .returned (.pointer (some ⟨w.heap.size + 1, 0, none⟩)) ∧ w' = (w.alloc (.map #[] 0)).alloc (.cells (initP mf f w.heap.size) 185) := by
  have hmm := @run_makeMap Tryz.prog
  go_enter Tryz.func6, Tryz.ntmps6
  go_wp2_with (refine wpList_buildP rfl _ rfl _ rfl ?_)
  go_ret
  exact ⟨rfl, rfl⟩

/-- All blocks of w but those of S are in w' as they were. -/
structure Grew (S : Nat → Prop) (w w' : World) : Prop where
  os : w'.os = w.os
  tape : w'.tape = w.tape
  output : w'.output = w.output
  size : w.heap.size ≤ w'.heap.size
  block : ∀ k, k < w.heap.size → ¬ S k → w'.heap[k]? = w.heap[k]?

namespace Grew
variable {S T : Nat → Prop} {w w' w'' : World}
theorem refl (S : Nat → Prop) (w : World) : Grew S w w := ⟨rfl, rfl, rfl, Nat.le_refl _, fun _ _ _ => rfl⟩
theorem trans (h : Grew S w w') (h' : Grew S w' w'') : Grew S w w'' :=
  ⟨h'.os.trans h.os, h'.tape.trans h.tape, h'.output.trans h.output, Nat.le_trans h.size h'.size, fun k hk hs => (h'.block k (Nat.lt_of_lt_of_le hk h.size) hs).trans (h.block k hk hs)⟩
theorem mono (h : Grew S w w') (hst : ∀ k, k < w.heap.size → S k → T k) : Grew T w w' := ⟨h.os, h.tape, h.output, h.size, fun k hk ht => h.block k hk fun hs => ht (hst k hk hs)⟩
theorem alloc (h : Grew S w w') (o : Obj) : Grew S w (w'.alloc o) :=
  ⟨h.os, h.tape, h.output, Nat.le_trans h.size (by simp), fun k hk hs => (Below.heap_alloc w' o k (Nat.lt_of_lt_of_le hk h.size)).trans (h.block k hk hs)⟩
theorem drew (h : Grew S w w') : Grew S w w'.drew := ⟨h.os, h.tape, h.output, h.size, h.block⟩
theorem drewN (h : Grew S w w') (n : Nat) : Grew S w (w'.drewN n) := ⟨h.os, h.tape, h.output, h.size, h.block⟩
theorem setCell (h : Grew S w w') {p : Addr} (hp : S p.block ∨ w.heap.size ≤ p.block) (u : Value) : Grew S w (w'.setCell p u) :=
  ⟨h.os, h.tape, h.output, by simpa [World.setCell] using h.size, fun k hk hs => (Below.heap_setCell w' p u k (by
    rintro rfl
    rcases hp with hp | hp
    · exact hs hp
    · omega)).trans (h.block k hk hs)⟩
theorem of_grownBy {row : Option Nat} (h : w.grownBy w' row) (hs : ∀ k, row = some k → S k) : Grew S w w' :=
  ⟨h.os, h.tape, h.output, h.size, fun k hk hn => h.block k hk fun e => hn (hs k e.symm)⟩
theorem below (h : Grew S w w') {N : Nat} (hN : N ≤ w.heap.size) (hs : ∀ k, k < N → ¬ S k) : Below N w w' :=
  ⟨h.os, h.tape, h.output, h.size, fun k hk => h.block k (Nat.lt_of_lt_of_le hk hN) (hs k hk)⟩
theorem obj (h : Grew S w w') {k : Nat} {o : Obj} (hb : w.heap[k]? = some o) (hs : ¬ S k) : w'.heap[k]? = some o :=
  (h.block k (Array.getElem?_eq_some_iff.1 hb).1 hs).trans hb
theorem cell (h : Grew S w w') {a : Addr} {v : Value} (hb : w.cell? a = some v) (hs : ¬ S a.block) : w'.cell? a = some v :=
  (World.cell?_of_block (h.block a.block (World.block_lt_of_cell? w a hb) hs)).trans hb
end Grew

theorem blk_lt {w : World} {b : Nat} {o : Obj} (h : w.heap[b]? = some o) : b < w.heap.size := (Array.getElem?_eq_some_iff.1 h).1
theorem blk_cell {w : World} {b : Nat} {pc : Array Value} {t : TypeId} {fr : Nat × Nat} (h : w.heap[b]? = some (.cells pc t fr)) (k : Nat) : w.cell? ⟨b, k, none⟩ = pc[k]? := by simp [World.cell?, h]
theorem blk_free {w : World} {b : Nat} {pc : Array Value} {t : TypeId} (h : w.heap[b]? = some (.cells pc t (0, 0))) (k : Nat) : w.frozen? ⟨b, k, none⟩ = false := by simp [World.frozen?, h]
theorem blk_set {w : World} {b : Nat} {pc : Array Value} {t : TypeId} {fr : Nat × Nat} (h : w.heap[b]? = some (.cells pc t fr)) (k : Nat) (v : Value) : (w.setCell ⟨b, k, none⟩ v).heap[b]? = some (.cells (pc.setIfInBounds k v) t fr) := by
  simp [World.setCell, Array.getElem?_modify, h]
theorem blk_set_other {w : World} {b : Nat} {o : Obj} (h : w.heap[b]? = some o) (a : Addr) (v : Value) (hne : a.block ≠ b) : (w.setCell a v).heap[b]? = some o := by
  simp [World.setCell, Array.getElem?_modify, hne, h]
theorem blk_alloc {w : World} {b : Nat} {o : Obj} (h : w.heap[b]? = some o) (o' : Obj) : (w.alloc o').heap[b]? = some o :=
  (Below.heap_alloc w o' b (blk_lt h)).trans h
theorem blk_at (w : World) (o : Obj) (k : Nat) (hk : k = w.heap.size) : (w.alloc o).heap[k]? = some o := by subst hk; exact heap_alloc_new w o
theorem blk_drew {w : World} {b : Nat} {o : Obj} (h : w.heap[b]? = some o) : w.drew.heap[b]? = some o := h
theorem blk_drewN {w : World} {b : Nat} {o : Obj} (h : w.heap[b]? = some o) (n : Nat) : (w.drewN n).heap[b]? = some o := h

theorem owns_same {w w' : World} {base : Nat} {e : TypeId} {size : Nat} {v : Value} {n : Nat} {xs : List Value} (h : w.ownsRow base e size v n xs) (hb : ∀ k, v.ownBlock = some k → w'.heap[k]? = w.heap[k]?) : w'.ownsRow base e size v n xs := by
  obtain ⟨hl, h⟩ := h
  refine ⟨hl, ?_⟩
  rcases h with h | ⟨g, cap, cur, rfl, h1, h2, h3⟩
  · exact .inl h
  · exact .inr ⟨g, cap, cur, rfl, h1, (hb g rfl).trans h2, h3⟩

/-- The world under a name, of which just the facts of Inv are known. -/
theorem wp_named {P : Program} {c : Code} {Q : Exit → Act → World → Prop} {a : Act} {w : World} (Inv : World → Prop) (hw : Inv w) (h : ∀ w', Inv w' → c.wp P Q a w') : c.wp P Q a w := h w hw

theorem heap_set_other (w : World) (a : Addr) (v : Value) {k : Nat} (hne : a.block ≠ k) : (w.setCell a v).heap[k]? = w.heap[k]? := by
  simp [World.setCell, Array.getElem?_modify, hne]

end Go.Proofs.YtnikgjgjmpoglaaGreatFmt
