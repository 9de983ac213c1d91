/-
  The map emittedNamespaceVars (map[ast.Ref]bool): a look-up and a store at its first two references. Conditions: it holds at most the two.
-/
import Derived.Test.YtnikgjgjmpoglaaGreatFmtF
import Derived.MapKept
import Derived.ChangeMaps
namespace Go.Proofs.YtnikgjgjmpoglaaGreatFmt
open Go Go.RowKit
open Go.ChangeMaps (setBlock)
set_option maxRecDepth 100000

def kref (j : Nat) : Value := .agg #[.int .u32 0, .int .u32 j]
def ent (j born : Nat) : MapEntry := { key := kref j, val := .bool true, born := born }

/-- What the map holds: the references in the order in which they were stored. -/
inductive Held | nil | only (j : Fin 2) | both (j : Fin 2)
def Held.has : Held → Fin 2 → Bool
  | .nil, _ => false
  | .only j, k => j == k
  | .both _, _ => true
def Held.put : Held → Fin 2 → Held
  | .nil, k => .only k
  | .only j, k => if j = k then .only j else .both j
  | .both j, _ => .both j
def other : Fin 2 → Fin 2 | 0 => 1 | 1 => 0
def Held.es : Held → Array MapEntry
  | .nil => #[]
  | .only j => #[ent j 0]
  | .both j => #[ent j 0, ent (other j) 1]
def Held.clock : Held → Nat
  | .nil => 0
  | .only _ => 1
  | .both _ => 2
def Held.obj (h : Held) : Obj := .map h.es h.clock

theorem run_check : ∀ (e : Bool) (j : Fin 2) (w : World), (Instr.checkKey e 10000 30 (kref j)).run Tryz.prog w = .ok () w
  | true, 0, _ => by kernel_rfl
  | true, 1, _ => by kernel_rfl
  | false, 0, _ => by kernel_rfl
  | false, 1, _ => by kernel_rfl

def Held.find : Held → Fin 2 → Option (Nat × Value)
  | .nil, _ => none
  | .only j, k => if j = k then some (0, .bool true) else none
  | .both j, k => if j = k then some (0, .bool true) else some (1, .bool true)

theorem run_find : ∀ (h : Held) (k : Fin 2) (w : World), (Instr.findKey 30 (kref k) h.es.toList).run Tryz.prog w = .ok (h.find k) w
  | .nil, 0, _ => by kernel_rfl
  | .nil, 1, _ => by kernel_rfl
  | .only 0, 0, _ => by kernel_rfl
  | .only 0, 1, _ => by kernel_rfl
  | .only 1, 0, _ => by kernel_rfl
  | .only 1, 1, _ => by kernel_rfl
  | .both 0, 0, _ => by kernel_rfl
  | .both 0, 1, _ => by kernel_rfl
  | .both 1, 0, _ => by kernel_rfl
  | .both 1, 1, _ => by kernel_rfl

theorem run_zero4 (w : World) : (zeroValue 4).run Tryz.prog w = .ok (.bool false) w := by kernel_rfl
theorem run_under70 (w : World) : (underlying 70).run Tryz.prog w = .ok (.map 30 4) w := by kernel_rfl

theorem run_look (h : Held) (k : Fin 2) (bm : Nat) (w : World) (hb : w.heap[bm]? = some h.obj) : (Instr.lookup 70 (.map (some bm)) (kref k) false).run Tryz.prog w = .ok (.bool (h.has k)) w := by
  have hg := run_getObj_map (P := Tryz.prog) w bm _ _ hb
  unfold Instr.lookup
  simp only [Sem.run_bind, run_under70, Result.andThen_ok, hg, Sem.run_pure, run_check, run_find]
  match h, k with
  | .nil, 0 => simp [Held.find, Held.has]
  | .nil, 1 => simp [Held.find, Held.has]
  | .only 0, 0 => simp [Held.find, Held.has]
  | .only 0, 1 => simp [Held.find, Held.has]
  | .only 1, 0 => simp [Held.find, Held.has]
  | .only 1, 1 => simp [Held.find, Held.has]
  | .both 0, 0 => simp [Held.find, Held.has]
  | .both 0, 1 => simp [Held.find, Held.has]
  | .both 1, 0 => simp [Held.find, Held.has]
  | .both 1, 1 => simp [Held.find, Held.has]

theorem run_setMap {w : World} {r : Nat} {es : Array MapEntry} {clock : Nat} (hb : w.heap[r]? = some (.map es clock)) (o : Obj) : (setObj r o).run Tryz.prog w = .ok () { w with heap := w.heap.setIfInBounds r o } := by
  simp [setObj, Sem.run, hb]

theorem run_store_new (h : Held) (k : Fin 2) (bm : Nat) (w : World) (hb : w.heap[bm]? = some h.obj) (hn : h.has k = false) : (Instr.mapUpdate 70 (.map (some bm)) (kref k) (.bool true)).run Tryz.prog w = .ok () (setBlock w bm (h.put k).obj) := by
  have hg := run_getObj_map (P := Tryz.prog) w bm _ _ hb
  have hs := run_setMap hb
  unfold Instr.mapUpdate
  simp only [Sem.run_bind, run_under70, Result.andThen_ok, hg, run_check, run_find]
  match h, k with
  | .nil, 0 => simp only [Held.find, hs]; rfl
  | .nil, 1 => simp only [Held.find, hs]; rfl
  | .only 0, 0 => simp [Held.has] at hn
  | .only 0, 1 => rw [show (Held.only 0).find 1 = none from rfl]; exact hs _
  | .only 1, 0 => rw [show (Held.only 1).find 0 = none from rfl]; exact hs _
  | .only 1, 1 => simp [Held.has] at hn
  | .both 0, 0 => simp [Held.has] at hn
  | .both 0, 1 => simp [Held.has] at hn
  | .both 1, 0 => simp [Held.has] at hn
  | .both 1, 1 => simp [Held.has] at hn

theorem sb_size (w : World) (k : Nat) (o : Obj) : (setBlock w k o).heap.size = w.heap.size := by simp [setBlock]
theorem blk_sb_other {w : World} {b k : Nat} {o o' : Obj} (h : w.heap[b]? = some o) (hne : k ≠ b) : (setBlock w k o').heap[b]? = some o := by
  simp [setBlock, hne, h]
theorem blk_sb_same {w : World} {k : Nat} {o o' : Obj} (h : w.heap[k]? = some o) : (setBlock w k o').heap[k]? = some o' := by
  simp [setBlock, blk_lt h]
theorem Grew.setBlock {S : Nat → Prop} {w w' : World} (h : Grew S w w') {k : Nat} (hk : S k) (o : Obj) : Grew S w (setBlock w' k o) :=
  ⟨h.os, h.tape, h.output, by rw [sb_size]; exact h.size, fun i hi hs => by
    have hne : k ≠ i := fun e => hs (e ▸ hk)
    simp only [Go.ChangeMaps.setBlock, Array.getElem?_setIfInBounds, hne, if_false]
    exact h.block i hi hs⟩
end Go.Proofs.YtnikgjgjmpoglaaGreatFmt
