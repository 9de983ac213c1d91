/-
  mkStmts(n): a row of n expression statements, the i-th at location i, each in a block of its own. Condition: n at most 4096.
-/
import Derived.Test.YtnikgjgjmpoglaaGreatFmtE
namespace Go.Proofs.YtnikgjgjmpoglaaGreatFmt
open Go Go.RowKit
set_option maxRecDepth 100000

theorem info45 : (Tryz.prog.info? 45).map (fun i => (i.zero, i.size, i.bytes)) = some (some (.agg #[.nilIface, .int .i32 0]), 2, 24) := by kernel_rfl

/-- The first k statements of a row: expression statements, the i-th at location i. N: no block of theirs lies below N, none is r. -/
def StmtsTo (N r : Nat) (w : World) (xs : List Value) (k : Nat) : Prop :=
  ∀ i, i < k → ∃ q z, N ≤ q ∧ q ≠ r ∧ xs[2 * i]? = some (.iface 199 (.pointer (some ⟨q, 0, none⟩))) ∧ xs[2 * i + 1]? = some (.int .i32 i) ∧ w.heap[q]? = some (.cells #[.iface 190 z, .int .i32 i, .bool false] 206 (0, 0))

def MkPost (n : Nat) (w : World) (e : Ending) (w' : World) : Prop :=
  ∃ r xs, e = .returned (.slice (some ⟨r, 0, none⟩) n n) ∧ r = w.heap.size ∧ w'.ownsRow 0 45 2 (.slice (some ⟨r, 0, none⟩) n n) n xs ∧ StmtsTo w.heap.size r w' xs n ∧ Grew (fun _ => False) w w'

def MkInv (n : Nat) (w : World) (k : Nat) (wr : World) : Prop :=
  ∃ xs, wr.ownsRow 0 45 2 (.slice (some ⟨w.heap.size, 0, none⟩) n n) n xs ∧ StmtsTo w.heap.size w.heap.size wr xs k ∧ Grew (fun _ => False) w wr

theorem mk_lt {n k : Nat} {w wr : World} (h : MkInv n w k wr) : w.heap.size < wr.heap.size := by
  obtain ⟨xs, ho, _, _⟩ := h
  exact (ho.lt _ rfl).2

theorem mk_cells {n k : Nat} {w wr : World} (h : MkInv n w k wr) (hk : k < n) : ∃ u0 u1, wr.cell? ⟨w.heap.size, k * 2, none⟩ = some u0 ∧ wr.cell? ⟨w.heap.size, k * 2 + 1, none⟩ = some u1 ∧ ∀ j, wr.frozen? ⟨w.heap.size, j, none⟩ = false := by
  obtain ⟨xs, ho, _, _⟩ := h
  have hl := ho.1
  refine ⟨xs[k * 2]'(by omega), xs[k * 2 + 1]'(by omega), ?_, ?_, fun j => ho.frozenAt j⟩
  · rw [ho.cellAt (k * 2) (by omega)]; exact List.getElem?_eq_getElem _
  · rw [ho.cellAt (k * 2 + 1) (by omega)]; exact List.getElem?_eq_getElem _

theorem wrap_i32 (k : Nat) (h : k ≤ 4096) : IntKind.i32.wrap (k : Int) = k := by
  simp [IntKind.wrap, IntKind.bits, IntKind.signed]
  split <;> omega

theorem mk_step {n k : Nat} {w wr : World} {o1 : Obj} {z : Value} (h : MkInv n w k wr) (hk : k < n) :
    MkInv n w (k + 1) ((((wr.setCell ⟨w.heap.size, k * 2, none⟩ (.iface 199 (.pointer (some ⟨wr.heap.size + 1, 0, none⟩)))).setCell ⟨w.heap.size, k * 2 + 1, none⟩ (.int .i32 k)).alloc o1).alloc (.cells #[.iface 190 z, .int .i32 k, .bool false] 206)) := by
  have hlt := mk_lt h
  obtain ⟨xs, ho, hs, hg⟩ := h
  have hl := ho.1
  have h1 := (ho.stored (k * 2) (.iface 199 (.pointer (some ⟨wr.heap.size + 1, 0, none⟩)))).1
  have h2 := (h1.stored (k * 2 + 1) (.int .i32 k)).1
  refine ⟨_, (h2.alloc _).alloc _, ?_, ?_⟩
  · intro i hi
    by_cases e : i = k
    · subst e
      refine ⟨wr.heap.size + 1, z, by omega, by omega, ?_, ?_, blk_at _ _ _ (by simp)⟩
      · rw [List.getElem?_set_ne (by omega), show 2 * i = i * 2 by omega, List.getElem?_set_self (by omega)]
      · rw [show 2 * i + 1 = i * 2 + 1 by omega, List.getElem?_set_self (by simp; omega)]
    · obtain ⟨q, z', a1, a2, a3, a4, a5⟩ := hs i (by omega)
      refine ⟨q, z', a1, a2, ?_, ?_, blk_alloc (blk_alloc (blk_set_other (blk_set_other a5 _ _ (fun h => a2 h.symm)) _ _ (fun h => a2 h.symm)) _) _⟩
      · rw [List.getElem?_set_ne (by omega), List.getElem?_set_ne (by omega)]; exact a3
      · rw [List.getElem?_set_ne (by omega), List.getElem?_set_ne (by omega)]; exact a4
  · exact Grew.alloc (Grew.alloc (Grew.setCell (Grew.setCell hg (.inr (by simp)) _) (.inr (by simp)) _) _) _

set_option maxHeartbeats 2000000 in
theorem mkStmts_any (n : Nat) (w : World) (hn : n ≤ 4096) :
    Calls Tryz.prog 17 #[.int .i64 n] w (MkPost n w) := by
  obtain ⟨i0, hi, hz0, hs0, hy0⟩ := info_parts info45
  have HI := Lib.hid hi
  have HZ := Lib.hid hz0
  have HS := Lib.hid hs0
  have HY := Lib.hid hy0
  clear hi hz0 hs0 hy0
  go_enter Tryz.func17, Tryz.ntmps17
  go_wp2_with (at_make; refine wpList_make_full _ rfl _ _ 33 rfl 0 45 i0 _ 2 Tryz.underlying33 HI.out HZ.out HS.out _ _ _ _ n rfl rfl rfl rfl (by rw [HY.out]; omega) (by unfold maxLen; omega) (Nat.zero_le _) ?_; intro w1 hown hg)
  have Hown := Lib.hid hown
  have Hg := Lib.hid hg
  clear hown hg
  go_loopw [4] (fun i wr => ∃ k : Nat, k ≤ n ∧ i = .int .i64 k ∧ MkInv n w k wr) (fun i _ => n - (intOf i).toNat)
  case atStart => exact ⟨0, Nat.zero_le _, rfl, _, Hown.out, fun _ h => by omega, Grew.of_grownBy Hg.out (fun _ h => by cases h)⟩
  case round =>
    obtain ⟨k, hk, rfl, hinv⟩ := hrel
    have HV := Lib.hid hinv
    have hsz : w.heap.size < wr.heap.size := mk_lt hinv
    clear hinv Hown Hg
    have hsz1 : w.heap.size < wr.heap.size + 1 := by omega
    have hsz2 : w.heap.size < wr.heap.size + 1 + 1 := by omega
    by_cases hlt : k < n
    · obtain ⟨u0, u1, hc0, hc1, hf⟩ := mk_cells HV.out hlt
      have hf0 := hf (k * 2)
      have hf1 := hf (k * 2 + 1)
      clear hf
      have hwr := wrap_i32 k (by omega)
      go_wp2
      refine ⟨⟨k + 1, by omega, by go_num, mk_step HV.out hlt⟩, by simp [intOf]; omega⟩
    · go_wp2
      go_ret
      obtain rfl : k = n := by omega
      obtain ⟨xs, h1, h2, h3⟩ := HV.out
      exact ⟨_, xs, rfl, rfl, h1, h2, h3⟩
end Go.Proofs.YtnikgjgjmpoglaaGreatFmt
