/-
  mkExprs(m): a row of m object expressions, the i-th at location i. Condition: m at most 4096.
-/
import Derived.Test.YtnikgjgjmpoglaaGreatFmtH1
namespace Go.Proofs.YtnikgjgjmpoglaaGreatFmt
open Go Go.RowKit
set_option maxRecDepth 100000

theorem info58 : (Tryz.prog.info? 58).map (fun i => (i.zero, i.size, i.bytes)) = some (some (.agg #[.nilIface, .int .i32 0]), 2, 24) := by kernel_rfl

/-- The first k expressions of a row. -/
def ExprsTo (xs : List Value) (k : Nat) : Prop :=
  ∀ i, i < k → ∃ q, xs[2 * i]? = some (.iface 190 (.pointer (some ⟨q, 0, none⟩))) ∧ xs[2 * i + 1]? = some (.int .i32 i)

def MkEInv (m : Nat) (w : World) (k : Nat) (wr : World) : Prop :=
  ∃ xs, wr.ownsRow 0 58 2 (.slice (some ⟨w.heap.size, 0, none⟩) m m) m xs ∧ ExprsTo xs k ∧ Grew (fun _ => False) w wr

theorem mke_lt {m k : Nat} {w wr : World} (h : MkEInv m w k wr) : w.heap.size < wr.heap.size := by
  obtain ⟨xs, ho, _, _⟩ := h
  exact (ho.lt _ rfl).2

theorem mke_cells {m k : Nat} {w wr : World} (h : MkEInv m w k wr) (hk : k < m) : ∃ u0 u1, wr.cell? ⟨w.heap.size, k * 2, none⟩ = some u0 ∧ wr.cell? ⟨w.heap.size, k * 2 + 1, none⟩ = some u1 ∧ ∀ j, wr.frozen? ⟨w.heap.size, j, none⟩ = false := by
  obtain ⟨xs, ho, _, _⟩ := h
  have hl := ho.1
  refine ⟨xs[k * 2]'(by omega), xs[k * 2 + 1]'(by omega), ?_, ?_, fun j => ho.frozenAt j⟩
  · rw [ho.cellAt (k * 2) (by omega)]; exact List.getElem?_eq_getElem _
  · rw [ho.cellAt (k * 2 + 1) (by omega)]; exact List.getElem?_eq_getElem _

theorem mke_step {m k : Nat} {w wr : World} {o1 : Obj} (h : MkEInv m w k wr) (hk : k < m) :
    MkEInv m w (k + 1) (((wr.setCell ⟨w.heap.size, k * 2, none⟩ (.iface 190 (.pointer (some ⟨wr.heap.size, 0, none⟩)))).setCell ⟨w.heap.size, k * 2 + 1, none⟩ (.int .i32 k)).alloc o1) := by
  obtain ⟨xs, ho, hs, hg⟩ := h
  have hl := ho.1
  have h1 := (ho.stored (k * 2) (.iface 190 (.pointer (some ⟨wr.heap.size, 0, none⟩)))).1
  have h2 := (h1.stored (k * 2 + 1) (.int .i32 k)).1
  refine ⟨_, h2.alloc _, ?_, ?_⟩
  · intro i hi
    by_cases e : i = k
    · subst e
      refine ⟨wr.heap.size, ?_, ?_⟩
      · rw [List.getElem?_set_ne (by omega), show 2 * i = i * 2 by omega, List.getElem?_set_self (by omega)]
      · rw [show 2 * i + 1 = i * 2 + 1 by omega, List.getElem?_set_self (by simp; omega)]
    · obtain ⟨q, a3, a4⟩ := hs i (by omega)
      refine ⟨q, ?_, ?_⟩
      · rw [List.getElem?_set_ne (by omega), List.getElem?_set_ne (by omega)]; exact a3
      · rw [List.getElem?_set_ne (by omega), List.getElem?_set_ne (by omega)]; exact a4
  · exact Grew.alloc (Grew.setCell (Grew.setCell hg (.inr (by simp)) _) (.inr (by simp)) _) _

def MkEPost (m : Nat) (w : World) (e : Ending) (w' : World) : Prop :=
  e = .returned (.slice (some ⟨w.heap.size, 0, none⟩) m m) ∧ ∃ xs, w'.ownsRow 0 58 2 (.slice (some ⟨w.heap.size, 0, none⟩) m m) m xs ∧ ExprsTo xs m ∧ Grew (fun _ => False) w w'

set_option maxHeartbeats 2000000 in
theorem mkExprs_any (m : Nat) (w : World) (hm : m ≤ 4096) : Calls Tryz.prog 11 #[.int .i64 m] w (MkEPost m w) := by
  obtain ⟨i0, hi, hz0, hs0, hy0⟩ := info_parts info58
  have HI := Lib.hid hi
  have HZ := Lib.hid hz0
  have HS := Lib.hid hs0
  have HY := Lib.hid hy0
  clear hi hz0 hs0 hy0
  go_enter Tryz.func11, Tryz.ntmps11
  go_wp2_with (at_make; refine wpList_make_full _ rfl _ _ 37 rfl 0 58 i0 _ 2 Tryz.underlying37 HI.out HZ.out HS.out _ _ _ _ m rfl rfl rfl rfl (by rw [HY.out]; omega) (by unfold maxLen; omega) (Nat.zero_le _) ?_; intro w1 hown hg)
  have Hown := Lib.hid hown
  have Hg := Lib.hid hg
  clear hown hg
  go_loopw [4] (fun i wr => ∃ k : Nat, k ≤ m ∧ i = .int .i64 k ∧ MkEInv m w k wr) (fun i _ => m - (intOf i).toNat)
  case atStart => exact ⟨0, Nat.zero_le _, rfl, _, Hown.out, fun _ h => by omega, Grew.of_grownBy Hg.out (fun _ h => by cases h)⟩
  case round =>
    obtain ⟨k, hk, rfl, hinv⟩ := hrel
    have HV := Lib.hid hinv
    have hsz : w.heap.size < wr.heap.size := mke_lt hinv
    clear hinv Hown Hg
    have hsz1 : w.heap.size < wr.heap.size + 1 := by omega
    by_cases hlt : k < m
    · obtain ⟨u0, u1, hc0, hc1, hf⟩ := mke_cells HV.out hlt
      have hf0 := hf (k * 2)
      have hf1 := hf (k * 2 + 1)
      clear hf
      have hwr := wrap_i32 k (by omega)
      go_wp2
      refine ⟨⟨k + 1, by omega, by go_num, mke_step HV.out hlt⟩, by simp [intOf]; omega⟩
    · go_wp2
      go_ret
      obtain rfl : k = m := by omega
      obtain ⟨xs, h1, h2, h3⟩ := HV.out
      exact ⟨rfl, xs, h1, h2, h3⟩
end Go.Proofs.YtnikgjgjmpoglaaGreatFmt
