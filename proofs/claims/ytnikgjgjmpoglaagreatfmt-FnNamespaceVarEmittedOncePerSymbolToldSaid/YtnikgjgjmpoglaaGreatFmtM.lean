/-
  prefixKept answers true where the first n statements are expression statements, the i-th at location i. Conditions: those facts.
-/
import Derived.Test.YtnikgjgjmpoglaaGreatFmtL
namespace Go.Proofs.YtnikgjgjmpoglaaGreatFmt
open Go Go.RowKit
set_option maxRecDepth 100000

set_option maxHeartbeats 2000000 in
theorem prefixKept_yes (g c n n1 : Nat) (xs : List Value) (w : World) (hv : w.ownsRow 0 45 2 (.slice (some ⟨g, 0, none⟩) n1 c) n1 xs) (hn : n ≤ n1) (hn1 : n1 ≤ 5000) (hn0 : n ≤ 4096) (hbody : BodyOk n false xs) :
    Calls Tryz.prog 18 #[.slice (some ⟨g, 0, none⟩) n1 c, .int .i64 n] w (BoolPost true w) := by
  have HV := Lib.hid hv
  have HB := Lib.hid hbody
  clear hv hbody
  go_enter Tryz.func18, Tryz.ntmps18
  go_wp2
  go_loopw [5] (fun i wr => ∃ k : Nat, k ≤ n ∧ i = .int .i64 k ∧ Grew (fun _ => False) w wr) (fun i _ => n - (intOf i).toNat)
  case atStart => exact ⟨0, Nat.zero_le _, rfl, Grew.refl _ w⟩
  case round =>
    obtain ⟨k, hk, rfl, hgr⟩ := hrel
    have HGR := Lib.hid hgr
    clear hgr
    by_cases hlt : k < n
    · have ho : wr.ownsRow 0 45 2 (.slice (some ⟨g, 0, none⟩) n1 c) n1 xs := owns_same HV.out (fun k hk => HGR.out.block k (HV.out.lt k hk).2 (fun h => h))
      obtain ⟨q, e1, e2⟩ := (HB.out k hlt).2 rfl
      have r0 : wr.cell? ⟨g, k * 2, none⟩ = some (.iface 199 (.pointer (some ⟨q, 0, none⟩))) := (ho.cellAt (k * 2) (by omega)).trans (by rw [Nat.mul_comm]; exact e1)
      have r1 : wr.cell? ⟨g, k * 2 + 1, none⟩ = some (.int .i32 k) := (ho.cellAt (k * 2 + 1) (by omega)).trans (by rw [Nat.mul_comm]; exact e2)
      have hwr := wrap_i32 k (by omega)
      have hlk : (k : Int) < (n1 : Int) := by omega
      clear e1 e2 ho
      go_wp2_with fail
      refine (as_24 q k _).mono ?_
      rintro e W ⟨rfl, hg⟩
      have hg' := Grew.trans HGR.out hg
      have HG' := Lib.hid hg'
      clear hg hg' r0 r1
      go_wp2
      refine ⟨⟨k + 1, by omega, by go_num, HG'.out⟩, by simp [intOf]; omega⟩
    · go_wp2
      go_ret
      exact ⟨rfl, HGR.out⟩
end Go.Proofs.YtnikgjgjmpoglaaGreatFmt
