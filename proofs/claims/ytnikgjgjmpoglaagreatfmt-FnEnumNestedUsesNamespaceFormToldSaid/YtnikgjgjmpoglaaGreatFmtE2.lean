/-
  JoinWithComma; JoinAllWithComma over a row of m object expressions. Condition: m from 1 to 4096.
-/
import Derived.Test.YtnikgjgjmpoglaaGreatFmtE1
import Derived.LaidEql
import Derived.LaidEqlPtr
namespace Go.Proofs.YtnikgjgjmpoglaaGreatFmt
open Go Go.RowKit
set_option maxRecDepth 100000

theorem run_eql_iface_nil_right {P : Program} (w : World) {ti : TypeId} {ms : Array (String × TypeId)} (tp : TypeId) (v : Value) (hi : P.underlying ti = some (.interface ms)) :
    (binOp .eql ti (.iface tp v) .nilIface).run P w = .ok (.bool false) w := by
  have h : ∀ d : Nat, (Op.equalIn (d + 1) ti (.iface tp v) .nilIface).run P w = .ok false w := fun d => by simp [Op.equalIn, run_underlying hi]
  simp only [binOp]
  simp [Op.equal, Op.maxDepth, h 9999]

theorem run_eql_iface_nil_nil {P : Program} (w : World) {ti : TypeId} {ms : Array (String × TypeId)} (hi : P.underlying ti = some (.interface ms)) :
    (binOp .eql ti .nilIface .nilIface).run P w = .ok (.bool true) w := by
  have h : ∀ d : Nat, (Op.equalIn (d + 1) ti .nilIface .nilIface).run P w = .ok true w := fun d => by simp [Op.equalIn, run_underlying hi]
  simp only [binOp]
  simp [Op.equal, Op.maxDepth, h 9999]

theorem run_other_scope (cs ms : Nat) (W : World) {c c' : Array Value} {t t' : TypeId} (hc : W.heap[cs]? = some (.cells c t (0, 0))) (hm : W.heap[ms]? = some (.cells c' t' (0, 0))) (hne : cs ≠ ms) :
    (binOp .neq 123 (.pointer (some ⟨cs, 0, none⟩)) (.pointer (some ⟨ms, 0, none⟩))).run Tryz.prog W = .ok (.bool true) W := by
  obtain ⟨i, hi, hs⟩ := Option.map_eq_some_iff.1 size242
  have h : ∀ d : Nat, (Op.equalIn (d + 1) 123 (.pointer (some ⟨cs, 0, none⟩)) (.pointer (some ⟨ms, 0, none⟩))).run Tryz.prog W = .ok false W := fun d => by
    simp [Op.equalIn, run_underlying under123, sizeOf, typeInfo, hi, hs, run_sameAddr_other W (a := ⟨cs, 0, none⟩) (b := ⟨ms, 0, none⟩) (fun e => hne (congrArg Addr.block e)) hc hm]
  simp only [binOp]
  simp [Op.equal, Op.maxDepth, h 9999]

def JoinPost (la : Int) (w : World) (e : Ending) (w' : World) : Prop := ∃ t q, e = .returned (.agg #[.iface t (.pointer (some ⟨q, 0, none⟩)), .int .i32 la]) ∧ Grew (fun _ => False) w w'

set_option maxHeartbeats 1000000 in
theorem join_nil (t : TypeId) (q : Nat) (la lb : Int) (w : World) :
    Calls Tryz.prog 35 #[.agg #[.nilIface, .int .i32 la], .agg #[.iface t (.pointer (some ⟨q, 0, none⟩)), .int .i32 lb]] w (JoinPost lb w) := by
  have e0 := fun W : World => run_eql_iface_nil_nil (P := Tryz.prog) W Tryz.underlying56
  go_enter Tryz.func35, Tryz.ntmps35
  go_wp2
  refine bodyPost_ret (v := .agg #[.iface t (.pointer (some ⟨q, 0, none⟩)), .int .i32 lb]) (by simp [results, Tryz.results35, go_sem]) rfl ?_
  exact ⟨t, q, rfl, (((Grew.refl _ w).alloc _).alloc _).alloc _⟩

set_option maxHeartbeats 1000000 in
theorem join_two (s t : TypeId) (p q : Nat) (la lb : Int) (w : World) :
    Calls Tryz.prog 35 #[.agg #[.iface s (.pointer (some ⟨p, 0, none⟩)), .int .i32 la], .agg #[.iface t (.pointer (some ⟨q, 0, none⟩)), .int .i32 lb]] w (JoinPost la w) := by
  have e0 := fun (W : World) (t : TypeId) (v : Value) => run_eql_iface_nil_right (P := Tryz.prog) W t v Tryz.underlying56
  go_enter Tryz.func35, Tryz.ntmps35
  go_wp2
  refine bodyPost_ret (v := .agg #[.iface 211 (.pointer (some ⟨w.heap.size + 1 + 1 + 1, 0, none⟩)), .int .i32 la]) (by simp [results, Tryz.results35, go_sem]) rfl ?_
  exact ⟨211, _, rfl, ((((Grew.refl _ w).alloc _).alloc _).alloc _).alloc _⟩

theorem join_any (x : Value) (t : TypeId) (q : Nat) (la lb : Int) (w : World) (hx : (x = .nilIface ∧ la = 0 ∧ lb = 0) ∨ (∃ s p, x = .iface s (.pointer (some ⟨p, 0, none⟩)) ∧ la = 0)) :
    Calls Tryz.prog 35 #[.agg #[x, .int .i32 la], .agg #[.iface t (.pointer (some ⟨q, 0, none⟩)), .int .i32 lb]] w (JoinPost 0 w) := by
  rcases hx with ⟨rfl, rfl, rfl⟩ | ⟨s, p, rfl, rfl⟩
  · exact join_nil t q 0 0 w
  · exact join_two s t p q 0 lb w

set_option maxHeartbeats 2000000 in
theorem joinAll_any (r m : Nat) (xs : List Value) (w : World) (hown : w.ownsRow 0 58 2 (.slice (some ⟨r, 0, none⟩) m m) m xs) (hx : ExprsTo xs m) (hm1 : 1 ≤ m) (hm : m ≤ 4096) :
    Calls Tryz.prog 34 #[.slice (some ⟨r, 0, none⟩) m m] w (JoinPost 0 w) := by
  have HO := Lib.hid hown
  have HX := Lib.hid hx
  clear hown hx
  go_enter Tryz.func34, Tryz.ntmps34
  go_wp2
  go_loopw [7] (fun i wr => ∃ k : Nat, k ≤ m ∧ i = .int .i64 k ∧ Grew (fun _ => False) w wr ∧ ∃ x0, wr.heap[w.heap.size]? = some (.cells #[x0, .int .i32 0] 58 (0, 0)) ∧ ((x0 = .nilIface ∧ k = 0) ∨ (∃ s p, x0 = .iface s (.pointer (some ⟨p, 0, none⟩)) ∧ 1 ≤ k))) (fun i _ => m - (intOf i).toNat)
  case atStart => exact ⟨0, Nat.zero_le _, rfl, (Grew.refl _ w).alloc _, _, blk_at _ _ _ rfl, .inl ⟨rfl, rfl⟩⟩
  case round =>
    obtain ⟨k, hk, rfl, hg, x0, hb, hx0⟩ := hrel
    have HG := Lib.hid hg
    have HB := Lib.hid hb
    have HX0 := Lib.hid hx0
    have lb := blk_lt hb
    have b0 : wr.cell? ⟨w.heap.size, 0, none⟩ = some x0 := (blk_cell hb 0).trans rfl
    have b1 : wr.cell? ⟨w.heap.size, 1, none⟩ = some (.int .i32 0) := (blk_cell hb 1).trans rfl
    clear hg hb hx0
    by_cases hlt : k < m
    · have ho : wr.ownsRow 0 58 2 (.slice (some ⟨r, 0, none⟩) m m) m xs := owns_same HO.out (fun k hk => HG.out.block k (HO.out.lt k hk).2 (fun h => h))
      obtain ⟨q, e1, e2⟩ := HX.out k hlt
      have r0 : wr.cell? ⟨r, k * 2, none⟩ = some (.iface 190 (.pointer (some ⟨q, 0, none⟩))) := (ho.cellAt (k * 2) (by omega)).trans (by rw [Nat.mul_comm]; exact e1)
      have r1 : wr.cell? ⟨r, k * 2 + 1, none⟩ = some (.int .i32 k) := (ho.cellAt (k * 2 + 1) (by omega)).trans (by rw [Nat.mul_comm]; exact e2)
      have hlk : (k : Int) < (m : Int) := by omega
      have lb1 : w.heap.size < wr.heap.size + 1 := by omega
      have hj := fun W : World => join_any x0 190 q 0 k W (HX0.out.imp (fun h => ⟨h.1, rfl, by rw [h.2]; rfl⟩) (fun h => by obtain ⟨s, p, h1, _⟩ := h; exact ⟨s, p, h1, rfl⟩))
      have HJ := Lib.hid hj
      clear e1 e2 ho hj
      rcases HX0.out with ⟨rfl, -⟩ | ⟨s, p, rfl, -⟩
      all_goals
        go_wp2_with fail
        refine (HJ.out _).mono ?_
        rintro e W ⟨t, q2, rfl, hg⟩
        have hb2 := hg.obj (blk_alloc HB.out _) (fun h => h)
        have c0 := blk_cell hb2 0
        have c1 := blk_cell hb2 1
        have f0 := blk_free hb2 0
        have f1 := blk_free hb2 1
        simp only [List.getElem?_toArray, List.getElem?_cons_zero, List.getElem?_cons_succ] at c0 c1
        have hg2 := Grew.trans (HG.out.alloc _) hg
        have HB2 := Lib.hid hb2
        have HG2 := Lib.hid hg2
        clear hb2 hg2 hg r0 r1 b0 b1
        go_wp2
        refine ⟨⟨k + 1, by omega, by go_num, Grew.setCell (Grew.setCell HG2.out (.inr (Nat.le_refl _)) _) (.inr (Nat.le_refl _)) _, _, blk_set (blk_set HB2.out 0 _) 1 _, .inr ⟨t, q2, rfl, by omega⟩⟩, by simp [intOf]; omega⟩
    · rcases HX0.out with ⟨_, h⟩ | ⟨s, p, rfl, _⟩
      · omega
      · go_wp2
        refine bodyPost_ret (v := .agg #[.iface s (.pointer (some ⟨p, 0, none⟩)), .int .i32 0]) (by simp [results, Tryz.results34, go_sem, b0, b1]) rfl ?_
        exact ⟨s, p, rfl, HG.out⟩
end Go.Proofs.YtnikgjgjmpoglaaGreatFmt
