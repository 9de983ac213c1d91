/-
  newSymbol: the symbols' slice grows by one, the parser's block holds it; nothing else turns. Condition: fewer than ten symbols.
-/
import Derived.Test.YtnikgjgjmpoglaaGreatFmtA
import Derived.Deep.AppendLies
import Derived.Deep.RegionLaw
namespace Go.Proofs.YtnikgjgjmpoglaaGreatFmt
open Go Go.RowKit
set_option maxRecDepth 100000

def symCells (kind : Int) (nm : ByteArray) : List Value := [.pointer none, .string nm, .int .u32 4294967295, .int .u32 4294967295, .int .u32 0, .int .u32 0, .int .u32 0, .int .u16 0, .int .u8 kind, .int .u8 0]

theorem info232 : (Tryz.prog.info? 232).map (fun i => (i.zero, i.size, i.bytes)) = some (some (.agg #[.pointer none, .string ⟨#[]⟩, .int .u32 0, .int .u32 0, .int .u32 0, .int .u32 0, .int .u32 0, .int .u16 0, .int .u8 0, .int .u8 0]), 10, 48) := by kernel_rfl

def NewSymPost (B b : Nat) (pc : Array Value) (kind : Int) (nm : ByteArray) (sv : Value) (n : Nat) (xs : List Value) (w : World) (e : Ending) (w' : World) : Prop :=
  e = .returned (.agg #[.int .u32 0, .int .u32 n]) ∧ ∃ g cap, w'.heap[b]? = some (.cells (pc.setIfInBounds 106 (.slice (some ⟨g, 0, none⟩) (n + 1) cap)) 185 (0, 0)) ∧
    w'.ownsRow B 232 10 (.slice (some ⟨g, 0, none⟩) (n + 1) cap) (n + 1) (xs ++ symCells kind nm) ∧ (sv.ownBlock = some g ∨ w.heap.size ≤ g) ∧ g < w'.heap.size ∧ Grew (fun k => k = b ∨ some k = sv.ownBlock) w w'

theorem wrap_small (n : Nat) (h : n ≤ 10) : IntKind.u32.wrap (n : Int) = n := by
  have e : IntKind.u32.wrap (n : Int) = (n : Int) % 4294967296 := by simp [IntKind.wrap, IntKind.bits, IntKind.signed]
  rw [e]; omega

theorem sym_one (kind : Int) (nm : ByteArray) : ∀ u ∈ symCells kind nm, u.oneCell' = true := by simp [symCells, Value.oneCell']

theorem sym_news (kind : Int) (nm : ByteArray) {W : World} {k : Nat} (h : W.heap[k]? = some (.cells (symCells kind nm).toArray 232 (0, 0))) : ∀ j u, (symCells kind nm)[j]? = some u → W.cell? ((⟨k, 0, none⟩ : Addr).add j) = some u := World.news_of_block (cs := (symCells kind nm).toArray) h

theorem newSym_close {B b : Nat} {pc : Array Value} {kind : Int} {nm : ByteArray} {a : Option Addr} {cap n : Nat} {xs : List Value} {w w1 : World} {o1 o2 o3 : Obj} {g cap' : Nat} {x y : Value}
    (hp : w.heap[b]? = some (.cells pc 185 (0, 0))) (hown : w.ownsRow B 232 10 (.slice a n cap) n xs) (hne : (Value.slice a n cap).ownBlock ≠ some b)
    (q1 : w1.ownsRow B 232 10 (.slice (some ⟨g, 0, none⟩) (n + 1) cap') (n + 1) (xs ++ symCells kind nm)) (q2 : ((((w.alloc o1).alloc o2).alloc o3).drew.drew).grownBy w1 (Value.slice a n cap).ownBlock)
    (q3 : (Value.slice a n cap).ownBlock = some g ∨ g = ((((w.alloc o1).alloc o2).alloc o3).drew.drew).heap.size) (hlt : g < w1.heap.size) :
    NewSymPost B b pc kind nm (.slice a n cap) n xs w (.returned (.agg #[.int .u32 0, .int .u32 n]))
      (((w1.setCell ⟨b, 106, none⟩ (.slice (some ⟨g, 0, none⟩) (n + 1) cap')).setCell ⟨w.heap.size, 0, none⟩ x).setCell ⟨w.heap.size, 1, none⟩ y) := by
  have hbl : b < w.heap.size := blk_lt hp
  have hb1 : w1.heap[b]? = some (.cells pc 185 (0, 0)) := (q2.block b (by simp; omega) (fun h => hne h.symm)).trans (blk_alloc (blk_alloc (blk_alloc hp _) _) _)
  have hsz : ((((w.alloc o1).alloc o2).alloc o3).drew.drew).heap.size = w.heap.size + 3 := by simp
  have hgb : g ≠ b ∧ g ≠ w.heap.size := by
    rcases q3 with h | h
    · have := (hown.lt _ h).2
      exact ⟨fun e => hne (e ▸ h), by omega⟩
    · rw [hsz] at h; omega
  refine ⟨rfl, g, cap', ?_, ?_, ?_, ?_, ?_⟩
  · exact blk_set_other (blk_set_other (blk_set hb1 106 _) _ _ (by simp; omega)) _ _ (by simp; omega)
  · refine owns_same q1 fun k hk => ?_
    obtain rfl : g = k := by simpa [Value.ownBlock] using hk
    rw [heap_set_other _ _ _ (by simp; omega), heap_set_other _ _ _ (by simp; omega), heap_set_other _ _ _ (by simp; omega)]
  · rcases q3 with h | h
    · exact .inl h
    · rw [hsz] at h; exact .inr (by omega)
  · simpa using hlt
  · refine Grew.setCell (Grew.setCell (Grew.setCell ?_ (.inl (.inl rfl)) _) (.inr (by simp)) _) (.inr (by simp)) _
    refine Grew.trans ((((Grew.refl _ _).alloc o1).alloc o2).alloc o3).drew.drew ?_
    exact Grew.of_grownBy q2 fun k hk => .inr hk.symm

set_option maxHeartbeats 2000000 in
theorem newSymbol_any (B b : Nat) (pc : Array Value) (kind : Int) (nm : ByteArray) (sv : Value) (n : Nat) (xs : List Value) (w : World)
    (hp : w.heap[b]? = some (.cells pc 185 (0, 0))) (c66 : pc[66]? = some (.int .u32 0)) (c106 : pc[106]? = some sv) (c32 : pc[32]? = some (.bool false))
    (hown : w.ownsRow B 232 10 sv n xs) (hbB : B ≤ w.heap.size) (hne : sv.ownBlock ≠ some b) (hn : n ≤ 10) (hz : 0 < w.heap.size)
    (g0 : w.cell? ⟨0, 0, none⟩ = some (.int .u32 4294967295)) (g1 : w.cell? ⟨0, 1, none⟩ = some (.int .u32 4294967295)) :
    Calls Tryz.prog 21 #[.pointer (some ⟨b, 0, none⟩), .int .u8 kind, .string nm] w (NewSymPost B b pc kind nm sv n xs w) := by
  have hbl : b < w.heap.size := blk_lt hp
  have hbl1 : b < w.heap.size + 1 := by omega
  have hbl2 : b < w.heap.size + 1 + 1 := by omega
  have hbl3 : b < w.heap.size + 1 + 1 + 1 := by omega
  have hz1 : 0 < w.heap.size + 1 := by omega
  have hz2 : 0 < w.heap.size + 1 + 1 := by omega
  have hz3 : 0 < w.heap.size + 1 + 1 + 1 := by omega
  have k66 : w.cell? ⟨b, 66, none⟩ = some (.int .u32 0) := (blk_cell hp 66).trans c66
  have k106 : w.cell? ⟨b, 106, none⟩ = some sv := (blk_cell hp 106).trans c106
  have k32 : w.cell? ⟨b, 32, none⟩ = some (.bool false) := (blk_cell hp 32).trans c32
  clear c66 c106 
  obtain ⟨i0, hi, hz0, hs0, hy0⟩ := info_parts info232
  obtain ⟨a, cap, rfl⟩ : ∃ a cap, sv = .slice a n cap := by
    rcases hown.2 with ⟨rfl, rfl⟩ | ⟨g, cap, cur, rfl, _⟩
    · exact ⟨_, _, rfl⟩
    · exact ⟨_, _, rfl⟩
  have hwr := wrap_small n hn
  have HP := Lib.hid hp
  have HC := Lib.hid c32
  have HB := Lib.hid hbB
  have HN := Lib.hid hne
  have HO := Lib.hid hown
  have HI := Lib.hid hi
  have HZ := Lib.hid hz0
  have HS := Lib.hid hs0
  have HY := Lib.hid hy0
  clear hp hbB hne hown hi hz0 hs0 hy0 c32
  go_enter Tryz.func21, Tryz.ntmps21
  go_wp2
  go_region
  go_wp2
  go_region_law (refine step_append_lies _ rfl (.tmp 24) (.tmp 29) 131 rfl B 232 i0 _ 10 48 Tryz.underlying131 HI.out HZ.out HS.out HY.out rfl (by decide) (.slice a n cap) n xs (by simp [Act.eval]) (((HO.out.alloc _).alloc _).alloc _) ⟨w.heap.size + 1 + 1, 0, none⟩ 1 1 (symCells kind nm) (by simp [Act.eval]) rfl (sym_news kind nm (blk_drew (blk_drew (blk_at _ _ _ (by simp))))) (sym_one kind nm) (by decide) (by unfold maxLen; omega) (by omega) (by have := HB.out; simp; omega) _ rfl ?_; intro g cap' w1 hown1 hgrow hat hlt; have q1 := Lib.hid hown1; have q2 := Lib.hid hgrow; have q3 := Lib.hid hat; clear hown1 hgrow hat; have hbk : w1.heap[b]? = some (.cells pc 185 (0, 0)) := (q2.out.block b (by simp; omega) (fun h => HN.out h.symm)).trans (blk_alloc (blk_alloc (blk_alloc HP.out _) _) _); have j106 : w1.cell? ⟨b, 106, none⟩ = some (.slice a n cap) := (blk_cell hbk 106).trans ((blk_cell HP.out 106).symm.trans k106); have j32 : w1.cell? ⟨b, 32, none⟩ = some (.bool false) := (blk_cell hbk 32).trans HC.out; have jf : w1.frozen? ⟨b, 106, none⟩ = false := blk_free hbk 106; have q4 := Lib.hid hbk; clear hbk; have n6 : w1.heap[w.heap.size]? = some (.cells #[.int .u32 0, .int .u32 0] 30 (0, 0)) := (q2.out.block w.heap.size (by simp; omega) (fun h => by have := (HO.out.lt _ h.symm).2; omega)).trans (blk_drew (blk_drew (blk_alloc (blk_alloc (blk_at _ _ _ rfl) _) _))); have n7 : w1.heap[w.heap.size + 1]? = some (.cells #[.int .u32 0, .int .u32 n] 30 (0, 0)) := (q2.out.block (w.heap.size + 1) (by simp) (fun h => by have := (HO.out.lt _ h.symm).2; omega)).trans (blk_drew (blk_drew (blk_alloc (blk_at _ _ _ (by simp)) _))); have m60 := blk_cell n6 0; have m61 := blk_cell n6 1; have m70 := blk_cell n7 0; have m71 := blk_cell n7 1; have f60 := blk_free n6 0; have f61 := blk_free n6 1; simp only [List.getElem?_toArray, List.getElem?_cons_zero, List.getElem?_cons_succ] at m60 m61 m70 m71; have q5 := Lib.hid n6; have q6 := Lib.hid n7; clear n6 n7)
  all_goals go_wp2
  all_goals refine bodyPost_ret (v := .agg #[.int .u32 0, .int .u32 n]) (by simp [results, Tryz.results21, go_sem, m60, m61]) rfl ?_
  all_goals exact newSym_close HP.out HO.out HN.out q1.out q2.out q3.out (by assumption)
end Go.Proofs.YtnikgjgjmpoglaaGreatFmt
