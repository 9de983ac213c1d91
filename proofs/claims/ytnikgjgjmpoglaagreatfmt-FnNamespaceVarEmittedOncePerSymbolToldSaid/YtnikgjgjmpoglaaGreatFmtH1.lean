/-
  The words of generateClosureForTypeScriptNamespaceOrEnum's walk: what is known of the parser, what the function lays, frames. No conditions.
-/
import Derived.Test.YtnikgjgjmpoglaaGreatFmtG
import Derived.LaidEqlPtr
import Derived.Deep.AppendLies
namespace Go.Proofs.YtnikgjgjmpoglaaGreatFmt
open Go Go.RowKit
open Go.ChangeMaps (setBlock)
set_option maxRecDepth 100000

/-- What is known of the parser. -/
structure PFacts (w : World) (b : Nat) (pc : Array Value) (bs n cap bm : Nat) (mf : Bool) (f : Int) (cs ms : Nat) : Prop where
  hp : w.heap[b]? = some (.cells pc 185 (0, 0))
  c23 : pc[23]? = some (.int .u64 f)
  c32 : pc[32]? = some (.bool false)
  c41 : pc[41]? = some (.bool mf)
  c104 : pc[104]? = some (.pointer (some ⟨cs, 0, none⟩))
  c105 : pc[105]? = some (.pointer none)
  c106 : pc[106]? = some (.slice (some ⟨bs, 0, none⟩) n cap)
  c161 : pc[161]? = some (.map (some bm))
  c168 : pc[168]? = some (.pointer none)
  c187 : pc[187]? = some (.pointer (some ⟨ms, 0, none⟩))
  c350 : pc[350]? = some (.bool false)

def symRow (l0 l1 uc kind : Int) (nm : ByteArray) : Array Value := #[.pointer none, .string nm, .int .u32 l0, .int .u32 l1, .int .u32 uc, .int .u32 0, .int .u32 0, .int .u16 0, .int .u8 kind, .int .u8 0]

/-- The boxes that the function lays at its begin, j the reference that is being followed, row the symbol's copy. -/
structure GBox (w W : World) (sl nl : Int) (j a : Nat) (row : Array Value) : Prop where
  b0 : W.heap[w.heap.size]? = some (.cells #[.int .i32 sl] 36 (0, 0))
  b1 : W.heap[w.heap.size + 1]? = some (.cells #[.int .i32 nl] 36 (0, 0))
  b2 : W.heap[w.heap.size + 1 + 1]? = some (.cells #[.int .u32 0, .int .u32 j] 30 (0, 0))
  b3 : W.heap[w.heap.size + 1 + 1 + 1]? = some (.cells #[.int .u32 0, .int .u32 a] 30 (0, 0))
  b4 : W.heap[w.heap.size + 1 + 1 + 1 + 1]? = some (.cells row 232 (0, 0))
  grew : Grew (fun _ => False) w W

theorem GBox.lt {w W : World} {sl nl : Int} {j a : Nat} {row : Array Value} (h : GBox w W sl nl j a row) : w.heap.size + 1 + 1 + 1 + 1 < W.heap.size := blk_lt h.b4

def GLoop (w : World) (sl nl : Int) (i j a : Nat) (li0 li1 : Int) (rowi rowj : Array Value) (g : Nat) (wr : World) : Prop :=
  (g = 1 ∧ li0 = 0 ∧ li1 = j ∧ GBox w wr sl nl i a rowi) ∨ (g = 0 ∧ GBox w wr sl nl j a rowj)

theorem gloop_step0 {w W : World} {sl nl : Int} {i j a : Nat} {row : Array Value} (h : GBox w W sl nl i a row) :
    GBox w ((W.setCell ⟨w.heap.size + 1 + 1, 0, none⟩ (.int .u32 0)).setCell ⟨w.heap.size + 1 + 1, 1, none⟩ (.int .u32 j)) sl nl j a row := by
  refine ⟨?_, ?_, blk_set (blk_set h.b2 0 _) 1 _, ?_, ?_, ?_⟩
  · exact blk_set_other (blk_set_other h.b0 _ _ (by simp; omega)) _ _ (by simp; omega)
  · exact blk_set_other (blk_set_other h.b1 _ _ (by simp)) _ _ (by simp)
  · exact blk_set_other (blk_set_other h.b3 _ _ (by simp)) _ _ (by simp)
  · exact blk_set_other (blk_set_other h.b4 _ _ (by simp; try omega)) _ _ (by simp; try omega)
  · exact Grew.setCell (Grew.setCell h.grew (.inr (by simp; omega)) _) (.inr (by simp; omega)) _

theorem set10 (a0 a1 a2 a3 a4 a5 a6 a7 a8 a9 b0 b1 b2 b3 b4 b5 b6 b7 b8 b9 : Value) :
    ((((((((((#[a0, a1, a2, a3, a4, a5, a6, a7, a8, a9].setIfInBounds 0 b0).setIfInBounds 1 b1).setIfInBounds 2 b2).setIfInBounds 3 b3).setIfInBounds 4 b4).setIfInBounds 5 b5).setIfInBounds 6 b6).setIfInBounds 7 b7).setIfInBounds 8 b8).setIfInBounds 9 b9) = #[b0, b1, b2, b3, b4, b5, b6, b7, b8, b9] := by simp

set_option maxHeartbeats 1000000 in
theorem gloop_step {w W : World} {sl nl : Int} {j a : Nat} {l0 l1 uc kind l0' l1' uc' kind' : Int} {nm nm' : ByteArray}
    (h : GBox w W sl nl j a (symRow l0 l1 uc kind nm)) :
    GBox w ((((((((((W.setCell ⟨w.heap.size + 1 + 1 + 1 + 1, 0, none⟩ (.pointer none)).setCell ⟨w.heap.size + 1 + 1 + 1 + 1, 1, none⟩ (.string nm')).setCell ⟨w.heap.size + 1 + 1 + 1 + 1, 2, none⟩ (.int .u32 l0')).setCell ⟨w.heap.size + 1 + 1 + 1 + 1, 3, none⟩ (.int .u32 l1')).setCell ⟨w.heap.size + 1 + 1 + 1 + 1, 4, none⟩ (.int .u32 uc')).setCell ⟨w.heap.size + 1 + 1 + 1 + 1, 5, none⟩ (.int .u32 0)).setCell ⟨w.heap.size + 1 + 1 + 1 + 1, 6, none⟩ (.int .u32 0)).setCell ⟨w.heap.size + 1 + 1 + 1 + 1, 7, none⟩ (.int .u16 0)).setCell ⟨w.heap.size + 1 + 1 + 1 + 1, 8, none⟩ (.int .u8 kind')).setCell ⟨w.heap.size + 1 + 1 + 1 + 1, 9, none⟩ (.int .u8 0)).drew sl nl j a (symRow l0' l1' uc' kind' nm') := by
  refine ⟨blk_drew ?_, blk_drew ?_, blk_drew ?_, blk_drew ?_, ?_, Grew.drew ?_⟩
  · iterate 10 refine blk_set_other ?_ _ _ (by simp; omega)
    exact h.b0
  · iterate 10 refine blk_set_other ?_ _ _ (by simp; try omega)
    exact h.b1
  · iterate 10 refine blk_set_other ?_ _ _ (by simp; try omega)
    exact h.b2
  · iterate 10 refine blk_set_other ?_ _ _ (by simp; try omega)
    exact h.b3
  · have e := blk_drew (blk_set (blk_set (blk_set (blk_set (blk_set (blk_set (blk_set (blk_set (blk_set (blk_set h.b4 0 (.pointer none)) 1 (.string nm')) 2 (.int .u32 l0')) 3 (.int .u32 l1')) 4 (.int .u32 uc')) 5 (.int .u32 0)) 6 (.int .u32 0)) 7 (.int .u16 0)) 8 (.int .u8 kind')) 9 (.int .u8 0))
    rw [symRow, set10] at e
    exact e
  · iterate 10 refine Grew.setCell ?_ (.inr (by simp; omega)) _
    exact h.grew

/-- A variable's declaration as the function lays it: d the statement's datum, its blocks at or beyond lo. -/
def LocalAt (lo : Nat) (W : World) (kind : Int) (ex : Bool) (nl : Int) (j : Nat) (d : Value) : Prop :=
  ∃ q qd qb, lo ≤ q ∧ lo ≤ qd ∧ lo ≤ qb ∧ d = .iface 39 (.pointer (some ⟨q, 0, none⟩)) ∧
    W.heap[q]? = some (.cells #[.slice (some ⟨qd, 0, none⟩) 1 1, .int .u8 kind, .bool ex, .bool false] 49 (0, 0)) ∧
    W.heap[qd]? = some (.cells #[.iface 194 (.pointer (some ⟨qb, 0, none⟩)), .int .i32 nl, .nilIface, .int .i32 0] 60 (0, 0)) ∧
    W.heap[qb]? = some (.cells #[.int .u32 0, .int .u32 j] 198 (0, 0))

/-- What stands when the declaration has been appended, or not. -/
structure AS (w W : World) (sl nl : Int) (j a bm n0 : Nat) (h : Held) (v1 s1 : Value) (xs : List Value) (emit : Bool) (kind : Int) (ex : Bool) : Prop where
  b0 : W.heap[w.heap.size]? = some (.cells #[.int .i32 sl] 36 (0, 0))
  b1 : W.heap[w.heap.size + 1]? = some (.cells #[.int .i32 nl] 36 (0, 0))
  b2 : W.heap[w.heap.size + 1 + 1]? = some (.cells #[.int .u32 0, .int .u32 j] 30 (0, 0))
  b3 : W.heap[w.heap.size + 1 + 1 + 1]? = some (.cells #[.int .u32 0, .int .u32 a] 30 (0, 0))
  map : W.heap[bm]? = some h.obj
  row : (emit = false ∧ s1 = v1 ∧ W.ownsRow 0 45 2 v1 n0 xs) ∨ (emit = true ∧ ∃ d, LocalAt w.heap.size W kind ex nl j d ∧ W.ownsRow 0 45 2 s1 (n0 + 1) (xs ++ [d, .int .i32 sl]) ∧ (s1.ownBlock = v1.ownBlock ∨ ∃ g, s1.ownBlock = some g ∧ w.heap.size ≤ g))
  grew : Grew (fun k => k = bm ∨ v1.ownBlock = some k) w W

/-- Between the declaration and the statement: qd, qb the declaration's blocks. -/
structure Mid (w W : World) (sl nl : Int) (j a qb : Nat) : Prop where
  b0 : W.heap[w.heap.size]? = some (.cells #[.int .i32 sl] 36 (0, 0))
  b1 : W.heap[w.heap.size + 1]? = some (.cells #[.int .i32 nl] 36 (0, 0))
  b2 : W.heap[w.heap.size + 1 + 1]? = some (.cells #[.int .u32 0, .int .u32 j] 30 (0, 0))
  b3 : W.heap[w.heap.size + 1 + 1 + 1]? = some (.cells #[.int .u32 0, .int .u32 a] 30 (0, 0))
  hb : W.heap[qb]? = some (.cells #[.int .u32 0, .int .u32 j] 198 (0, 0))
  hd : W.heap[qb + 1]? = some (.cells #[.iface 194 (.pointer (some ⟨qb, 0, none⟩)), .int .i32 nl, .nilIface, .int .i32 0] 60 (0, 0))
  lo : w.heap.size ≤ qb

theorem Mid.of_box {w W : World} {sl nl : Int} {j a : Nat} {row : Array Value} (h : GBox w W sl nl j a row) :
    Mid w ((W.alloc (.cells #[.int .u32 0, .int .u32 j] 198)).alloc (.cells #[.iface 194 (.pointer (some ⟨W.heap.size, 0, none⟩)), .int .i32 nl, .nilIface, .int .i32 0] 60)) sl nl j a W.heap.size ∧
      Grew (fun _ => False) w ((W.alloc (.cells #[.int .u32 0, .int .u32 j] 198)).alloc (.cells #[.iface 194 (.pointer (some ⟨W.heap.size, 0, none⟩)), .int .i32 nl, .nilIface, .int .i32 0] 60)) :=
  ⟨⟨blk_alloc (blk_alloc h.b0 _) _, blk_alloc (blk_alloc h.b1 _) _, blk_alloc (blk_alloc h.b2 _) _, blk_alloc (blk_alloc h.b3 _) _, blk_alloc (blk_at _ _ _ rfl) _, blk_at _ _ _ (by simp), by have := h.lt; omega⟩, (h.grew.alloc _).alloc _⟩

theorem Mid.stored {w W : World} {sl nl : Int} {j a qb bm : Nat} {o o' : Obj} (h : Mid w W sl nl j a qb) (hg : Grew (fun _ => False) w W) (hm : w.heap[bm]? = some o) :
    Mid w (setBlock W.drew bm o') sl nl j a qb ∧ Grew (fun k => k = bm) w (setBlock W.drew bm o') ∧ (setBlock W.drew bm o').heap[bm]? = some o' := by
  have hlt := blk_lt hm
  have hlo := h.lo
  refine ⟨⟨?_, ?_, ?_, ?_, ?_, ?_, hlo⟩, ?_, ?_⟩
  · exact blk_sb_other (blk_drew h.b0) (by omega)
  · exact blk_sb_other (blk_drew h.b1) (by omega)
  · exact blk_sb_other (blk_drew h.b2) (by omega)
  · exact blk_sb_other (blk_drew h.b3) (by omega)
  · exact blk_sb_other (blk_drew h.hb) (by omega)
  · exact blk_sb_other (blk_drew h.hd) (by omega)
  · exact Grew.setBlock (S := fun k => k = bm) (hg.drew.mono (fun _ _ h => h.elim)) rfl _
  · exact blk_sb_same (blk_drew (hg.obj hm (fun h => h)))

theorem AS.of_emit {w W w1 : World} {sl nl : Int} {j a bm n0 qb nd g c : Nat} {h : Held} {v1 : Value} {xs : List Value} {kind : Int} {ex : Bool} {e39 e49 : Value}
    (hM : Mid w W sl nl j a qb) (hg : Grew (fun k => k = bm) w W) (hm : W.heap[bm]? = some h.obj) (_hbm : bm < w.heap.size)
    (hv : ∀ k, v1.ownBlock = some k → k < w.heap.size ∧ k ≠ bm)
    (hown : w1.ownsRow 0 45 2 (.slice (some ⟨g, 0, none⟩) (n0 + 1) c) (n0 + 1) (xs ++ [.iface 39 (.pointer (some ⟨W.heap.size, 0, none⟩)), .int .i32 sl]))
    (hgr : (((W.drewN nd).alloc (.cells #[.slice (some ⟨qb + 1, 0, none⟩) 1 1, .int .u8 kind, .bool ex, .bool false] 49)).alloc (.cells #[e39, e49] 45)).grownBy w1 v1.ownBlock)
    (hat : v1.ownBlock = some g ∨ g = W.heap.size + 1 + 1) :
    AS w w1 sl nl j a bm n0 h v1 (.slice (some ⟨g, 0, none⟩) (n0 + 1) c) xs true kind ex := by
  have hlo := hM.lo
  have hq := blk_lt hM.hd
  have G2 := Grew.of_grownBy (S := fun k => v1.ownBlock = some k) hgr (fun _ h => h)
  have ho : ∀ {k : Nat} {o : Obj}, W.heap[k]? = some o → w.heap.size ≤ k ∨ k = bm → w1.heap[k]? = some o := fun {k o} hk hs => by
    refine G2.obj (blk_alloc (blk_alloc (blk_drewN hk _) _) _) (fun hv1 => ?_)
    have := hv _ hv1
    omega
  have hs1 : w1.heap[W.heap.size]? = some (.cells #[.slice (some ⟨qb + 1, 0, none⟩) 1 1, .int .u8 kind, .bool ex, .bool false] 49) :=
    G2.obj (blk_alloc (blk_at _ _ _ rfl) _) (fun hv1 => by have := hv _ hv1; have := hg.size; omega)
  refine ⟨ho hM.b0 (.inl (by omega)), ho hM.b1 (.inl (by omega)), ho hM.b2 (.inl (by omega)), ho hM.b3 (.inl (by omega)), ho hm (.inr rfl), .inr ⟨rfl, _, ?_, hown, ?_⟩, ?_⟩
  · exact ⟨W.heap.size, qb + 1, qb, hg.size, by omega, hlo, rfl, hs1, ho hM.hd (.inl (by omega)), ho hM.hb (.inl hlo)⟩
  · rcases hat with h1 | h1
    · exact .inl (by rw [h1]; rfl)
    · exact .inr ⟨g, rfl, by have := hg.size; omega⟩
  · refine Grew.trans ((((hg.mono (T := fun k => k = bm ∨ v1.ownBlock = some k) (fun _ _ h => .inl h)).drewN nd).alloc _).alloc _) (G2.mono (fun _ _ h => .inr h))

theorem news2 (w : World) (p : Addr) (l : Int) (g : Nat) (hg : g = w.heap.size) : ∀ (k : Nat) (u : Value), [Value.iface 39 (.pointer (some p)), .int .i32 l][k]? = some u →
    (w.alloc (.cells #[.iface 39 (.pointer (some p)), .int .i32 l] 45)).cell? (Addr.add ⟨g, 0, none⟩ k) = some u := by
  intro k u hu
  subst hg
  have hb := blk_cell (blk_at w (.cells #[.iface 39 (.pointer (some p)), .int .i32 l] 45) _ rfl) k
  rw [show Addr.add ⟨w.heap.size, 0, none⟩ k = ⟨w.heap.size, k, none⟩ by cases k <;> simp [Addr.add]]
  exact hb.trans (by simpa using hu)

theorem one2 (p : Addr) (l : Int) : ∀ u ∈ [Value.iface 39 (.pointer (some p)), .int .i32 l], u.oneCell' = true := by
  intro u hu
  simp at hu
  rcases hu with rfl | rfl <;> rfl

abbrev ident (j : Nat) : Obj := .cells #[.int .u32 0, .int .u32 j, .bool false, .bool false, .bool false] 251
abbrev eobj : Obj := .cells #[.slice none 0 0, .int .i32 0, .int .i32 0, .bool false, .bool false] 193
abbrev ptr (b : Nat) : Value := .pointer (some ⟨b, 0, none⟩)
abbrev bin (l r : Value) (nl op : Int) : Obj := .cells #[l, .int .i32 nl, r, .int .i32 nl, .int .u8 op, .bool false] 217

/-- The closure's argument: 'name ||= {}' under minify, else 'name || (name = {})'. -/
def ArgIs (lo : Nat) (W : World) (nl : Int) (j : Nat) (mf : Bool) (e : Value) : Prop :=
  ∃ bb bi bo, lo ≤ bb ∧ lo ≤ bi ∧ lo ≤ bo ∧ e = .iface 211 (ptr bb) ∧ W.heap[bi]? = some (ident j) ∧ W.heap[bo]? = some eobj ∧
    ((mf = true ∧ W.heap[bb]? = some (bin (.iface 249 (ptr bi)) (.iface 190 (ptr bo)) nl 51)) ∨
     (mf = false ∧ ∃ b2 i2, lo ≤ b2 ∧ lo ≤ i2 ∧ W.heap[bb]? = some (bin (.iface 249 (ptr bi)) (.iface 211 (ptr b2)) nl 31) ∧
       W.heap[b2]? = some (bin (.iface 249 (ptr i2)) (.iface 190 (ptr bo)) nl 37) ∧ W.heap[i2]? = some (ident j)))

theorem ArgIs.grew {S : Nat → Prop} {lo j : Nat} {W W' : World} {nl : Int} {mf : Bool} {e : Value} (h : ArgIs lo W nl j mf e) (hg : Grew S W W') (hs : ∀ k, S k → k < lo) : ArgIs lo W' nl j mf e := by
  have hn : ∀ {k : Nat}, lo ≤ k → ¬ S k := fun hk hS => by have := hs _ hS; omega
  obtain ⟨bb, bi, bo, h1, h2, h3, h4, h5, h6, h7⟩ := h
  refine ⟨bb, bi, bo, h1, h2, h3, h4, hg.obj h5 (hn h2), hg.obj h6 (hn h3), ?_⟩
  rcases h7 with ⟨h8, h9⟩ | ⟨h8, b2, i2, h9, h10, h11, h12, h13⟩
  · exact .inl ⟨h8, hg.obj h9 (hn h1)⟩
  · exact .inr ⟨h8, b2, i2, h9, h10, hg.obj h11 (hn h1), hg.obj h12 (hn h9), hg.obj h13 (hn h10)⟩

def RowAt (w W : World) (sl nl : Int) (j n0 : Nat) (v1 s1 : Value) (xs : List Value) (emit : Bool) (kind : Int) (ex : Bool) : Prop :=
  (emit = false ∧ s1 = v1 ∧ W.ownsRow 0 45 2 v1 n0 xs) ∨ (emit = true ∧ ∃ d, LocalAt w.heap.size W kind ex nl j d ∧ W.ownsRow 0 45 2 s1 (n0 + 1) (xs ++ [d, .int .i32 sl]) ∧ (s1.ownBlock = v1.ownBlock ∨ ∃ g, s1.ownBlock = some g ∧ w.heap.size ≤ g))

theorem LocalAt.grew {S : Nat → Prop} {lo j : Nat} {W W' : World} {kind nl : Int} {ex : Bool} {d : Value} (h : LocalAt lo W kind ex nl j d) (hg : Grew S W W') (hs : ∀ k, S k → k < lo) : LocalAt lo W' kind ex nl j d := by
  have hn : ∀ {k : Nat}, lo ≤ k → ¬ S k := fun hk hS => by have := hs _ hS; omega
  obtain ⟨q, qd, qb, h1, h2, h3, h4, h5, h6, h7⟩ := h
  exact ⟨q, qd, qb, h1, h2, h3, h4, hg.obj h5 (hn h1), hg.obj h6 (hn h2), hg.obj h7 (hn h3)⟩

theorem RowAt.grew {S : Nat → Prop} {w W W' : World} {sl nl : Int} {j n0 : Nat} {v1 s1 : Value} {xs : List Value} {emit : Bool} {kind : Int} {ex : Bool}
    (h : RowAt w W sl nl j n0 v1 s1 xs emit kind ex) (hg : Grew S W W') (hs : ∀ k, S k → k < w.heap.size) (hv : ∀ k, v1.ownBlock = some k → ¬ S k) : RowAt w W' sl nl j n0 v1 s1 xs emit kind ex := by
  rcases h with ⟨h1, h2, h3⟩ | ⟨h1, d, h2, h3, h4⟩
  · exact .inl ⟨h1, h2, owns_same h3 fun k hk => hg.block k (h3.lt k hk).2 (hv k hk)⟩
  · refine .inr ⟨h1, d, h2.grew hg hs, owns_same h3 fun k hk => hg.block k (h3.lt k hk).2 fun hS => ?_, h4⟩
    rcases h4 with h4 | ⟨g, h4, h5⟩
    · exact hv k (h4 ▸ hk) hS
    · rw [h4] at hk; cases hk
      have := hs _ hS
      omega

theorem AS.rowAt {w W : World} {sl nl : Int} {j a bm n0 : Nat} {h : Held} {v1 s1 : Value} {xs : List Value} {emit : Bool} {kind : Int} {ex : Bool}
    (H : AS w W sl nl j a bm n0 h v1 s1 xs emit kind ex) : RowAt w W sl nl j n0 v1 s1 xs emit kind ex := H.row

theorem under123 : Tryz.prog.underlying 123 = some (.pointer 242) := by kernel_rfl
theorem size242 : (Tryz.prog.info? 242).map (·.size) = some 16 := by kernel_rfl

theorem run_same_scope (cs ms : Nat) (W : World) {c c' : Array Value} {t t' : TypeId} (hc : W.heap[cs]? = some (.cells c t (0, 0))) (hm : W.heap[ms]? = some (.cells c' t' (0, 0))) :
    (binOp .eql 123 (.pointer (some ⟨cs, 0, none⟩)) (.pointer (some ⟨ms, 0, none⟩))).run Tryz.prog W = .ok (.bool (decide (cs = ms))) W := by
  obtain ⟨i, hi, hs⟩ := Option.map_eq_some_iff.1 size242
  by_cases h : cs = ms
  · subst h
    simpa using run_eql_ptr_same (P := Tryz.prog) W _ under123 hi
  · simpa [h] using run_eql_ptr_other (P := Tryz.prog) W under123 hi (by rw [hs]; decide) (fun e => h (congrArg Addr.block e)) hc hm

theorem PFacts.grew {S : Nat → Prop} {w w' : World} {b : Nat} {pc : Array Value} {bs n cap bm : Nat} {mf : Bool} {f : Int} {cs ms : Nat} (P : PFacts w b pc bs n cap bm mf f cs ms) (hg : Grew S w w') (hb : ¬ S b) : PFacts w' b pc bs n cap bm mf f cs ms :=
  { P with hp := hg.obj P.hp hb }

/-- The code behind the k-th statement of a sequence; the pieces of a function's text, none of it typed. -/
def seqTail : Nat → Code → Code
  | 0, c => c
  | n + 1, .seq _ b => seqTail n b
  | _ + 1, c => c
def seqHead : Code → Code
  | .seq a _ => a
  | c => c
noncomputable def genArg : Code := seqTail 1 (seqHead (seqTail 5 (Tryz.f32.body.getD .skip)))
noncomputable def genTgt : Code := seqTail 1 (seqHead (seqTail 8 (Tryz.f32.body.getD .skip)))
noncomputable def genEnd : Code := seqHead (seqTail 9 (Tryz.f32.body.getD .skip))
end Go.Proofs.YtnikgjgjmpoglaaGreatFmt
