/-
  The law's preparation: the parser made, its scopes pushed, its symbols made; then Ready. ZZgenNamespaceClosure over Ready. Conditions: as listed.
-/
import Derived.Test.YtnikgjgjmpoglaaGreatFmtN
namespace Go.Proofs.YtnikgjgjmpoglaaGreatFmt
open Go Go.RowKit
set_option maxRecDepth 100000

structure PC (pc : Array Value) (mf : Bool) (f : Int) (r : Nat) (a104 a106 a177 a187 : Value) : Prop where
  size : pc.size = 353
  c23 : pc[23]? = some (.int .u64 f)
  c32 : pc[32]? = some (.bool false)
  c41 : pc[41]? = some (.bool mf)
  c66 : pc[66]? = some (.int .u32 0)
  c104 : pc[104]? = some a104
  c105 : pc[105]? = some (.pointer none)
  c106 : pc[106]? = some a106
  c161 : pc[161]? = some (.map (some r))
  c168 : pc[168]? = some (.pointer none)
  c177 : pc[177]? = some a177
  c187 : pc[187]? = some a187
  c350 : pc[350]? = some (.bool false)

theorem PC.init (mf : Bool) (f : Int) (r : Nat) : PC (initP mf f r) mf f r (.pointer none) (.slice none 0 0) (.slice none 0 0) (.pointer none) := by
  have hs : zeroP.size = 353 := zeroP_size
  unfold initP
  exact ⟨by simpa using hs,
    Array.getElem?_setIfInBounds_self_of_lt (by simp [hs]),
    (Array.getElem?_setIfInBounds_ne (by decide)).trans ((Array.getElem?_setIfInBounds_ne (by decide)).trans ((Array.getElem?_setIfInBounds_ne (by decide)).trans z32)),
    (Array.getElem?_setIfInBounds_ne (by decide)).trans (Array.getElem?_setIfInBounds_self_of_lt (by simp [hs])),
    (Array.getElem?_setIfInBounds_ne (by decide)).trans ((Array.getElem?_setIfInBounds_ne (by decide)).trans ((Array.getElem?_setIfInBounds_ne (by decide)).trans z66)),
    (Array.getElem?_setIfInBounds_ne (by decide)).trans ((Array.getElem?_setIfInBounds_ne (by decide)).trans ((Array.getElem?_setIfInBounds_ne (by decide)).trans z104)),
    (Array.getElem?_setIfInBounds_ne (by decide)).trans ((Array.getElem?_setIfInBounds_ne (by decide)).trans ((Array.getElem?_setIfInBounds_ne (by decide)).trans z105)),
    (Array.getElem?_setIfInBounds_ne (by decide)).trans ((Array.getElem?_setIfInBounds_ne (by decide)).trans ((Array.getElem?_setIfInBounds_ne (by decide)).trans z106)),
    (Array.getElem?_setIfInBounds_ne (by decide)).trans ((Array.getElem?_setIfInBounds_ne (by decide)).trans (Array.getElem?_setIfInBounds_self_of_lt (by simp [hs]))),
    (Array.getElem?_setIfInBounds_ne (by decide)).trans ((Array.getElem?_setIfInBounds_ne (by decide)).trans ((Array.getElem?_setIfInBounds_ne (by decide)).trans z168)),
    (Array.getElem?_setIfInBounds_ne (by decide)).trans ((Array.getElem?_setIfInBounds_ne (by decide)).trans ((Array.getElem?_setIfInBounds_ne (by decide)).trans z177)),
    (Array.getElem?_setIfInBounds_ne (by decide)).trans ((Array.getElem?_setIfInBounds_ne (by decide)).trans ((Array.getElem?_setIfInBounds_ne (by decide)).trans z187)),
    (Array.getElem?_setIfInBounds_ne (by decide)).trans ((Array.getElem?_setIfInBounds_ne (by decide)).trans ((Array.getElem?_setIfInBounds_ne (by decide)).trans z350))⟩

theorem PC.s104 {pc : Array Value} {mf : Bool} {f : Int} {r : Nat} {a104 a106 a177 a187 : Value} (h : PC pc mf f r a104 a106 a177 a187) (v : Value) : PC (pc.setIfInBounds 104 v) mf f r v a106 a177 a187 :=
  ⟨(Array.size_setIfInBounds).trans h.size, (Array.getElem?_setIfInBounds_ne (by decide)).trans h.c23, (Array.getElem?_setIfInBounds_ne (by decide)).trans h.c32, (Array.getElem?_setIfInBounds_ne (by decide)).trans h.c41, (Array.getElem?_setIfInBounds_ne (by decide)).trans h.c66, Array.getElem?_setIfInBounds_self_of_lt (by rw [h.size]; decide), (Array.getElem?_setIfInBounds_ne (by decide)).trans h.c105, (Array.getElem?_setIfInBounds_ne (by decide)).trans h.c106, (Array.getElem?_setIfInBounds_ne (by decide)).trans h.c161, (Array.getElem?_setIfInBounds_ne (by decide)).trans h.c168, (Array.getElem?_setIfInBounds_ne (by decide)).trans h.c177, (Array.getElem?_setIfInBounds_ne (by decide)).trans h.c187, (Array.getElem?_setIfInBounds_ne (by decide)).trans h.c350⟩
theorem PC.s106 {pc : Array Value} {mf : Bool} {f : Int} {r : Nat} {a104 a106 a177 a187 : Value} (h : PC pc mf f r a104 a106 a177 a187) (v : Value) : PC (pc.setIfInBounds 106 v) mf f r a104 v a177 a187 :=
  ⟨(Array.size_setIfInBounds).trans h.size, (Array.getElem?_setIfInBounds_ne (by decide)).trans h.c23, (Array.getElem?_setIfInBounds_ne (by decide)).trans h.c32, (Array.getElem?_setIfInBounds_ne (by decide)).trans h.c41, (Array.getElem?_setIfInBounds_ne (by decide)).trans h.c66, (Array.getElem?_setIfInBounds_ne (by decide)).trans h.c104, (Array.getElem?_setIfInBounds_ne (by decide)).trans h.c105, Array.getElem?_setIfInBounds_self_of_lt (by rw [h.size]; decide), (Array.getElem?_setIfInBounds_ne (by decide)).trans h.c161, (Array.getElem?_setIfInBounds_ne (by decide)).trans h.c168, (Array.getElem?_setIfInBounds_ne (by decide)).trans h.c177, (Array.getElem?_setIfInBounds_ne (by decide)).trans h.c187, (Array.getElem?_setIfInBounds_ne (by decide)).trans h.c350⟩
theorem PC.s177 {pc : Array Value} {mf : Bool} {f : Int} {r : Nat} {a104 a106 a177 a187 : Value} (h : PC pc mf f r a104 a106 a177 a187) (v : Value) : PC (pc.setIfInBounds 177 v) mf f r a104 a106 v a187 :=
  ⟨(Array.size_setIfInBounds).trans h.size, (Array.getElem?_setIfInBounds_ne (by decide)).trans h.c23, (Array.getElem?_setIfInBounds_ne (by decide)).trans h.c32, (Array.getElem?_setIfInBounds_ne (by decide)).trans h.c41, (Array.getElem?_setIfInBounds_ne (by decide)).trans h.c66, (Array.getElem?_setIfInBounds_ne (by decide)).trans h.c104, (Array.getElem?_setIfInBounds_ne (by decide)).trans h.c105, (Array.getElem?_setIfInBounds_ne (by decide)).trans h.c106, (Array.getElem?_setIfInBounds_ne (by decide)).trans h.c161, (Array.getElem?_setIfInBounds_ne (by decide)).trans h.c168, Array.getElem?_setIfInBounds_self_of_lt (by rw [h.size]; decide), (Array.getElem?_setIfInBounds_ne (by decide)).trans h.c187, (Array.getElem?_setIfInBounds_ne (by decide)).trans h.c350⟩
theorem PC.s187 {pc : Array Value} {mf : Bool} {f : Int} {r : Nat} {a104 a106 a177 a187 : Value} (h : PC pc mf f r a104 a106 a177 a187) (v : Value) : PC (pc.setIfInBounds 187 v) mf f r a104 a106 a177 v :=
  ⟨(Array.size_setIfInBounds).trans h.size, (Array.getElem?_setIfInBounds_ne (by decide)).trans h.c23, (Array.getElem?_setIfInBounds_ne (by decide)).trans h.c32, (Array.getElem?_setIfInBounds_ne (by decide)).trans h.c41, (Array.getElem?_setIfInBounds_ne (by decide)).trans h.c66, (Array.getElem?_setIfInBounds_ne (by decide)).trans h.c104, (Array.getElem?_setIfInBounds_ne (by decide)).trans h.c105, (Array.getElem?_setIfInBounds_ne (by decide)).trans h.c106, (Array.getElem?_setIfInBounds_ne (by decide)).trans h.c161, (Array.getElem?_setIfInBounds_ne (by decide)).trans h.c168, (Array.getElem?_setIfInBounds_ne (by decide)).trans h.c177, Array.getElem?_setIfInBounds_self_of_lt (by rw [h.size]; decide), (Array.getElem?_setIfInBounds_ne (by decide)).trans h.c350⟩

/-- The parser as it stands while it is prepared. -/
structure St (w0 w : World) (b bm : Nat) (pc : Array Value) (mf : Bool) (f : Int) (a104 a106 a177 a187 : Value) (h : Held) : Prop where
  hp : w.heap[b]? = some (.cells pc 185 (0, 0))
  pcs : PC pc mf f bm a104 a106 a177 a187
  hm : w.heap[bm]? = some h.obj
  gr : Grew (fun _ => False) w0 w
  lb : w0.heap.size ≤ b
  lbm : w0.heap.size ≤ bm
  z : 0 < w0.heap.size
  g0 : w0.cell? ⟨0, 0, none⟩ = some (.int .u32 4294967295)
  g1 : w0.cell? ⟨0, 1, none⟩ = some (.int .u32 4294967295)

theorem St.to {w0 w w' : World} {b bm : Nat} {pc pc' : Array Value} {mf : Bool} {f : Int} {a104 a106 a177 a187 b104 b106 b177 b187 : Value} {h : Held} {S : Nat → Prop} (s : St w0 w b bm pc mf f a104 a106 a177 a187 h)
    (hp : w'.heap[b]? = some (.cells pc' 185 (0, 0))) (hpc : PC pc' mf f bm b104 b106 b177 b187) (hg : Grew S w w') (hS : ∀ k, S k → w0.heap.size ≤ k) (hbm : ¬ S bm) : St w0 w' b bm pc' mf f b104 b106 b177 b187 h :=
  { s with
    hp := hp
    pcs := hpc
    hm := hg.obj s.hm hbm
    gr := (Grew.trans (s.gr.mono (T := fun k => w0.heap.size ≤ k) (fun _ _ h => h.elim)) (hg.mono fun k _ h => hS k h)).mono fun k hk h => by omega }

theorem St.grew {w0 w w' : World} {b bm : Nat} {pc : Array Value} {mf : Bool} {f : Int} {a104 a106 a177 a187 : Value} {h : Held} (s : St w0 w b bm pc mf f a104 a106 a177 a187 h) (hg : Grew (fun _ => False) w w') : St w0 w' b bm pc mf f a104 a106 a177 a187 h :=
  s.to (hg.obj s.hp (fun h => h)) s.pcs hg (fun _ h => h.elim) (fun h => h)

def ParserPost (w : World) (mf : Bool) (f : Int) (e : Ending) (w' : World) : Prop :=
  ∃ b bm pc, e = .returned (.pointer (some ⟨b, 0, none⟩)) ∧ St w w' b bm pc mf f (.pointer none) (.slice none 0 0) (.slice none 0 0) (.pointer none) .nil

theorem parser_made (mf : Bool) (f : Int) (w : World) (z : 0 < w.heap.size) (g0 : w.cell? ⟨0, 0, none⟩ = some (.int .u32 4294967295)) (g1 : w.cell? ⟨0, 1, none⟩ = some (.int .u32 4294967295)) :
    Calls Tryz.prog 6 #[.bool mf, .int .u64 f] w (ParserPost w mf f) := by
  refine (newParser_any mf f w).mono ?_
  rintro e w' ⟨rfl, rfl⟩
  exact ⟨w.heap.size + 1, w.heap.size, _, rfl, blk_at _ _ _ (by simp), PC.init mf f _, blk_alloc (blk_at _ _ _ rfl) _, ((Grew.refl _ w).alloc _).alloc _, by omega, by omega, z, g0, g1⟩

/-- The first scope: its block, the order's row. -/
structure Sc1 (w0 w : World) (b bm sc gs cap : Nat) (sca : Array Value) : Prop where
  hs : w.heap[sc]? = some (.cells sca 242 (0, 0))
  s2 : sca[2]? = some (.slice none 0 0)
  s6 : sca[6]? = some (.int .i32 0)
  s14 : sca[14]? = some (.int .u8 0)
  own : w.ownsRow 0 244 2 (.slice (some ⟨gs, 0, none⟩) 1 cap) 1 [.pointer (some ⟨sc, 0, none⟩), .int .i32 1]
  ls : w0.heap.size ≤ sc
  lg : w0.heap.size ≤ gs
  ne : b ≠ sc ∧ b ≠ gs ∧ sc ≠ gs ∧ bm ≠ sc ∧ bm ≠ gs

def Push1Law (w0 : World) (b bm : Nat) (mf : Bool) (f : Int) (a106 a187 : Value) (h : Held) (e : Ending) (w' : World) : Prop :=
  e = .returned (.int .i64 0) ∧ ∃ sc gs cap sca pc', St w0 w' b bm pc' mf f (.pointer (some ⟨sc, 0, none⟩)) a106 (.slice (some ⟨gs, 0, none⟩) 1 cap) a187 h ∧ Sc1 w0 w' b bm sc gs cap sca

theorem push1_law (w0 w : World) (b bm : Nat) (pc : Array Value) (mf : Bool) (f : Int) (a106 a187 : Value) (h : Held) (s : St w0 w b bm pc mf f (.pointer none) a106 (.slice none 0 0) a187 h) :
    Calls Tryz.prog 7 #[.pointer (some ⟨b, 0, none⟩), .int .i32 1] w (Push1Law w0 b bm mf f a106 a187 h) := by
  have S := Lib.hid s
  have H := Lib.hid (pushScope1 b pc w s.hp s.pcs.c104 s.pcs.c177 (Nat.lt_of_lt_of_le s.z s.gr.size) (s.gr.cell s.g0 (fun h => h)) (s.gr.cell s.g1 (fun h => h)))
  clear s
  go_enter Tryz.func7, Tryz.ntmps7
  go_wp2_with fail
  refine H.out.mono ?_
  rintro e w' ⟨rfl, sc, g, cap, sca, h1, h2, h3, h4, h5, h6, h7, h8, h9, h10⟩
  have hb := blk_lt S.out.hp
  have hbm := blk_lt S.out.hm
  have hl := S.out.gr.size
  have hfin : Push1Law w0 b bm mf f a106 a187 h (.returned (.int .i64 0)) w' := ⟨rfl, sc, g, cap, sca, _, S.out.to h4 ((S.out.pcs.s104 _).s177 _) h10 (fun k hk => hk ▸ S.out.lb) (fun e => Held.not_cells S.out.hm (e ▸ S.out.hp)),
    h5, h6, h7, h8, h9, by omega, by omega, ⟨by omega, by omega, h3, by omega, by omega⟩⟩
  have HF := Lib.hid hfin
  clear hfin h1 h2 h3 h4 h5 h6 h7 h8 h9 h10
  go_wp2
  go_ret
  exact HF.out

def Push2Law (w0 : World) (b bm sc : Nat) (mf : Bool) (f : Int) (a106 a187 : Value) (h : Held) (e : Ending) (w' : World) : Prop :=
  e = .returned (.int .i64 1) ∧ ∃ sc2 v pc', St w0 w' b bm pc' mf f (.pointer (some ⟨sc2, 0, none⟩)) a106 v a187 h ∧ (∃ c, w'.heap[sc2]? = some (.cells c 242 (0, 0))) ∧ (∃ c, w'.heap[sc]? = some (.cells c 242 (0, 0))) ∧ sc2 ≠ sc

theorem push2_law (w0 w : World) (b bm sc gs cap : Nat) (pc sca : Array Value) (mf : Bool) (f : Int) (a106 a187 : Value) (h : Held) (s : St w0 w b bm pc mf f (.pointer (some ⟨sc, 0, none⟩)) a106 (.slice (some ⟨gs, 0, none⟩) 1 cap) a187 h) (c : Sc1 w0 w b bm sc gs cap sca) :
    Calls Tryz.prog 7 #[.pointer (some ⟨b, 0, none⟩), .int .i32 2] w (Push2Law w0 b bm sc mf f a106 a187 h) := by
  have S := Lib.hid s
  have C := Lib.hid c
  have H := Lib.hid (pushScope2 b sc gs cap pc sca w s.hp s.pcs.c104 s.pcs.c177 (Nat.lt_of_lt_of_le s.z s.gr.size) c.hs c.s2 c.s6 c.s14 c.own c.ne.1 c.ne.2.1 c.ne.2.2.1 (s.gr.cell s.g0 (fun h => h)) (s.gr.cell s.g1 (fun h => h)))
  clear s c
  go_enter Tryz.func7, Tryz.ntmps7
  go_wp2_with fail
  refine H.out.mono ?_
  rintro e w' ⟨rfl, sc2, v, h1, h2, hsc, h3, h5⟩
  have hlt := blk_lt C.out.hs
  have hfin : Push2Law w0 b bm sc mf f a106 a187 h (.returned (.int .i64 1)) w' := ⟨rfl, sc2, v, _, S.out.to h3 ((S.out.pcs.s104 _).s177 _) h5 (fun k hk => by
      rcases hk with hk | hk | hk
      · exact hk ▸ S.out.lb
      · exact hk ▸ C.out.ls
      · exact hk ▸ C.out.lg) (fun hk => by
      rcases hk with hk | hk | hk
      · exact Held.not_cells S.out.hm (hk ▸ S.out.hp)
      · exact C.out.ne.2.2.2.1 hk
      · exact C.out.ne.2.2.2.2 hk), h2, hsc, by omega⟩
  have HF := Lib.hid hfin
  clear hfin h1 h2 h3 h5 hsc
  go_wp2
  go_ret
  exact HF.out

def MarkLaw (w0 w : World) (b bm : Nat) (mf : Bool) (f : Int) (a104 a106 a177 : Value) (h : Held) (e : Ending) (w' : World) : Prop :=
  e = .returned (.tuple #[]) ∧ (∃ pc', St w0 w' b bm pc' mf f a104 a106 a177 a104 h) ∧ Grew (fun k => k = b) w w'

theorem mark_law (w0 w : World) (b bm sc : Nat) (pc : Array Value) (mf : Bool) (f : Int) (a106 a177 a187 : Value) (h : Held) (s : St w0 w b bm pc mf f (.pointer (some ⟨sc, 0, none⟩)) a106 a177 a187 h) :
    Calls Tryz.prog 8 #[.pointer (some ⟨b, 0, none⟩)] w (MarkLaw w0 w b bm mf f (.pointer (some ⟨sc, 0, none⟩)) a106 a177 h) := by
  refine (markModule_any b sc a187 w ((blk_cell s.hp 104).trans s.pcs.c104) ((blk_cell s.hp 187).trans s.pcs.c187) (blk_free s.hp 187)).mono ?_
  rintro e w' ⟨rfl, rfl⟩
  have hg : Grew (fun k => k = b) w (w.setCell ⟨b, 187, none⟩ (.pointer (some ⟨sc, 0, none⟩))) := Grew.setCell (S := fun k => k = b) (p := ⟨b, 187, none⟩) (Grew.refl _ w) (.inl rfl) _
  exact ⟨rfl, ⟨_, s.to (blk_set s.hp 187 _) (s.pcs.s187 _) hg (fun k hk => hk ▸ s.lb) (fun e => Held.not_cells s.hm (e ▸ s.hp))⟩, hg⟩

theorem Sc1.marked {w0 w w' : World} {b bm sc gs cap : Nat} {sca : Array Value} (c : Sc1 w0 w b bm sc gs cap sca) (hg : Grew (fun k => k = b) w w') : Sc1 w0 w' b bm sc gs cap sca :=
  { c with
    hs := hg.obj c.hs (fun e => c.ne.1 e.symm)
    own := owns_same c.own fun k hk => hg.block k (c.own.lt k hk).2 fun e => by
      obtain rfl : gs = k := by simpa [Value.ownBlock] using hk
      exact c.ne.2.1 e.symm }

def SymLaw (w0 w : World) (b bm : Nat) (mf : Bool) (f : Int) (a104 sv a177 a187 : Value) (h : Held) (n : Nat) (xs : List Value) (kind : Int) (nm : ByteArray) (e : Ending) (w' : World) : Prop :=
  e = .returned (.agg #[.int .u32 0, .int .u32 n]) ∧ ∃ g cap pc', St w0 w' b bm pc' mf f a104 (.slice (some ⟨g, 0, none⟩) (n + 1) cap) a177 a187 h ∧ w'.ownsRow 0 232 10 (.slice (some ⟨g, 0, none⟩) (n + 1) cap) (n + 1) (xs ++ symCells kind nm) ∧ w0.heap.size ≤ g ∧
    Grew (fun k => k = b ∨ some k = sv.ownBlock) w w'

theorem owns_type232 {w : World} {v : Value} {n : Nat} {xs : List Value} {k : Nat} (h : w.ownsRow 0 232 10 v n xs) (hk : v.ownBlock = some k) : ∃ c, w.heap[k]? = some (.cells c 232 (0, 0)) := by
  rcases h.2 with ⟨rfl, _⟩ | ⟨g, cap, cur, rfl, _, h2, _⟩
  · simp [Value.ownBlock] at hk
  · obtain rfl : g = k := by simpa [Value.ownBlock] using hk
    exact ⟨cur, h2⟩
theorem owns_ne232 {w : World} {v : Value} {n : Nat} {xs : List Value} {k : Nat} {c : Array Value} {t : TypeId} {fr : Nat × Nat} (h : w.ownsRow 0 232 10 v n xs) (ho : w.heap[k]? = some (.cells c t fr)) (ht : t ≠ 232) : v.ownBlock ≠ some k := fun hk => by
  obtain ⟨c', h'⟩ := owns_type232 h hk
  rw [h'] at ho
  injection ho with ho
  injection ho with _ ho _
  exact ht ho.symm
theorem owns_ne232_map {w : World} {v : Value} {n : Nat} {xs : List Value} {k : Nat} {h0 : Held} (h : w.ownsRow 0 232 10 v n xs) (ho : w.heap[k]? = some h0.obj) : v.ownBlock ≠ some k := fun hk => by
  obtain ⟨c', h'⟩ := owns_type232 h hk
  rw [h'] at ho
  injection ho with ho
  cases ho

theorem sym_law (w0 w : World) (b bm n : Nat) (pc : Array Value) (mf : Bool) (f : Int) (a104 sv a177 a187 : Value) (h : Held) (xs : List Value) (kind : Int) (nm : ByteArray) (s : St w0 w b bm pc mf f a104 sv a177 a187 h) (hown : w.ownsRow 0 232 10 sv n xs) (hsv : ∀ k, sv.ownBlock = some k → w0.heap.size ≤ k) (hn : n ≤ 8) :
    Calls Tryz.prog 9 #[.pointer (some ⟨b, 0, none⟩), .int .u8 kind, .string nm] w (SymLaw w0 w b bm mf f a104 sv a177 a187 h n xs kind nm) := by
  have S := Lib.hid s
  have HO := Lib.hid hown
  have HS := Lib.hid hsv
  clear s hown hsv
  have G := Lib.hid ((Grew.refl (fun _ => False) w).alloc (.cells #[.int .u32 0, .int .u32 0] 30))
  have s1 := S.out.grew G.out
  have H := Lib.hid (newSymbol_any 0 b pc kind nm sv n xs (w.alloc (.cells #[.int .u32 0, .int .u32 0] 30)) s1.hp s1.pcs.c66 s1.pcs.c106 s1.pcs.c32 (HO.out.alloc _) (Nat.zero_le _) (owns_ne232 HO.out S.out.hp (by decide)) (by omega) (Nat.lt_of_lt_of_le s1.z s1.gr.size) (s1.gr.cell s1.g0 (fun h => h)) (s1.gr.cell s1.g1 (fun h => h)))
  have S1 := Lib.hid s1
  clear s1
  go_enter Tryz.func9, Tryz.ntmps9
  go_wp2_with fail
  refine H.out.mono ?_
  rintro e w' ⟨rfl, g, cap, h1, h2, h3, h4, h5⟩
  have hl := S.out.gr.size
  have hg0 : w0.heap.size ≤ g := by
    rcases h3 with h3 | h3
    · exact HS.out g h3
    · have := G.out.size; omega
  have hS : ∀ k, (k = b ∨ some k = sv.ownBlock) → w0.heap.size ≤ k := fun k hk => by
    rcases hk with hk | hk
    · exact hk ▸ S.out.lb
    · exact HS.out k hk.symm
  have hbm : ¬ (bm = b ∨ some bm = sv.ownBlock) := fun hk => by
    rcases hk with hk | hk
    · exact Held.not_cells S.out.hm (hk ▸ S.out.hp)
    · exact owns_ne232_map HO.out S.out.hm hk.symm
  have i0 := h5.obj (blk_at _ _ w.heap.size rfl) (fun hk => by
    rcases hk with hk | hk
    · have := blk_lt S.out.hp; omega
    · have := (HO.out.lt _ hk.symm).2; omega)
  have x0 : w'.cell? ⟨w.heap.size, 0, none⟩ = some (.int .u32 0) := (blk_cell i0 0).trans rfl
  have x1 : w'.cell? ⟨w.heap.size, 1, none⟩ = some (.int .u32 0) := (blk_cell i0 1).trans rfl
  have xf0 := blk_free i0 0
  have xf1 := blk_free i0 1
  have lt := blk_lt i0
  have H1 := Lib.hid h1
  have H2 := Lib.hid h2
  have H5 := Lib.hid h5
  have HS2 := Lib.hid hS
  have HBM := Lib.hid hbm
  have HI := Lib.hid i0
  clear h1 h2 h3 h4 h5 hS hbm i0
  go_wp2
  refine bodyPost_ret (v := .agg #[.int .u32 0, .int .u32 n]) (by simp [results, Tryz.results9, go_sem, x0, x1]) rfl ?_
  have hlb := blk_lt S.out.hp
  have gg : g ≠ w.heap.size := fun e => by
    obtain ⟨c', h'⟩ := owns_type232 H2.out (k := g) rfl
    rw [e, HI.out] at h'
    injection h' with h'
    injection h' with _ h' _
    exact absurd h' (by decide)
  have g2 : Grew (fun k => k = b ∨ some k = sv.ownBlock) w ((w'.setCell ⟨w.heap.size, 0, none⟩ (.int .u32 0)).setCell ⟨w.heap.size, 1, none⟩ (.int .u32 n)) :=
    Grew.setCell (Grew.setCell (Grew.trans (G.out.mono fun _ _ h => h.elim) H5.out) (.inr (Nat.le_refl _)) _) (.inr (Nat.le_refl _)) _
  refine ⟨rfl, g, cap, _, S.out.to ?_ (S.out.pcs.s106 _) g2 HS2.out HBM.out, ?_, hg0, g2⟩
  · exact blk_set_other (blk_set_other H1.out _ _ (by simp; omega)) _ _ (by simp; omega)
  · refine owns_same H2.out fun k hk => ?_
    obtain rfl : g = k := by simpa [Value.ownBlock] using hk
    rw [heap_set_other _ _ _ (by simp; exact fun e => gg e.symm), heap_set_other _ _ _ (by simp; exact fun e => gg e.symm)]
end Go.Proofs.YtnikgjgjmpoglaaGreatFmt
