/-
  FnNamespaceClosureCaseTable's words: the boxes of its references and locations, its two rows of statements, its first call of the generator. Conditions: as listed.
-/
import Derived.Test.YtnikgjgjmpoglaaGreatFmtP
namespace Go.Proofs.YtnikgjgjmpoglaaGreatFmt
open Go Go.RowKit
set_option maxRecDepth 100000

/-- A row that mkStmts made. -/
structure MkAt (n r : Nat) (xs : List Value) (w : World) : Prop where
  own : w.ownsRow 0 45 2 (.slice (some ⟨r, 0, none⟩) n n) n xs
  st : StmtsTo 0 r w xs n

theorem MkAt.grew {n r : Nat} {xs : List Value} {w w' : World} (h : MkAt n r xs w) (hg : Grew (fun _ => False) w w') : MkAt n r xs w' :=
  ⟨owns_same h.own fun k hk => hg.block k (h.own.lt k hk).2 (fun h => h), fun i hi => by
    obtain ⟨q, z, a1, a2, a3, a4, a5⟩ := h.st i hi
    exact ⟨q, z, a1, a2, a3, a4, hg.obj a5 (fun h => h)⟩⟩

theorem MkAt.body {n r : Nat} {xs : List Value} {w : World} (h : MkAt n r xs w) : BodyOk n false xs := fun i hi => ⟨fun e => (by cases e), fun _ => by
  obtain ⟨q, z, a1, a2, a3, a4, a5⟩ := h.st i hi
  exact ⟨q, a3, a4⟩⟩

theorem mk_law (n : Nat) (w : World) (hn : n ≤ 4096) :
    Calls Tryz.prog 17 #[.int .i64 n] w fun e w' => e = .returned (.slice (some ⟨w.heap.size, 0, none⟩) n n) ∧ (∃ xs, MkAt n w.heap.size xs w') ∧ w.heap.size < w'.heap.size ∧ Grew (fun _ => False) w w' := by
  refine (mkStmts_any n w hn).mono ?_
  rintro e w' ⟨r, xs, rfl, rfl, h3, h4, h5⟩
  refine ⟨rfl, ⟨xs, h3, fun i hi => ?_⟩, (h3.lt _ rfl).2, h5⟩
  obtain ⟨q, z, a1, a2, a3, a4, a5⟩ := h4 i hi
  exact ⟨q, z, Nat.zero_le _, a2, a3, a4, a5⟩

/-- The blocks of the law's own: nameRef, argRef, the two locations. -/
structure Boxes (p22 p23 p24 p25 j a : Nat) (sl nl : Int) (w : World) : Prop where
  b22 : w.heap[p22]? = some (.cells #[.int .u32 0, .int .u32 j] 30 (0, 0))
  b23 : w.heap[p23]? = some (.cells #[.int .u32 0, .int .u32 a] 30 (0, 0))
  b24 : w.heap[p24]? = some (.cells #[.int .i32 sl] 36 (0, 0))
  b25 : w.heap[p25]? = some (.cells #[.int .i32 nl] 36 (0, 0))

theorem Boxes.grew {p22 p23 p24 p25 j a : Nat} {sl nl : Int} {w w' : World} (h : Boxes p22 p23 p24 p25 j a sl nl w) (hg : Grew (fun _ => False) w w') : Boxes p22 p23 p24 p25 j a sl nl w' :=
  ⟨hg.obj h.b22 (fun h => h), hg.obj h.b23 (fun h => h), hg.obj h.b24 (fun h => h), hg.obj h.b25 (fun h => h)⟩

/-- The cells that a region reads. -/
def BoxCells (p22 p23 p24 p25 j a : Nat) (sl nl : Int) (w : World) : Prop :=
  w.cell? ⟨p22, 0, none⟩ = some (.int .u32 0) ∧ w.cell? ⟨p22, 1, none⟩ = some (.int .u32 j) ∧ w.cell? ⟨p23, 0, none⟩ = some (.int .u32 0) ∧ w.cell? ⟨p23, 1, none⟩ = some (.int .u32 a) ∧ w.cell? ⟨p24, 0, none⟩ = some (.int .i32 sl) ∧ w.cell? ⟨p25, 0, none⟩ = some (.int .i32 nl)

theorem Boxes.cells {p22 p23 p24 p25 j a : Nat} {sl nl : Int} {w : World} (h : Boxes p22 p23 p24 p25 j a sl nl w) : BoxCells p22 p23 p24 p25 j a sl nl w :=
  ⟨(blk_cell h.b22 0).trans rfl, (blk_cell h.b22 1).trans rfl, (blk_cell h.b23 0).trans rfl, (blk_cell h.b23 1).trans rfl, (blk_cell h.b24 0).trans rfl, (blk_cell h.b25 0).trans rfl⟩

theorem Boxes.kept {p22 p23 p24 p25 j a : Nat} {sl nl : Int} {w w' : World} (h : Boxes p22 p23 p24 p25 j a sl nl w)
    (hk : ∀ (k : Nat) (c : Array Value) (t : TypeId), w.heap[k]? = some (.cells c t (0, 0)) → t ≠ 232 → t ≠ 45 → w'.heap[k]? = some (.cells c t (0, 0))) : Boxes p22 p23 p24 p25 j a sl nl w' :=
  ⟨hk _ _ _ h.b22 (by decide) (by decide), hk _ _ _ h.b23 (by decide) (by decide), hk _ _ _ h.b24 (by decide) (by decide), hk _ _ _ h.b25 (by decide) (by decide)⟩

theorem BodyOk.append {n : Nat} {xs : List Value} (h : BodyOk n false xs) (ys : List Value) : BodyOk n false (xs ++ ys) := fun i hi => ⟨fun e => by (cases e), fun _ => by
  obtain ⟨q, h1, h2⟩ := (h i hi).2 rfl
  exact ⟨q, by rw [List.getElem?_append_left (List.getElem?_eq_some_iff.1 h1).1]; exact h1, by rw [List.getElem?_append_left (List.getElem?_eq_some_iff.1 h2).1]; exact h2⟩⟩

/-- What the first call of the generator leaves. -/
def Gen4Post (w0 : World) (b bs bm cs ms n2 cap : Nat) (pc : Array Value) (mf na : Bool) (rows' : List Sym) (n m : Nat) (sl nl kind : Int) (ex : Bool) (p22 p23 p24 p25 : Nat) (e : Ending) (w' : World) : Prop :=
  ∃ (g c : Nat) (xs : List Value) (d0 d : Value) (cur' : Array Value), e = .returned (.slice (some ⟨g, 0, none⟩) (n + 2) c) ∧ w'.ownsRow 0 45 2 (.slice (some ⟨g, 0, none⟩) (n + 2) c) (n + 2) (xs ++ [d0, .int .i32 sl, d, .int .i32 sl]) ∧ xs.length = n * 2 ∧ BodyOk n false (xs ++ [d0, .int .i32 sl, d, .int .i32 sl]) ∧
    LocalAt 0 w' kind ex nl 0 d0 ∧ ShapeAt w' sl nl 0 1 m mf na (rets mf na m) d ∧ Ready w0 w' b bs bm cs ms n2 cap pc cur' mf na (.only 0) rows' ∧ Boxes p22 p23 p24 p25 0 1 sl nl w'

set_option maxHeartbeats 1000000 in
theorem gen4 (w0 w : World) (b bs bm cs ms n2 cap : Nat) (pc cur : Array Value) (mf na : Bool) (rows : List Sym) (R : Ready w0 w b bs bm cs ms n2 cap pc cur mf na .nil rows) (s0 : Sym) (h0 : rows[0]? = some s0) (hl0 : s0.l0 = 4294967295 ∧ s0.l1 = 4294967295) (hk0 : (s0.kind == 20 || s0.kind == 19) = true) (hu : s0.uc = 0)
    (n m rn rm : Nat) (xs ys : List Value) (HN : MkAt n rn xs w) (HM : MkAt m rm ys w) (hn : n ≤ 4096) (hm : m ≤ 4096) (hrn : w0.heap.size ≤ rn) (hrm : w0.heap.size ≤ rm) (hne : rn ≠ rm) (sl nl : Int) (ex : Bool) (p22 p23 p24 p25 : Nat) (HB : Boxes p22 p23 p24 p25 0 1 sl nl w) :
    Calls Tryz.prog 16 #[.pointer (some ⟨b, 0, none⟩), .slice (some ⟨rn, 0, none⟩) n n, .agg #[.int .i32 sl], .bool ex, .agg #[.int .i32 nl], .agg #[.int .u32 0, .int .u32 0], .agg #[.int .u32 0, .int .u32 1], .slice (some ⟨rm, 0, none⟩) m m] w
      (Gen4Post w0 b bs bm cs ms n2 cap pc mf na (rows.set 0 (s0.used (if mf then 1 else 2))) n m sl nl (if cs = ms then 0 else 1) (if cs = ms then ex else false) p22 p23 p24 p25) := by
  refine (gen16 w0 w b bs bm cs ms n2 cap pc cur mf na .nil rows R 0 0 1 n m 0 rfl s0 s0 h0 h0 hl0 (.inl rfl) sl nl ex true _ _ xs ys HN.own hn (fun k hk => ?_) HM.own hm (fun k hk => ?_) (fun k hk => ?_) HM.body (fun _ _ e => ?_) (by omega) (by omega) (by rw [hk0]; rfl)).mono ?_
  · obtain rfl : rn = k := by simpa [Value.ownBlock] using hk
    exact hrn
  · obtain rfl : rm = k := by simpa [Value.ownBlock] using hk
    exact hrm
  · obtain rfl : rn = k := by simpa [Value.ownBlock] using hk
    simpa [Value.ownBlock] using fun e => hne e.symm
  · subst e
    obtain ⟨q, z, a1, a2, a3, a4, a5⟩ := HM.st 0 (by decide)
    exact ⟨q, _, z, _, a3, a5⟩
  · rintro e w' ⟨g, c, n1, xs1, d, cur', rfl, h1, h2, h3, h4, h5⟩
    rcases h1 with ⟨h1, _⟩ | ⟨_, rfl, d0, rfl, h1⟩
    · cases h1
    · refine ⟨g, c, xs, d0, d, cur', rfl, by simpa using h2, HN.own.1, ?_, h1, h3, h4, HB.kept h5⟩
      exact HN.body.append _

/-- What a further call at a symbol that has its variable leaves, from no statements and with no body. -/
def Gen4bPost (w0 : World) (b bs bm cs ms n2 cap : Nat) (pc : Array Value) (mf na : Bool) (h : Held) (rows' : List Sym) (j a : Nat) (sl nl : Int) (w : World) (e : Ending) (w' : World) : Prop :=
  ∃ (g c qs : Nat) (cur' : Array Value), e = .returned (.slice (some ⟨g, 0, none⟩) 1 c) ∧ w'.cell? ⟨g, 0, none⟩ = some (.iface 199 (.pointer (some ⟨qs, 0, none⟩))) ∧ w'.cell? ⟨g, 1, none⟩ = some (.int .i32 sl) ∧
    ShapeAt w' sl nl j a 0 mf na false (.iface 199 (.pointer (some ⟨qs, 0, none⟩))) ∧ Ready w0 w' b bs bm cs ms n2 cap pc cur' mf na h rows' ∧
    (∀ (k : Nat) (c : Array Value) (t : TypeId), w.heap[k]? = some (.cells c t (0, 0)) → t ≠ 232 → t ≠ 45 → w'.heap[k]? = some (.cells c t (0, 0)))

set_option maxHeartbeats 1000000 in
theorem gen4b (w0 w : World) (b bs bm cs ms n2 cap : Nat) (pc cur : Array Value) (mf na : Bool) (h : Held) (rows : List Sym) (R : Ready w0 w b bs bm cs ms n2 cap pc cur mf na h rows) (i j a : Nat) (jf : Fin 2) (hjf : (jf : Nat) = j) (si sj : Sym) (hi : rows[i]? = some si) (h0 : rows[j]? = some sj) (hl0 : sj.l0 = 4294967295 ∧ sj.l1 = 4294967295) (hlk : i = j ∨ (si.l0 = 0 ∧ si.l1 = j))
    (hu0 : 0 ≤ sj.uc) (hu1 : sj.uc ≤ 90000) (hem : ((sj.kind == 20 || sj.kind == 19) && !h.has jf) = false) (sl nl : Int) (ex : Bool) (per : Int) (hper : per = if mf then 1 else 2) :
    Calls Tryz.prog 16 #[.pointer (some ⟨b, 0, none⟩), .slice none 0 0, .agg #[.int .i32 sl], .bool ex, .agg #[.int .i32 nl], .agg #[.int .u32 0, .int .u32 i], .agg #[.int .u32 0, .int .u32 a], .slice none 0 0] w
      (Gen4bPost w0 b bs bm cs ms n2 cap pc mf na h (rows.set j (sj.used per)) j a sl nl w) := by
  have hr0 : rets mf na 0 = false := by simp [rets]
  refine (gen16 w0 w b bs bm cs ms n2 cap pc cur mf na h rows R i j a 0 0 jf hjf si sj hi h0 hl0 hlk sl nl ex false (.slice none 0 0) (.slice none 0 0) [] [] (World.ownsRow_nil _ 0 45 2) (Nat.zero_le _) (fun k hk => by simp [Value.ownBlock] at hk) (World.ownsRow_nil _ 0 45 2) (Nat.zero_le _) (fun k hk => by simp [Value.ownBlock] at hk) (fun k hk => by simp [Value.ownBlock] at hk) (fun i hi => by omega) (fun _ _ h => by cases h) hu0 hu1 hem).mono ?_
  rintro e w' ⟨g, c, n1, xs1, d, cur', rfl, h1, h2, h3, h4, h5⟩
  rw [hr0] at h3
  subst hper
  rcases h1 with ⟨_, rfl, rfl⟩ | ⟨h1, _⟩
  · obtain ⟨qs, rfl⟩ : ∃ qs, d = .iface 199 (.pointer (some ⟨qs, 0, none⟩)) := by
      obtain ⟨qs, _, _, _, _, _, _, _, _, _, _, _, h, _⟩ := h3
      exact ⟨qs, h⟩
    exact ⟨g, c, qs, cur', rfl, h2.cellAt 0 (by decide), h2.cellAt 1 (by decide), h3, h4, h5⟩
  · cases h1
end Go.Proofs.YtnikgjgjmpoglaaGreatFmt
