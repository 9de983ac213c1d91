/-
  FnNamespaceVarEmittedOncePerSymbol: the link with what it leaves standing, and one call of the generator. Conditions: as listed.
-/
import Derived.Test.YtnikgjgjmpoglaaGreatFmtT5
namespace Go.Proofs.YtnikgjgjmpoglaaGreatFmt
open Go Go.RowKit
set_option maxRecDepth 100000

def Kept (w w' : World) : Prop := ∀ (k : Nat) (c : Array Value) (t : TypeId), w.heap[k]? = some (.cells c t (0, 0)) → t ≠ 232 → t ≠ 45 → w'.heap[k]? = some (.cells c t (0, 0))

def Link5 (w0 w : World) (b bs bm cs ms n cap : Nat) (pc : Array Value) (mf na : Bool) (h : Held) (rows' : List Sym) (e : Ending) (w' : World) : Prop :=
  e = .returned (.tuple #[]) ∧ (∃ cur', Ready w0 w' b bs bm cs ms n cap pc cur' mf na h rows') ∧ Kept w w'

theorem link5 {w0 w : World} {b bs bm cs ms n cap : Nat} {pc cur : Array Value} {mf na : Bool} {h : Held} {rows : List Sym} (R : Ready w0 w b bs bm cs ms n cap pc cur mf na h rows) {i : Nat} {s : Sym} (hi : rows[i]? = some s) (j : Nat) :
    Calls Tryz.prog 19 #[.pointer (some ⟨b, 0, none⟩), .agg #[.int .u32 0, .int .u32 i], .agg #[.int .u32 0, .int .u32 j]] w (Link5 w0 w b bs bm cs ms n cap pc mf na h (rows.set i (s.linked j))) := by
  have hl := (List.getElem?_eq_some_iff.1 hi).1
  have hbs : b ≠ bs := R.P.ne R.hc
  refine (linkSymbol_any b bs i j n cap _ _ w ((blk_cell R.P.hp 106).trans R.P.c106) (R.len ▸ hl) R.hn hbs ((blk_cell R.hc _).trans (R.hr i s hi 2 (by decide))) ((blk_cell R.hc _).trans (R.hr i s hi 3 (by decide))) (blk_free R.hc _) (blk_free R.hc _)).mono ?_
  rintro e w' ⟨rfl, rfl⟩
  have hg : Grew (fun k => k = bs) w ((((w.setCell ⟨bs, i * 10 + 2, none⟩ (.int .u32 0)).setCell ⟨bs, i * 10 + 3, none⟩ (.int .u32 j)).alloc (.cells #[.int .u32 0, .int .u32 i] 30)).alloc (.cells #[.int .u32 0, .int .u32 j] 30)).drew :=
    (((Grew.setCell (S := fun k => k = bs) (p := ⟨bs, _, none⟩) (Grew.setCell (S := fun k => k = bs) (p := ⟨bs, _, none⟩) (Grew.refl _ w) (.inl rfl) _) (.inl rfl) _).alloc _).alloc _).drew
  have hne : ∀ {k : Nat} {c : Array Value} {t : TypeId}, w.heap[k]? = some (.cells c t (0, 0)) → t ≠ 232 → k ≠ bs := fun hk ht e => by
    subst e
    have := hk.symm.trans R.hc
    injection this with this
    injection this with _ this _
    exact ht this
  refine ⟨rfl, ⟨(cur.setIfInBounds (i * 10 + 2) (.int .u32 0)).setIfInBounds (i * 10 + 3) (.int .u32 j), { R with P := R.P.grew hg hbs, hc := blk_drew (blk_alloc (blk_alloc (blk_set (blk_set R.hc _ _) _ _) _) _), len := by simpa using R.len, hr := ?_, hm := hg.obj R.hm (fun e => Held.not_cells R.hm (e ▸ R.hc)), hcs := ?_, hms := ?_, gr := ?_ }⟩, fun k c t hk ht _ => hg.obj hk (hne hk ht)⟩
  · intro i' s' hi' k hk
    have c2 := (Array.getElem?_eq_some_iff.1 ((R.hr i s hi 2 (by decide)).trans (show s.row[2]? = some (.int .u32 s.l0) from rfl))).1
    have c3 := (Array.getElem?_eq_some_iff.1 ((R.hr i s hi 3 (by decide)).trans (show s.row[3]? = some (.int .u32 s.l1) from rfl))).1
    by_cases e : i' = i
    · subst e
      rw [List.getElem?_set_self hl] at hi'
      obtain rfl : s.linked j = s' := by simpa using hi'
      have : k = 2 ∨ k = 3 ∨ (k ≠ 2 ∧ k ≠ 3) := by omega
      rcases this with rfl | rfl | ⟨e2, e3⟩
      · rw [Array.getElem?_setIfInBounds_ne (by omega), Array.getElem?_setIfInBounds_self_of_lt c2]; rfl
      · rw [Array.getElem?_setIfInBounds_self_of_lt (by simpa using c3)]; rfl
      · rw [Array.getElem?_setIfInBounds_ne (by omega), Array.getElem?_setIfInBounds_ne (by omega), R.hr i' s hi k hk]
        have : k = 0 ∨ k = 1 ∨ k = 4 ∨ k = 5 ∨ k = 6 ∨ k = 7 ∨ k = 8 ∨ k = 9 := by omega
        rcases this with rfl | rfl | rfl | rfl | rfl | rfl | rfl | rfl <;> rfl
    · rw [List.getElem?_set_ne (fun h => e h.symm)] at hi'
      rw [Array.getElem?_setIfInBounds_ne (by omega), Array.getElem?_setIfInBounds_ne (by omega)]
      exact R.hr i' s' hi' k hk
  · exact R.hcs.imp fun c hc => hg.obj hc (hne hc (by decide))
  · exact R.hms.imp fun c hc => hg.obj hc (hne hc (by decide))
  · exact (Grew.trans (R.gr.mono (T := fun k => w0.heap.size ≤ k) (fun _ _ h => h.elim)) (hg.mono fun k _ h => h ▸ R.lbs)).mono fun k hk h => by omega

/-- What one call of the generator leaves, from no statements and with no body. -/
def Out5 (w0 w : World) (b bs bm cs cap : Nat) (pc : Array Value) (h' : Held) (rows' : List Sym) (j : Nat) (emit : Bool) (e : Ending) (w' : World) : Prop :=
  ∃ (g c n1 qs : Nat) (cur' : Array Value), e = .returned (.slice (some ⟨g, 0, none⟩) (n1 + 1) c) ∧ n1 = (if emit then 1 else 0) ∧
    (emit = true → w'.cell? ⟨g, 1, none⟩ = some (.int .i32 0) ∧ ∃ q qd qb, w'.cell? ⟨g, 0, none⟩ = some (.iface 39 (.pointer (some ⟨q, 0, none⟩))) ∧ w'.cell? ⟨q, 0, none⟩ = some (.slice (some ⟨qd, 0, none⟩) 1 1) ∧
      w'.cell? ⟨qd, 0, none⟩ = some (.iface 194 (.pointer (some ⟨qb, 0, none⟩))) ∧ w'.cell? ⟨qd, 1, none⟩ = some (.int .i32 0) ∧ w'.heap[qb]? = some (.cells #[.int .u32 0, .int .u32 j] 198 (0, 0))) ∧
    w'.cell? ⟨g, n1 * 2, none⟩ = some (.iface 199 (.pointer (some ⟨qs, 0, none⟩))) ∧ w'.cell? ⟨g, n1 * 2 + 1, none⟩ = some (.int .i32 0) ∧
    ShapeAt w' 0 0 j 2 0 false false false (.iface 199 (.pointer (some ⟨qs, 0, none⟩))) ∧ Ready w0 w' b bs bm cs cs 3 cap pc cur' false false h' rows' ∧ Kept w w'

set_option maxHeartbeats 1000000 in
theorem gen5 (w0 w : World) (b bs bm cs cap : Nat) (pc cur : Array Value) (h : Held) (rows : List Sym) (R : Ready w0 w b bs bm cs cs 3 cap pc cur false false h rows) (i j : Nat) (jf : Fin 2) (hjf : (jf : Nat) = j) (si sj : Sym) (hi : rows[i]? = some si) (hj : rows[j]? = some sj) (hl0 : sj.l0 = 4294967295 ∧ sj.l1 = 4294967295) (hlk : i = j ∨ (si.l0 = 0 ∧ si.l1 = j))
    (hu0 : 0 ≤ sj.uc) (hu1 : sj.uc ≤ 90000) (emit : Bool) (hem : ((sj.kind == 20 || sj.kind == 19) && !h.has jf) = emit) :
    Calls Tryz.prog 16 #[.pointer (some ⟨b, 0, none⟩), .slice none 0 0, .agg #[.int .i32 0], .bool false, .agg #[.int .i32 0], .agg #[.int .u32 0, .int .u32 i], .agg #[.int .u32 0, .int .u32 2], .slice none 0 0] w
      (Out5 w0 w b bs bm cs cap pc (if emit then h.put jf else h) (rows.set j (sj.used 2)) j emit) := by
  refine (gen16 w0 w b bs bm cs cs 3 cap pc cur false false h rows R i j 2 0 0 jf hjf si sj hi hj hl0 hlk 0 0 false emit (.slice none 0 0) (.slice none 0 0) [] [] (World.ownsRow_nil _ 0 45 2) (Nat.zero_le _) (fun k hk => by simp [Value.ownBlock] at hk) (World.ownsRow_nil _ 0 45 2) (Nat.zero_le _) (fun k hk => by simp [Value.ownBlock] at hk) (fun k hk => by simp [Value.ownBlock] at hk) (fun i hi => by omega) (fun _ _ h => by cases h) hu0 hu1 hem).mono ?_
  rintro e w' ⟨g, c, n1, xs1, d, cur', rfl, h1, h2, h3, h4, h5⟩
  rw [if_pos rfl, if_pos rfl] at h1
  obtain ⟨qs, rfl⟩ : ∃ qs, d = .iface 199 (.pointer (some ⟨qs, 0, none⟩)) := by
    obtain ⟨qs, _, _, _, _, _, _, _, _, _, _, _, h, _⟩ := h3
    exact ⟨qs, h⟩
  rcases h1 with ⟨rfl, rfl, rfl⟩ | ⟨rfl, rfl, d0, rfl, h1⟩
  · exact ⟨g, c, 0, qs, cur', rfl, rfl, fun h => (by cases h), h2.cellAt 0 (by decide), h2.cellAt 1 (by decide), h3, h4, h5⟩
  · obtain ⟨q, qd, qb, _, _, _, rfl, a1, a2, a3⟩ := h1
    exact ⟨g, c, 1, qs, cur', rfl, rfl, fun _ => ⟨h2.cellAt 1 (by decide), q, qd, qb, h2.cellAt 0 (by decide), (blk_cell a1 0).trans rfl, (blk_cell a2 0).trans rfl, (blk_cell a2 1).trans rfl, a3⟩, h2.cellAt 2 (by decide), h2.cellAt 3 (by decide), h3, h4, h5⟩
end Go.Proofs.YtnikgjgjmpoglaaGreatFmt
