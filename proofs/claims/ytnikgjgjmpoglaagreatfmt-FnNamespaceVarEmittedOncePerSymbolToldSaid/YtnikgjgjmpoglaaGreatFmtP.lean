/-
  Ready out of the preparation; linkSymbol, useCount, ZZgenNamespaceClosure over Ready. Conditions: as listed.
-/
import Derived.Test.YtnikgjgjmpoglaaGreatFmtO
namespace Go.Proofs.YtnikgjgjmpoglaaGreatFmt
open Go Go.RowKit
set_option maxRecDepth 100000

def Sym.fresh (kind : Int) (nm : ByteArray) : Sym := ⟨4294967295, 4294967295, 0, kind, nm⟩
theorem Sym.fresh_row (kind : Int) (nm : ByteArray) : (Sym.fresh kind nm).row.toList = symCells kind nm := rfl

def cellsOfSyms : List Sym → List Value
  | [] => []
  | s :: l => s.row.toList ++ cellsOfSyms l

theorem row_len (s : Sym) : s.row.toList.length = 10 := rfl

theorem cellsOfSyms_at : ∀ (rows : List Sym) (i : Nat) (s : Sym), rows[i]? = some s → ∀ k, k < 10 → (cellsOfSyms rows)[i * 10 + k]? = s.row[k]?
  | [], i, s, h, _, _ => by simp at h
  | r :: l, 0, s, h, k, hk => by
    obtain rfl : r = s := by simpa using h
    rw [cellsOfSyms, Nat.zero_mul, Nat.zero_add, List.getElem?_append_left (by rw [row_len]; exact hk)]
    simp
  | r :: l, i + 1, s, h, k, hk => by
    rw [cellsOfSyms, List.getElem?_append_right (by rw [row_len]; omega), row_len, show (i + 1) * 10 + k - 10 = i * 10 + k by omega]
    exact cellsOfSyms_at l i s (by simpa using h) k hk

theorem cellsOfSyms_len : ∀ rows : List Sym, (cellsOfSyms rows).length = rows.length * 10
  | [] => rfl
  | r :: l => by rw [cellsOfSyms, List.length_append, row_len, cellsOfSyms_len l, List.length_cons]; omega

theorem Ready.of {w0 w : World} {b bm cs ms bs cap : Nat} {pc : Array Value} {mf na : Bool} {a177 : Value} {h : Held} (rows : List Sym)
    (s : St w0 w b bm pc mf (if na then 4 else 0) (.pointer (some ⟨cs, 0, none⟩)) (.slice (some ⟨bs, 0, none⟩) rows.length cap) a177 (.pointer (some ⟨ms, 0, none⟩)) h)
    (ho : w.ownsRow 0 232 10 (.slice (some ⟨bs, 0, none⟩) rows.length cap) rows.length (cellsOfSyms rows)) (hn : rows.length ≤ 10) (hl : w0.heap.size ≤ bs)
    (hcs : ∃ c, w.heap[cs]? = some (.cells c 242 (0, 0))) (hms : ∃ c, w.heap[ms]? = some (.cells c 242 (0, 0))) :
    ∃ cur, Ready w0 w b bs bm cs ms rows.length cap pc cur mf na h rows := by
  obtain ⟨cur, h2, h5⟩ : ∃ cur, w.heap[bs]? = some (.cells cur 232 (0, 0)) ∧ cur.toList.take (rows.length * 10) = cellsOfSyms rows := by
    rcases ho.2 with ⟨e, _⟩ | ⟨g, cap', cur, e, _, h2, _, _, _, h5⟩
    · cases e
    · obtain ⟨e1, _⟩ := Value.slice.inj e
      obtain rfl : bs = g := by simpa using e1
      exact ⟨cur, h2, h5⟩
  refine ⟨cur, ⟨⟨s.hp, s.pcs.c23, s.pcs.c32, s.pcs.c41, s.pcs.c104, s.pcs.c105, s.pcs.c106, s.pcs.c161, s.pcs.c168, s.pcs.c187, s.pcs.c350⟩, h2, rfl, hn, ?_, s.hm, hcs, hms, s.gr, s.lb, hl, s.lbm, s.z, s.g0, s.g1⟩⟩
  intro i x hx k hk
  have hil := (List.getElem?_eq_some_iff.1 hx).1
  have e := cellsOfSyms_at rows i x hx k hk
  rw [← h5, List.getElem?_take_of_lt (by omega), Array.getElem?_toList] at e
  exact e

theorem use_law {w0 w : World} {b bs bm cs ms n cap : Nat} {pc cur : Array Value} {mf na : Bool} {h : Held} {rows : List Sym} (R : Ready w0 w b bs bm cs ms n cap pc cur mf na h rows) {i : Nat} {s : Sym} (hi : rows[i]? = some s) :
    Calls Tryz.prog 15 #[.pointer (some ⟨b, 0, none⟩), .agg #[.int .u32 0, .int .u32 i]] w fun e w' => e = .returned (.int .u32 s.uc) ∧ Grew (fun _ => False) w w' :=
  useCount_any b bs i n cap s.uc w ((blk_cell R.P.hp 106).trans R.P.c106) (R.len ▸ (List.getElem?_eq_some_iff.1 hi).1) R.hn ((blk_cell R.hc _).trans (R.hr i s hi 4 (by decide)))

def Sym.linked (s : Sym) (j : Nat) : Sym := { s with l0 := 0, l1 := j }

def LinkLaw (w0 : World) (b bs bm cs ms n cap : Nat) (pc : Array Value) (mf na : Bool) (h : Held) (rows' : List Sym) (e : Ending) (w' : World) : Prop :=
  e = .returned (.tuple #[]) ∧ ∃ cur', Ready w0 w' b bs bm cs ms n cap pc cur' mf na h rows'

theorem link_law {w0 w : World} {b bs bm cs ms n cap : Nat} {pc cur : Array Value} {mf na : Bool} {h : Held} {rows : List Sym} (R : Ready w0 w b bs bm cs ms n cap pc cur mf na h rows) {i : Nat} {s : Sym} (hi : rows[i]? = some s) (j : Nat) :
    Calls Tryz.prog 19 #[.pointer (some ⟨b, 0, none⟩), .agg #[.int .u32 0, .int .u32 i], .agg #[.int .u32 0, .int .u32 j]] w (LinkLaw w0 b bs bm cs ms n cap pc mf na h (rows.set i (s.linked j))) := by
  have hl := (List.getElem?_eq_some_iff.1 hi).1
  have hbs : b ≠ bs := R.P.ne R.hc
  refine (linkSymbol_any b bs i j n cap _ _ w ((blk_cell R.P.hp 106).trans R.P.c106) (R.len ▸ hl) R.hn hbs ((blk_cell R.hc _).trans (R.hr i s hi 2 (by decide))) ((blk_cell R.hc _).trans (R.hr i s hi 3 (by decide))) (blk_free R.hc _) (blk_free R.hc _)).mono ?_
  rintro e w' ⟨rfl, rfl⟩
  have hg : Grew (fun k => k = bs) w ((((w.setCell ⟨bs, i * 10 + 2, none⟩ (.int .u32 0)).setCell ⟨bs, i * 10 + 3, none⟩ (.int .u32 j)).alloc (.cells #[.int .u32 0, .int .u32 i] 30)).alloc (.cells #[.int .u32 0, .int .u32 j] 30)).drew :=
    (((Grew.setCell (S := fun k => k = bs) (p := ⟨bs, _, none⟩) (Grew.setCell (S := fun k => k = bs) (p := ⟨bs, _, none⟩) (Grew.refl _ w) (.inl rfl) _) (.inl rfl) _).alloc _).alloc _).drew
  have hne : ∀ {k : Nat} {c : Array Value}, w.heap[k]? = some (.cells c 242 (0, 0)) → k ≠ bs := fun hk e => by
    subst e
    have := hk.symm.trans R.hc
    injection this with this
    injection this with _ this _
    exact absurd this (by decide)
  refine ⟨rfl, (cur.setIfInBounds (i * 10 + 2) (.int .u32 0)).setIfInBounds (i * 10 + 3) (.int .u32 j), { R with P := R.P.grew hg hbs, hc := blk_drew (blk_alloc (blk_alloc (blk_set (blk_set R.hc _ _) _ _) _) _), len := by simpa using R.len, hr := ?_, hm := hg.obj R.hm (fun e => Held.not_cells R.hm (e ▸ R.hc)), hcs := ?_, hms := ?_, gr := ?_ }⟩
  · intro i' s' hi' k hk
    have c2 := (Array.getElem?_eq_some_iff.1 ((R.hr i s hi 2 (by decide)).trans (show s.row[2]? = some (.int .u32 s.l0) from rfl))).1
    have c3 := (Array.getElem?_eq_some_iff.1 ((R.hr i s hi 3 (by decide)).trans (show s.row[3]? = some (.int .u32 s.l1) from rfl))).1
    by_cases e : i' = i
    · subst e
      rw [List.getElem?_set_self hl] at hi'
      obtain rfl : s.linked j = s' := by simpa using hi'
      have : k = 2 ∨ k = 3 ∨ (k ≠ 2 ∧ k ≠ 3) := by omega
      rcases this with rfl | rfl | ⟨e2, e3⟩
      · rw [Array.getElem?_setIfInBounds_ne (by omega), Array.getElem?_setIfInBounds_self_of_lt c2]; rfl
      · rw [Array.getElem?_setIfInBounds_self_of_lt (by simpa using c3)]; rfl
      · rw [Array.getElem?_setIfInBounds_ne (by omega), Array.getElem?_setIfInBounds_ne (by omega), R.hr i' s hi k hk]
        have : k = 0 ∨ k = 1 ∨ k = 4 ∨ k = 5 ∨ k = 6 ∨ k = 7 ∨ k = 8 ∨ k = 9 := by omega
        rcases this with rfl | rfl | rfl | rfl | rfl | rfl | rfl | rfl <;> rfl
    · rw [List.getElem?_set_ne (fun h => e h.symm)] at hi'
      rw [Array.getElem?_setIfInBounds_ne (by omega), Array.getElem?_setIfInBounds_ne (by omega)]
      exact R.hr i' s' hi' k hk
  · exact R.hcs.imp fun c hc => hg.obj hc (hne hc)
  · exact R.hms.imp fun c hc => hg.obj hc (hne hc)
  · exact (Grew.trans (R.gr.mono (T := fun k => w0.heap.size ≤ k) (fun _ _ h => h.elim)) (hg.mono fun k _ h => h ▸ R.lbs)).mono fun k hk h => by omega

set_option maxHeartbeats 1000000 in
theorem gen16 (w0 w : World) (b bs bm cs ms n cap : Nat) (pc cur : Array Value) (mf na : Bool) (h : Held) (rows : List Sym) (R : Ready w0 w b bs bm cs ms n cap pc cur mf na h rows)
    (i j a n0 m : Nat) (jf : Fin 2) (hjf : (jf : Nat) = j) (si sj : Sym) (hi : rows[i]? = some si) (hj : rows[j]? = some sj) (hjl : sj.l0 = 4294967295 ∧ sj.l1 = 4294967295) (hlk : i = j ∨ (si.l0 = 0 ∧ si.l1 = j))
    (sl nl : Int) (ex emit : Bool) (v1 v7 : Value) (xs ys : List Value) (hv : w.ownsRow 0 45 2 v1 n0 xs) (hn0 : n0 ≤ 4096) (hv0 : ∀ k, v1.ownBlock = some k → w0.heap.size ≤ k)
    (h7 : w.ownsRow 0 45 2 v7 m ys) (hm7 : m ≤ 4096) (h70 : ∀ k, v7.ownBlock = some k → w0.heap.size ≤ k) (h17 : ∀ k, v1.ownBlock = some k → v7.ownBlock ≠ some k) (hy : BodyOk m false ys)
    (hq7 : mf = true → na = false → m = 1 → ∃ q t z l, ys[0]? = some (.iface 199 (.pointer (some ⟨q, 0, none⟩))) ∧ w.heap[q]? = some (.cells #[.iface t z, .int .i32 l, .bool false] 206 (0, 0)))
    (hu0 : 0 ≤ sj.uc) (hu1 : sj.uc ≤ 90000) (hem : ((sj.kind == 20 || sj.kind == 19) && !h.has jf) = emit) :
    Calls Tryz.prog 16 #[.pointer (some ⟨b, 0, none⟩), v1, .agg #[.int .i32 sl], .bool ex, .agg #[.int .i32 nl], .agg #[.int .u32 0, .int .u32 i], .agg #[.int .u32 0, .int .u32 a], v7] w
      (GenLaw w0 w b bs bm cs ms n cap pc mf na emit (if emit then h.put jf else h) (rows.set j (sj.used (if mf then 1 else 2))) j a n0 m sl nl (if cs = ms then 0 else 1) (if cs = ms then ex else false) xs) := by
  have G := Lib.hid (((((Grew.refl (fun _ => False) w).alloc (.cells #[.int .i32 sl] 36)).alloc (.cells #[.int .i32 nl] 36)).alloc (.cells #[.int .u32 0, .int .u32 i] 30)).alloc (.cells #[.int .u32 0, .int .u32 a] 30))
  have H := Lib.hid (gen32 w0 _ b bs bm cs ms n cap pc cur mf na h rows (R.grew G.out) i j a n0 m jf hjf si sj hi hj hjl hlk sl nl ex emit v1 v7 xs ys ((((hv.alloc _).alloc _).alloc _).alloc _) hn0 hv0 ((((h7.alloc _).alloc _).alloc _).alloc _) hm7 h70 h17 hy
    (fun e1 e2 e3 => by obtain ⟨q, t, z, l, r1, r2⟩ := hq7 e1 e2 e3; exact ⟨q, t, z, l, r1, G.out.obj r2 (fun h => h)⟩) hu0 hu1 hem)
  have lp : w.heap.size < w.heap.size + 1 := by omega
  clear R hjf hi hj hjl hlk hv hv0 h7 h70 h17 hy hq7 hem hn0 hm7 hu0 hu1
  generalize hh' : (if emit then h.put jf else h) = h' at *
  generalize hkd : (if cs = ms then (0 : Int) else 1) = kind at *
  generalize hex : (if cs = ms then ex else false) = ex' at *
  generalize hrw : rows.set j (sj.used (if mf then 1 else 2)) = rows' at *
  clear hh' hkd hex hrw
  go_enter Tryz.func16, Tryz.ntmps16
  go_wp2_with fail
  refine H.out.mono ?_
  rintro e w' ⟨g, c, n1, xs1, d, cur', rfl, h1, h2, h3, h4, h5⟩
  have hfin : GenLaw w0 w b bs bm cs ms n cap pc mf na emit h' rows' j a n0 m sl nl kind ex' xs (.returned (.slice (some ⟨g, 0, none⟩) (n1 + 1) c)) w' := ⟨g, c, n1, xs1, d, cur', rfl, h1, h2, h3, h4, fun k c t hk t1 t2 => h5 k c t (G.out.obj hk (fun h => h)) t1 t2⟩
  have HF := Lib.hid hfin
  clear hfin h1 h2 h3 h4 h5
  go_wp2
  go_ret
  exact HF.out
end Go.Proofs.YtnikgjgjmpoglaaGreatFmt
