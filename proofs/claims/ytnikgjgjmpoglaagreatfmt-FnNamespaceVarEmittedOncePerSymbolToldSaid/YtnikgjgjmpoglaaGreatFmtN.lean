/-
  What stands between the law's calls (Ready), and ZZgenNamespaceClosure's contract over it. Conditions: as listed.
-/
import Derived.Test.YtnikgjgjmpoglaaGreatFmtM
import Derived.Test.YtnikgjgjmpoglaaGreatFmtH6
namespace Go.Proofs.YtnikgjgjmpoglaaGreatFmt
open Go Go.RowKit
set_option maxRecDepth 100000

/-- A symbol: its link, its use count, its kind, its name. -/
structure Sym where
  l0 : Int
  l1 : Int
  uc : Int
  kind : Int
  nm : ByteArray
def Sym.row (s : Sym) : Array Value := symRow s.l0 s.l1 s.uc s.kind s.nm
def Sym.used (s : Sym) (d : Int) : Sym := { s with uc := s.uc + d }

/-- What is known of the parser between two calls. -/
structure Ready (w0 w : World) (b bs bm cs ms n cap : Nat) (pc cur : Array Value) (mf na : Bool) (h : Held) (rows : List Sym) : Prop where
  P : PFacts w b pc bs n cap bm mf (if na then 4 else 0) cs ms
  hc : w.heap[bs]? = some (.cells cur 232 (0, 0))
  len : rows.length = n
  hn : n ≤ 10
  hr : ∀ i s, rows[i]? = some s → ∀ k, k < 10 → cur[i * 10 + k]? = s.row[k]?
  hm : w.heap[bm]? = some h.obj
  hcs : ∃ c, w.heap[cs]? = some (.cells c 242 (0, 0))
  hms : ∃ c, w.heap[ms]? = some (.cells c 242 (0, 0))
  gr : Grew (fun _ => False) w0 w
  lb : w0.heap.size ≤ b
  lbs : w0.heap.size ≤ bs
  lbm : w0.heap.size ≤ bm
  z : 0 < w0.heap.size
  g0 : w0.cell? ⟨0, 0, none⟩ = some (.int .u32 4294967295)
  g1 : w0.cell? ⟨0, 1, none⟩ = some (.int .u32 4294967295)

theorem Ready.grew {w0 w w' : World} {b bs bm cs ms n cap : Nat} {pc cur : Array Value} {mf na : Bool} {h : Held} {rows : List Sym} (R : Ready w0 w b bs bm cs ms n cap pc cur mf na h rows) (hg : Grew (fun _ => False) w w') :
    Ready w0 w' b bs bm cs ms n cap pc cur mf na h rows :=
  { R with
    P := R.P.grew hg (fun h => h)
    hc := hg.obj R.hc (fun h => h)
    hm := hg.obj R.hm (fun h => h)
    hcs := R.hcs.imp fun _ h => hg.obj h (fun h => h)
    hms := R.hms.imp fun _ h => hg.obj h (fun h => h)
    gr := Grew.trans R.gr hg }

/-- The call statement's datum d, with all that it leads to. -/
def ShapeAt (W : World) (sl nl : Int) (j a m : Nat) (mf na fr : Bool) (d : Value) : Prop :=
  ∃ (qs qc qe bb bi bo qa qt c7 : Nat) (a7 : Option Addr) (tt : TypeId) (ys : List Value), d = .iface 199 (.pointer (some ⟨qs, 0, none⟩)) ∧
    W.heap[qs]? = some (sexpr (.iface 202 (ptr qc)) sl) ∧ W.heap[qc]? = some (ecall (.iface tt (ptr qt)) sl qe) ∧ W.heap[qe]? = some (.cells #[.iface 211 (ptr bb), .int .i32 nl] 58 (0, 0)) ∧
    W.heap[bi]? = some (ident j) ∧ W.heap[bo]? = some eobj ∧
    ((mf = true ∧ W.heap[bb]? = some (bin (.iface 249 (ptr bi)) (.iface 190 (ptr bo)) nl 51)) ∨ (mf = false ∧ ∃ b2 i2, W.heap[bb]? = some (bin (.iface 249 (ptr bi)) (.iface 211 (ptr b2)) nl 31) ∧ W.heap[b2]? = some (bin (.iface 249 (ptr i2)) (.iface 190 (ptr bo)) nl 37) ∧ W.heap[i2]? = some (ident j))) ∧
    ((na = true ∧ tt = 259 ∧ W.heap[qt]? = some (efun (.slice (some ⟨qa, 0, none⟩) 1 1) (.slice a7 m c7) sl)) ∨ (na = false ∧ tt = 269 ∧ W.heap[qt]? = some (earrow (.slice (some ⟨qa, 0, none⟩) 1 1) (.slice a7 m c7) sl))) ∧
    ArgsAt 0 W nl a qa ∧ W.ownsRow 0 45 2 (.slice a7 m c7) m ys ∧ BodyOk m fr ys

theorem ShapeAt.grew {W W' : World} {sl nl : Int} {j a m : Nat} {mf na fr : Bool} {d : Value} (h : ShapeAt W sl nl j a m mf na fr d) (hg : Grew (fun _ => False) W W') : ShapeAt W' sl nl j a m mf na fr d := by
  have o : ∀ {k : Nat} {x : Obj}, W.heap[k]? = some x → W'.heap[k]? = some x := fun h => hg.obj h (fun h => h)
  obtain ⟨qs, qc, qe, bb, bi, bo, qa, qt, c7, a7, tt, ys, h1, h2, h3, h4, h5, h6, h7, h8, h9, h10, h11⟩ := h
  refine ⟨qs, qc, qe, bb, bi, bo, qa, qt, c7, a7, tt, ys, h1, o h2, o h3, o h4, o h5, o h6, ?_, ?_, h9.grew hg, owns_same h10 fun k hk => hg.block k (h10.lt k hk).2 (fun h => h), h11⟩
  · rcases h7 with ⟨e, h⟩ | ⟨e, b2, i2, r1, r2, r3⟩
    · exact .inl ⟨e, o h⟩
    · exact .inr ⟨e, b2, i2, o r1, o r2, o r3⟩
  · rcases h8 with ⟨e, e2, h⟩ | ⟨e, e2, h⟩
    · exact .inl ⟨e, e2, o h⟩
    · exact .inr ⟨e, e2, o h⟩

theorem callShape_yes {W : World} {sl nl : Int} {j a m : Nat} {mf na fr : Bool} {d : Value} (h : ShapeAt W sl nl j a m mf na fr d) (hm : m ≤ 4096) :
    Calls Tryz.prog 14 #[.agg #[d, .int .i32 sl], .int .i32 sl, .int .i32 nl, .agg #[.int .u32 0, .int .u32 j], .agg #[.int .u32 0, .int .u32 a], .bool mf, .int .i64 m, .bool fr, .bool na] W (BoolPost true W) := by
  obtain ⟨qs, qc, qe, bb, bi, bo, qa, qt, c7, a7, tt, ys, rfl, h2, h3, h4, h5, h6, h7, h8, h9, h10, h11⟩ := h
  exact callShape_walk qs qc qe bb bi bo j a qa m c7 a7 sl nl mf na fr tt qt ys W h2 h3 h4 h5 h6 h7 h8 h9 h10 hm h11

theorem shape_of {W : World} {lo : Nat} {sl nl : Int} {j a m qa : Nat} {mf na : Bool} {v7 t e d : Value} {ys ys' : List Value} (hc : CallAt lo W sl nl t e d) (he : ArgIs lo W nl j mf e)
    (ht : TgtIs lo W sl na (.slice (some ⟨qa, 0, none⟩) 1 1) v7 t) (ha : ArgsAt lo W nl a qa) (hv : W.ownsRow 0 45 2 v7 m ys') (hy : BodyOk m false ys) (h1 : rets mf na m = false → ys' = ys) (h2 : rets mf na m = true → ∃ qr, ys' = ys.set 0 (.iface 224 (ptr qr))) :
    ShapeAt W sl nl j a m mf na (rets mf na m) d := by
  obtain ⟨qs, qc, qe, _, _, _, r1, r2, r3, r4⟩ := hc
  obtain ⟨bb, bi, bo, _, _, _, rfl, s1, s2, s3⟩ := he
  obtain ⟨a7, c7, rfl⟩ : ∃ a cap, v7 = .slice a m cap := by
    rcases hv.2 with ⟨rfl, hn⟩ | ⟨g, cap, cur, rfl, _⟩
    · exact ⟨_, _, by rw [show m = 0 from hn]⟩
    · exact ⟨_, _, rfl⟩
  have hb : BodyOk m (rets mf na m) ys' := by
    cases hr : rets mf na m
    · rw [h1 hr]; exact hy
    · obtain ⟨qr, hqr⟩ := h2 hr
      have hm1 : m = 1 := by simp [rets] at hr; exact hr.2
      subst hm1
      intro i hi
      obtain rfl : i = 0 := by omega
      obtain ⟨q, e1, e2⟩ := (hy 0 hi).2 rfl
      refine ⟨fun _ => ⟨qr, 0, ?_, ?_⟩, fun h => by cases h⟩
      · rw [hqr]
        have hl := hv.1
        rw [hqr] at hl
        simp only [List.length_set] at hl
        exact List.getElem?_set_self (by omega)
      · rw [hqr, List.getElem?_set_ne (by decide)]; exact e2
  have ha0 : ArgsAt 0 W nl a qa := by
    obtain ⟨_, qb, _, p3, p4⟩ := ha
    exact ⟨Nat.zero_le _, qb, Nat.zero_le _, p3, p4⟩
  obtain ⟨qt, _, ht⟩ := ht
  have hbin : (mf = true ∧ W.heap[bb]? = some (bin (.iface 249 (ptr bi)) (.iface 190 (ptr bo)) nl 51)) ∨ (mf = false ∧ ∃ b2 i2, W.heap[bb]? = some (bin (.iface 249 (ptr bi)) (.iface 211 (ptr b2)) nl 31) ∧ W.heap[b2]? = some (bin (.iface 249 (ptr i2)) (.iface 190 (ptr bo)) nl 37) ∧ W.heap[i2]? = some (ident j)) := by
    rcases s3 with s3 | ⟨e1, b2, i2, _, _, e2, e3, e4⟩
    · exact .inl s3
    · exact .inr ⟨e1, b2, i2, e2, e3, e4⟩
  rcases ht with ⟨e1, rfl, e2⟩ | ⟨e1, rfl, e2⟩
  · exact ⟨qs, qc, qe, bb, bi, bo, qa, qt, c7, a7, 259, ys', r1, r2, r3, r4, s1, s2, hbin, .inl ⟨e1, rfl, e2⟩, ha0, hv, hb⟩
  · exact ⟨qs, qc, qe, bb, bi, bo, qa, qt, c7, a7, 269, ys', r1, r2, r3, r4, s1, s2, hbin, .inr ⟨e1, rfl, e2⟩, ha0, hv, hb⟩

/-- What the generator leaves, in the law's words. -/
def GenLaw (w0 w : World) (b bs bm cs ms n cap : Nat) (pc : Array Value) (mf na emit : Bool) (h' : Held) (rows' : List Sym) (j a n0 m : Nat) (sl nl kind : Int) (ex : Bool) (xs : List Value) (e : Ending) (w' : World) : Prop :=
  ∃ (g c n1 : Nat) (xs1 : List Value) (d : Value) (cur' : Array Value), e = .returned (.slice (some ⟨g, 0, none⟩) (n1 + 1) c) ∧ RowDesc 0 w' sl nl j n0 xs emit kind ex n1 xs1 ∧ w'.ownsRow 0 45 2 (.slice (some ⟨g, 0, none⟩) (n1 + 1) c) (n1 + 1) (xs1 ++ [d, .int .i32 sl]) ∧
    ShapeAt w' sl nl j a m mf na (rets mf na m) d ∧ Ready w0 w' b bs bm cs ms n cap pc cur' mf na h' rows' ∧
    (∀ (k : Nat) (c : Array Value) (t : TypeId), w.heap[k]? = some (.cells c t (0, 0)) → t ≠ 232 → t ≠ 45 → w'.heap[k]? = some (.cells c t (0, 0)))

theorem Ready.after {w0 w w' : World} {b bs bm cs ms n cap j : Nat} {pc cur : Array Value} {mf na : Bool} {h h' : Held} {rows : List Sym} {sj : Sym} {d : Int} {v1 v7 : Value} (R : Ready w0 w b bs bm cs ms n cap pc cur mf na h rows) (hj : rows[j]? = some sj)
    (hm : w'.heap[bm]? = some h'.obj) (hs : w'.heap[bs]? = some (.cells (cur.setIfInBounds (j * 10 + 4) (.int .u32 (sj.uc + d))) 232 (0, 0)))
    (hg : Grew (fun k => k = bm ∨ k = bs ∨ v1.ownBlock = some k ∨ v7.ownBlock = some k) w w') (h1 : ∀ k, v1.ownBlock = some k → w0.heap.size ≤ k ∧ k ≠ b ∧ k ≠ cs ∧ k ≠ ms) (h7 : ∀ k, v7.ownBlock = some k → w0.heap.size ≤ k ∧ k ≠ b ∧ k ≠ cs ∧ k ≠ ms) :
    Ready w0 w' b bs bm cs ms n cap pc (cur.setIfInBounds (j * 10 + 4) (.int .u32 (sj.uc + d))) mf na h' (rows.set j (sj.used d)) := by
  have hbm : ∀ {k : Nat} {c : Array Value} {t : TypeId}, w.heap[k]? = some (.cells c t (0, 0)) → k ≠ bm := fun hk e => by subst e; exact Held.not_cells R.hm hk
  have hbs : ∀ {k : Nat} {c : Array Value} {t : TypeId}, w.heap[k]? = some (.cells c t (0, 0)) → t ≠ 232 → k ≠ bs := fun hk ht e => by
    subst e
    have := hk.symm.trans R.hc
    injection this with this
    injection this with _ this _
    exact ht this
  have hjl := (List.getElem?_eq_some_iff.1 hj).1
  refine { R with P := ?_, hc := hs, len := by simpa using R.len, hr := ?_, hm := hm, hcs := ?_, hms := ?_, gr := ?_ }
  · refine R.P.grew hg fun h => ?_
    rcases h with h | h | h | h
    · exact hbm R.P.hp h
    · exact hbs R.P.hp (by decide) h
    · exact (h1 _ h).2.1 rfl
    · exact (h7 _ h).2.1 rfl
  · intro i s hi k hk
    have hlen := (R.hr j sj hj 4 (by decide))
    by_cases e : i = j
    · subst e
      rw [List.getElem?_set_self hjl] at hi
      obtain rfl : sj.used d = s := by simpa using hi
      by_cases e4 : k = 4
      · subst e4
        rw [Array.getElem?_setIfInBounds_self_of_lt (Array.getElem?_eq_some_iff.1 (hlen.trans (show sj.row[4]? = some (.int .u32 sj.uc) from rfl))).1]
        rfl
      · rw [Array.getElem?_setIfInBounds_ne (by omega), R.hr i sj hj k hk]
        have : k = 0 ∨ k = 1 ∨ k = 2 ∨ k = 3 ∨ k = 5 ∨ k = 6 ∨ k = 7 ∨ k = 8 ∨ k = 9 := by omega
        rcases this with rfl | rfl | rfl | rfl | rfl | rfl | rfl | rfl | rfl <;> rfl
    · rw [List.getElem?_set_ne (fun h => e h.symm)] at hi
      rw [Array.getElem?_setIfInBounds_ne (by omega)]
      exact R.hr i s hi k hk
  · obtain ⟨c, hc⟩ := R.hcs
    refine ⟨c, hg.obj hc fun h => ?_⟩
    rcases h with h | h | h | h
    · exact hbm hc h
    · exact hbs hc (by decide) h
    · exact (h1 _ h).2.2.1 rfl
    · exact (h7 _ h).2.2.1 rfl
  · obtain ⟨c, hc⟩ := R.hms
    refine ⟨c, hg.obj hc fun h => ?_⟩
    rcases h with h | h | h | h
    · exact hbm hc h
    · exact hbs hc (by decide) h
    · exact (h1 _ h).2.2.2 rfl
    · exact (h7 _ h).2.2.2 rfl
  · refine (Grew.trans (R.gr.mono (T := fun k => w0.heap.size ≤ k) (fun _ _ h => h.elim)) (hg.mono (T := fun k => w0.heap.size ≤ k) fun k _ h => ?_)).mono fun k hk h => by omega
    rcases h with h | h | h | h
    · exact h ▸ R.lbm
    · exact h ▸ R.lbs
    · exact (h1 _ h).1
    · exact (h7 _ h).1

set_option maxHeartbeats 1000000 in
theorem gen32 (w0 w : World) (b bs bm cs ms n cap : Nat) (pc cur : Array Value) (mf na : Bool) (h : Held) (rows : List Sym) (R : Ready w0 w b bs bm cs ms n cap pc cur mf na h rows)
    (i j a n0 m : Nat) (jf : Fin 2) (hjf : (jf : Nat) = j) (si sj : Sym) (hi : rows[i]? = some si) (hj : rows[j]? = some sj) (hjl : sj.l0 = 4294967295 ∧ sj.l1 = 4294967295) (hlk : i = j ∨ (si.l0 = 0 ∧ si.l1 = j))
    (sl nl : Int) (ex emit : Bool) (v1 v7 : Value) (xs ys : List Value) (hv : w.ownsRow 0 45 2 v1 n0 xs) (hn0 : n0 ≤ 4096) (hv0 : ∀ k, v1.ownBlock = some k → w0.heap.size ≤ k)
    (h7 : w.ownsRow 0 45 2 v7 m ys) (hm7 : m ≤ 4096) (h70 : ∀ k, v7.ownBlock = some k → w0.heap.size ≤ k) (h17 : ∀ k, v1.ownBlock = some k → v7.ownBlock ≠ some k) (hy : BodyOk m false ys)
    (hq7 : mf = true → na = false → m = 1 → ∃ q t z l, ys[0]? = some (.iface 199 (.pointer (some ⟨q, 0, none⟩))) ∧ w.heap[q]? = some (.cells #[.iface t z, .int .i32 l, .bool false] 206 (0, 0)))
    (hu0 : 0 ≤ sj.uc) (hu1 : sj.uc ≤ 90000) (hem : ((sj.kind == 20 || sj.kind == 19) && !h.has jf) = emit) :
    Calls Tryz.prog 32 #[.pointer (some ⟨b, 0, none⟩), v1, .agg #[.int .i32 sl], .bool ex, .agg #[.int .i32 nl], .agg #[.int .u32 0, .int .u32 i], .agg #[.int .u32 0, .int .u32 a], v7] w
      (GenLaw w0 w b bs bm cs ms n cap pc mf na emit (if emit then h.put jf else h) (rows.set j (sj.used (if mf then 1 else 2))) j a n0 m sl nl (if cs = ms then 0 else 1) (if cs = ms then ex else false) xs) := by
  have hil : i < n := R.len ▸ (List.getElem?_eq_some_iff.1 hi).1
  have hjl' : j < n := R.len ▸ (List.getElem?_eq_some_iff.1 hj).1
  obtain ⟨ccs, hccs⟩ := R.hcs
  obtain ⟨cms, hcms⟩ := R.hms
  have hz := R.z
  have nb : ∀ {v : Value} {k n : Nat} {xs : List Value}, w.ownsRow 0 45 2 v n xs → v.ownBlock = some k → k ≠ b ∧ k ≠ bs ∧ k ≠ bm ∧ k ≠ cs ∧ k ≠ ms := fun {v k n xs} ho hk => by
    refine ⟨fun e => ?_, fun e => ?_, fun e => ?_, fun e => ?_, fun e => ?_⟩
    · exact owns_ne ho R.P.hp (by decide) (e ▸ hk)
    · exact owns_ne ho R.hc (by decide) (e ▸ hk)
    · exact owns_ne_map ho R.hm (e ▸ hk)
    · exact owns_ne ho hccs (by decide) (e ▸ hk)
    · exact owns_ne ho hcms (by decide) (e ▸ hk)
  have hrj : ∀ k, k < 10 → cur[j * 10 + k]? = (symRow 4294967295 4294967295 sj.uc sj.kind sj.nm)[k]? := fun k hk => by
    have := R.hr j sj hj k hk
    rw [Sym.row, hjl.1, hjl.2] at this
    exact this
  have hlk' : ∃ gg : Nat, (gg = 0 ∧ i = j ∧ symRow si.l0 si.l1 si.uc si.kind si.nm = symRow 4294967295 4294967295 sj.uc sj.kind sj.nm) ∨ (gg = 1 ∧ si.l0 = 0 ∧ si.l1 = j) := by
    rcases hlk with e | e
    · subst e
      obtain rfl : si = sj := by rw [hi] at hj; simpa using hj
      exact ⟨0, .inl ⟨rfl, rfl, by rw [hjl.1, hjl.2]⟩⟩
    · exact ⟨1, .inr ⟨rfl, e⟩⟩
  obtain ⟨gg, hgg⟩ := hlk'
  refine (gen_core b bs bm n cap cs ms i j a gg n0 m jf hjf h xs ys pc cur mf ex na emit (if na then 4 else 0) sl nl si.l0 si.l1 si.uc sj.uc si.kind sj.kind si.nm sj.nm v1 v7 w _ _ _ _
    R.P hil hjl' R.hn R.hc (R.hr i si hi) hrj hgg R.hm hv hn0 (fun k hk => ⟨(nb hv hk).1, (nb hv hk).2.1, (nb hv hk).2.2.1, by have := hv0 k hk; omega⟩)
    ⟨fun e => ?_, fun e => ?_, by have := R.lbm; omega⟩ ⟨⟨_, _, hccs⟩, ⟨_, _, hcms⟩, fun e => ?_, fun e => ?_⟩ rfl (R.gr.cell R.g0 (fun h => h)) (R.gr.cell R.g1 (fun h => h)) h7 hm7 h17 hq7 hu0 hu1 hem rfl rfl rfl rfl).mono ?_
  · exact Held.not_cells R.hm (e ▸ R.P.hp)
  · exact Held.not_cells R.hm (e ▸ R.hc)
  · exact Held.not_cells R.hm (e ▸ hccs)
  · exact Held.not_cells R.hm (e ▸ hcms)
  · intro e w' G
    obtain ⟨g, c, n1, xs1, d, t, e', qa, r1, r2, r3, r4, r5, r6, r7, r8⟩ := G.out
    obtain ⟨ys', s1, s2, s3⟩ := G.body
    refine ⟨g, c, n1, xs1, d, _, r1, ?_, r3, shape_of r4 r5 r6 r7 s1 hy s2 s3, R.after hj G.map G.sym G.grew (fun k hk => ⟨hv0 k hk, (nb hv hk).1, (nb hv hk).2.2.2⟩) (fun k hk => ⟨h70 k hk, (nb h7 hk).1, (nb h7 hk).2.2.2⟩), fun k c t hk t1 t2 => G.grew.obj hk fun hS => ?_⟩
    rotate_left
    · rcases hS with hS | hS | hS | hS
      · exact Held.not_cells R.hm (hS ▸ hk)
      · subst hS
        have := hk.symm.trans R.hc
        injection this with this
        injection this with _ this _
        exact t1 this
      · exact owns_ne hv hk t2 hS
      · exact owns_ne h7 hk t2 hS
    rcases r2 with r2 | ⟨x1, x2, d0, x3, q, qd, qb, y1, y2, y3, y4⟩
    · exact .inl r2
    · exact .inr ⟨x1, x2, d0, x3, q, qd, qb, Nat.zero_le _, Nat.zero_le _, Nat.zero_le _, y4⟩
end Go.Proofs.YtnikgjgjmpoglaaGreatFmt
