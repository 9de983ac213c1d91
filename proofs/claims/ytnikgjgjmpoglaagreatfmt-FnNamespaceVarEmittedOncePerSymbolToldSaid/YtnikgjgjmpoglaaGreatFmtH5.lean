/-
  What generateClosureForTypeScriptNamespaceOrEnum leaves, out of what its pieces leave: plain frames, no walk. Conditions: as listed.
-/
import Derived.Test.YtnikgjgjmpoglaaGreatFmtH2
import Derived.Test.YtnikgjgjmpoglaaGreatFmtH3
import Derived.Test.YtnikgjgjmpoglaaGreatFmtH4
namespace Go.Proofs.YtnikgjgjmpoglaaGreatFmt
open Go Go.RowKit
set_option maxRecDepth 100000

theorem owns_type {w : World} {v : Value} {n : Nat} {xs : List Value} {k : Nat} (h : w.ownsRow 0 45 2 v n xs) (hk : v.ownBlock = some k) : ∃ c, w.heap[k]? = some (.cells c 45 (0, 0)) := by
  rcases h.2 with ⟨rfl, _⟩ | ⟨g, cap, cur, rfl, _, h2, _⟩
  · simp [Value.ownBlock] at hk
  · obtain rfl : g = k := by simpa [Value.ownBlock] using hk
    exact ⟨cur, h2⟩
theorem owns_ne {w : World} {v : Value} {n : Nat} {xs : List Value} {k : Nat} {c : Array Value} {t : TypeId} {fr : Nat × Nat} (h : w.ownsRow 0 45 2 v n xs) (ho : w.heap[k]? = some (.cells c t fr)) (ht : t ≠ 45) : v.ownBlock ≠ some k := fun hk => by
  obtain ⟨c', h'⟩ := owns_type h hk
  rw [h'] at ho
  injection ho with ho
  injection ho with _ ho _
  exact ht ho.symm
theorem owns_ne_map {w : World} {v : Value} {n : Nat} {xs : List Value} {k : Nat} {h0 : Held} (h : w.ownsRow 0 45 2 v n xs) (ho : w.heap[k]? = some h0.obj) : v.ownBlock ≠ some k := fun hk => by
  obtain ⟨c', h'⟩ := owns_type h hk
  rw [h'] at ho
  injection ho with ho
  cases ho

def ArgsAt (lo : Nat) (W : World) (nl : Int) (a qa : Nat) : Prop :=
  lo ≤ qa ∧ ∃ qb, lo ≤ qb ∧ W.heap[qa]? = some (.cells #[.iface 194 (ptr qb), .int .i32 nl, .nilIface, .int .i32 0, .slice none 0 0, .bool false] 257 (0, 0)) ∧ W.heap[qb]? = some (.cells #[.int .u32 0, .int .u32 a] 198 (0, 0))

/-- The statements ahead of the call: those that came in, and the declaration where one is emitted. -/
def RowDesc (lo : Nat) (W : World) (sl nl : Int) (j n0 : Nat) (xs : List Value) (emit : Bool) (kind : Int) (ex : Bool) (n1 : Nat) (xs1 : List Value) : Prop :=
  (emit = false ∧ n1 = n0 ∧ xs1 = xs) ∨ (emit = true ∧ n1 = n0 + 1 ∧ ∃ d0, xs1 = xs ++ [d0, .int .i32 sl] ∧ LocalAt lo W kind ex nl j d0)

theorem AS.split {w W : World} {sl nl : Int} {j a bm n0 : Nat} {h : Held} {v1 s1 : Value} {xs : List Value} {emit : Bool} {kind : Int} {ex : Bool}
    (H : AS w W sl nl j a bm n0 h v1 s1 xs emit kind ex) (_hv : w.ownsRow 0 45 2 v1 n0 xs) :
    ∃ a1 n1 cap1 xs1, s1 = .slice a1 n1 cap1 ∧ W.ownsRow 0 45 2 s1 n1 xs1 ∧ RowDesc w.heap.size W sl nl j n0 xs emit kind ex n1 xs1 ∧ (n1 = n0 ∨ n1 = n0 + 1) ∧ (∀ k, s1.ownBlock = some k → v1.ownBlock = some k ∨ w.heap.size ≤ k) := by
  have shape : ∀ {v : Value} {n : Nat} {xs : List Value} {W : World}, W.ownsRow 0 45 2 v n xs → ∃ a cap, v = .slice a n cap := fun {v n xs W} h => by
    rcases h.2 with ⟨rfl, hn⟩ | ⟨g, cap, cur, rfl, _⟩
    · exact ⟨_, _, by rw [show n = 0 from hn]⟩
    · exact ⟨_, _, rfl⟩
  rcases H.row with ⟨h1, h2, h3⟩ | ⟨h1, d, h2, h3, h4⟩
  · obtain ⟨a1, cap1, h5⟩ := shape h3
    exact ⟨a1, n0, cap1, xs, h2.trans h5, h2 ▸ h3, .inl ⟨h1, rfl, rfl⟩, .inl rfl, fun k hk => .inl (h2 ▸ hk)⟩
  · obtain ⟨a1, cap1, h5⟩ := shape h3
    refine ⟨a1, n0 + 1, cap1, _, h5, h3, .inr ⟨h1, rfl, d, rfl, h2⟩, .inr rfl, fun k hk => ?_⟩
    rcases h4 with h4 | ⟨g, h4, h6⟩
    · exact .inl (h4 ▸ hk)
    · rw [h4] at hk; cases hk; exact .inr h6

theorem ArgIs.lower {lo lo' j : Nat} {W : World} {nl : Int} {mf : Bool} {e : Value} (h : ArgIs lo' W nl j mf e) (hl : lo ≤ lo') : ArgIs lo W nl j mf e := by
  obtain ⟨bb, bi, bo, h1, h2, h3, h4, h5, h6, h7⟩ := h
  refine ⟨bb, bi, bo, by omega, by omega, by omega, h4, h5, h6, ?_⟩
  rcases h7 with h7 | ⟨h8, b2, i2, h9, h10, h11⟩
  · exact .inl h7
  · exact .inr ⟨h8, b2, i2, by omega, by omega, h11⟩
theorem TgtIs.lower {lo lo' : Nat} {W : World} {sl : Int} {na : Bool} {args stmts e : Value} (h : TgtIs lo' W sl na args stmts e) (hl : lo ≤ lo') : TgtIs lo W sl na args stmts e := by
  obtain ⟨q, h1, h2⟩ := h
  exact ⟨q, by omega, h2⟩
theorem CallAt.lower {lo lo' : Nat} {W : World} {sl nl : Int} {t e d : Value} (h : CallAt lo' W sl nl t e d) (hl : lo ≤ lo') : CallAt lo W sl nl t e d := by
  obtain ⟨qs, qc, qa, h1, h2, h3, h4⟩ := h
  exact ⟨qs, qc, qa, by omega, by omega, by omega, h4⟩

/-- What the call leaves: the statements, the body, the map, the symbols, the frame. -/
structure GenPost (w : World) (sl nl : Int) (j a bm bs n0 m : Nat) (h' : Held) (cur' : Array Value) (v1 v7 : Value) (xs ys : List Value) (mf na emit : Bool) (kind : Int) (ex : Bool) (r : Ending) (w' : World) : Prop where
  out : ∃ g c n1 xs1 d t e qa, r = .returned (.slice (some ⟨g, 0, none⟩) (n1 + 1) c) ∧ RowDesc w.heap.size w' sl nl j n0 xs emit kind ex n1 xs1 ∧ w'.ownsRow 0 45 2 (.slice (some ⟨g, 0, none⟩) (n1 + 1) c) (n1 + 1) (xs1 ++ [d, .int .i32 sl]) ∧
    CallAt w.heap.size w' sl nl t e d ∧ ArgIs w.heap.size w' nl j mf e ∧ TgtIs w.heap.size w' sl na (.slice (some ⟨qa, 0, none⟩) 1 1) v7 t ∧ ArgsAt w.heap.size w' nl a qa ∧ (v1.ownBlock = some g ∨ w.heap.size ≤ g)
  body : ∃ ys', w'.ownsRow 0 45 2 v7 m ys' ∧ (rets mf na m = false → ys' = ys) ∧ (rets mf na m = true → ∃ qr, ys' = ys.set 0 (.iface 224 (ptr qr)))
  map : w'.heap[bm]? = some h'.obj
  sym : w'.heap[bs]? = some (.cells cur' 232 (0, 0))
  grew : Grew (fun k => k = bm ∨ k = bs ∨ v1.ownBlock = some k ∨ v7.ownBlock = some k) w w'

theorem gen_close {w wc W2 W5 w' : World} {sl nl : Int} {j a bm bs n0 n1 m p19 : Nat} {h' : Held} {cur cur' : Array Value} {v1 v7 s1 t e : Value} {xs ys xs1 : List Value} {mf na emit : Bool} {kind : Int} {ex : Bool} {r : Ending} {o19 o21 : Obj}
    (gA : Grew (fun k => k = bm ∨ v1.ownBlock = some k) w wc) (mapA : wc.heap[bm]? = some h'.obj) (symA : wc.heap[bs]? = some (.cells cur 232 (0, 0)))
    (hs1 : wc.ownsRow 0 45 2 s1 n1 xs1) (hrow : RowDesc w.heap.size wc sl nl j n0 xs emit kind ex n1 xs1) (hsb : ∀ k, s1.ownBlock = some k → v1.ownBlock = some k ∨ w.heap.size ≤ k)
    (h7 : w.ownsRow 0 45 2 v7 m ys) (h17 : ∀ k, v1.ownBlock = some k → v7.ownBlock ≠ some k) (hbs : bs < w.heap.size) (_hbm : bm < w.heap.size) (hne : bm ≠ bs) (hmap0 : ∃ h0 : Held, w.heap[bm]? = some h0.obj)
    (hp19 : p19 = wc.heap.size) (gB : Grew (fun k => k = p19 ∨ k = bs) (wc.alloc o19) W2) (hArg : ArgIs (wc.alloc o19).heap.size W2 nl j mf e) (symB : W2.heap[bs]? = some (.cells cur' 232 (0, 0)))
    (gT : Grew (fun k => k = W2.heap.size ∨ v7.ownBlock = some k) (((W2.alloc o21).alloc (.cells #[.int .u32 0, .int .u32 a] 198)).alloc (.cells #[.iface 194 (ptr (W2.heap.size + 1)), .int .i32 nl, .nilIface, .int .i32 0, .slice none 0 0, .bool false] 257)) W5)
    (hTgt : TgtIs (((W2.alloc o21).alloc (.cells #[.int .u32 0, .int .u32 a] 198)).alloc (.cells #[.iface 194 (ptr (W2.heap.size + 1)), .int .i32 nl, .nilIface, .int .i32 0, .slice none 0 0, .bool false] 257)).heap.size W5 sl na (.slice (some ⟨W2.heap.size + 1 + 1, 0, none⟩) 1 1) v7 t)
    (hRet : ∃ ys', W5.ownsRow 0 45 2 v7 m ys' ∧ (rets mf na m = false → ys' = ys) ∧ (rets mf na m = true → ∃ qr, ys' = ys.set 0 (.iface 224 (ptr qr))))
    (hE : EndPost W5 sl nl s1 t e n1 xs1 r w') : GenPost w sl nl j a bm bs n0 m h' cur' v1 v7 xs ys mf na emit kind ex r w' := by
  subst hp19
  obtain ⟨h0, hm0⟩ := hmap0
  have g2 : Grew (fun k => k = bs) wc W2 := (Grew.trans (((Grew.refl (fun k => k = wc.heap.size ∨ k = bs) wc).alloc o19)) gB).mono fun k hk h => by rcases h with h | h; omega; exact h
  have g4 : Grew (fun _ => False) W2 (((W2.alloc o21).alloc (.cells #[.int .u32 0, .int .u32 a] 198)).alloc (.cells #[.iface 194 (ptr (W2.heap.size + 1)), .int .i32 nl, .nilIface, .int .i32 0, .slice none 0 0, .bool false] 257)) := ((((Grew.refl _ W2).alloc _).alloc _).alloc _)
  have qaT := gT.obj (blk_at _ _ (W2.heap.size + 1 + 1) (by simp)) (fun h => by rcases h with h | h; omega; have := (h7.lt _ h).2; have := gA.size; have := g2.size; omega)
  have qbT := gT.obj (k := W2.heap.size + 1) (blk_alloc (blk_at _ _ _ (by simp)) _) (fun h => by rcases h with h | h; omega; have := (h7.lt _ h).2; have := gA.size; have := g2.size; omega)
  have lo5 : W2.heap.size ≤ (((W2.alloc o21).alloc (.cells #[.int .u32 0, .int .u32 a] 198)).alloc (.cells #[.iface 194 (ptr (W2.heap.size + 1)), .int .i32 nl, .nilIface, .int .i32 0, .slice none 0 0, .bool false] 257)).heap.size := g4.size
  have g5 : Grew (fun k => v7.ownBlock = some k) W2 W5 := (Grew.trans (g4.mono (T := fun k => k = W2.heap.size ∨ v7.ownBlock = some k) (fun _ _ h => h.elim)) gT).mono fun k hk h => by rcases h with h | h; omega; exact h
  have l1 := gA.size
  have l2 := g2.size
  have l3 : wc.heap.size ≤ (wc.alloc o19).heap.size := by simp
  have l5 := g5.size
  have n7 : ∀ k, v7.ownBlock = some k → k < w.heap.size := fun k hk => (h7.lt k hk).2
  have ns : ∀ k, s1.ownBlock = some k → k < wc.heap.size := fun k hk => (hs1.lt k hk).2
  have s7 : ∀ k, s1.ownBlock = some k → v7.ownBlock ≠ some k := fun k hk => by
    rcases hsb k hk with h | h
    · exact h17 k h
    · intro h'; have := n7 k h'; omega
  have sbs : s1.ownBlock ≠ some bs := owns_ne hs1 symA (by decide)
  have sbm : s1.ownBlock ≠ some bm := owns_ne_map hs1 mapA
  have bm7 : v7.ownBlock ≠ some bm := owns_ne_map h7 hm0
  have v7A : wc.ownsRow 0 45 2 v7 m ys := owns_same h7 fun k hk => gA.block k (n7 k hk) fun h => by
    rcases h with h | h
    · exact bm7 (h ▸ hk)
    · exact h17 k h hk
  have bs7 : v7.ownBlock ≠ some bs := owns_ne v7A symA (by decide)
  obtain ⟨g, c, d, q1, q2, q3, q4, q5⟩ := hE
  -- from wc to the end
  have gAll : Grew (fun k => k = bs ∨ v7.ownBlock = some k ∨ s1.ownBlock = some k) wc w' :=
    Grew.trans (Grew.trans (g2.mono fun _ _ h => .inl h) (g5.mono fun _ _ h => .inr (.inl h))) (q4.mono fun _ _ h => .inr (.inr h))
  have keep : ∀ {k : Nat} {c0 : Array Value} {t0 : TypeId}, wc.heap[k]? = some (.cells c0 t0 (0, 0)) → t0 ≠ 45 → w.heap.size ≤ k → w'.heap[k]? = some (.cells c0 t0 (0, 0)) := fun {k c0 t0} hk ht hl => gAll.obj hk fun h => by
    rcases h with h | h | h
    · omega
    · have := n7 _ h; omega
    · exact owns_ne hs1 hk ht h
  refine ⟨⟨g, c, n1, xs1, d, t, e, W2.heap.size + 1 + 1, q1, ?_, q2, q3.lower (by omega), ?_, ?_, ⟨by omega, W2.heap.size + 1, by omega, ?_, ?_⟩, ?_⟩, ?_, ?_, ?_, ?_⟩
  · rcases hrow with h | ⟨h1, h2, d0, h3, q, qd, qb, r1, r2, r3, r4, r5, r6, r7⟩
    · exact .inl h
    · exact .inr ⟨h1, h2, d0, h3, q, qd, qb, r1, r2, r3, r4, keep r5 (by decide) r1, keep r6 (by decide) r2, keep r7 (by decide) r3⟩
  · refine ArgIs.lower (ArgIs.grew (S := fun k => v7.ownBlock = some k ∨ s1.ownBlock = some k) hArg (Grew.trans (g5.mono fun _ _ h => .inl h) (q4.mono fun _ _ h => .inr h)) fun k h => ?_) (Nat.le_trans l1 l3)
    rcases h with h | h
    · have := n7 _ h; omega
    · have := ns _ h; omega
  · exact TgtIs.lower (TgtIs.grew hTgt q4 fun k h => by have := ns _ h; omega) (by omega)
  · exact q4.obj qaT fun h => by have := ns _ h; omega
  · exact q4.obj qbT fun h => by have := ns _ h; omega
  · rcases q5 with h | h
    · exact hsb _ h
    · exact .inr (by omega)
  · obtain ⟨ys', h1, h2, h3⟩ := hRet
    exact ⟨ys', owns_same h1 fun k hk => q4.block k (h1.lt k hk).2 fun h => s7 k h hk, h2, h3⟩
  · exact gAll.obj mapA fun h => by
      rcases h with h | h | h
      · exact hne h
      · exact bm7 h
      · exact sbm h
  · exact q4.obj (g5.obj symB bs7) sbs
  · refine (Grew.trans (gA.mono (T := fun k => k = bm ∨ k = bs ∨ v1.ownBlock = some k ∨ v7.ownBlock = some k ∨ (s1.ownBlock = some k ∧ w.heap.size ≤ k)) fun _ _ h => by rcases h with h | h; exact .inl h; exact .inr (.inr (.inl h))) (gAll.mono fun k _ h => ?_)).mono fun k hk h => ?_
    · rcases h with h | h | h
      · exact .inr (.inl h)
      · exact .inr (.inr (.inr (.inl h)))
      · rcases hsb k h with h' | h'
        · exact .inr (.inr (.inl h'))
        · exact .inr (.inr (.inr (.inr ⟨h, h'⟩)))
    · rcases h with h | h | h | h | h
      · exact .inl h
      · exact .inr (.inl h)
      · exact .inr (.inr (.inl h))
      · exact .inr (.inr (.inr h))
      · omega
end Go.Proofs.YtnikgjgjmpoglaaGreatFmt
