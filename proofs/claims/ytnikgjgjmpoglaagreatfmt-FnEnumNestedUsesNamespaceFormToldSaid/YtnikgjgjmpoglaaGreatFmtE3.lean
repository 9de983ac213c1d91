/-
  generateClosureForTypeScriptEnum inside a nested scope: it comes to the namespace form. Conditions: as listed.
-/
import Derived.Test.YtnikgjgjmpoglaaGreatFmtE2
import Derived.Test.YtnikgjgjmpoglaaGreatFmtQ
import Derived.Deep.DeepCutAuto
import Derived.Deep.CutRange
import Derived.Deep.AppendLies
namespace Go.Proofs.YtnikgjgjmpoglaaGreatFmt
open Go Go.RowKit
set_option maxRecDepth 100000

/-- How many statements the closure's body has. -/
def bl (mf : Bool) (m : Nat) : Nat := if mf && decide (0 < m) then 1 else m

def StBody (w : World) (k : Nat) (ys : List Value) : Prop :=
  ∀ i, i < k → ∃ q t z l, ys[2 * i]? = some (.iface 199 (.pointer (some ⟨q, 0, none⟩))) ∧ ys[2 * i + 1]? = some (.int .i32 i) ∧ w.heap[q]? = some (.cells #[.iface t z, .int .i32 l, .bool false] 206 (0, 0))

def EnInv (w W : World) (k : Nat) (s : Value) : Prop :=
  Grew (fun _ => False) w W ∧ (∃ ys, W.ownsRow 0 45 2 s k ys ∧ StBody W k ys) ∧ ∀ k', s.ownBlock = some k' → w.heap.size ≤ k'

theorem EnInv.shape {w W : World} {k : Nat} {s : Value} (h : EnInv w W k s) : ∃ a c, s = .slice a k c := by
  obtain ⟨_, ⟨ys, ho, _⟩, _⟩ := h
  rcases ho.2 with ⟨rfl, hn⟩ | ⟨g, cap, cur, rfl, _⟩
  · exact ⟨_, _, by rw [show k = 0 from hn]⟩
  · exact ⟨_, _, rfl⟩

theorem EnInv.next {w wr W2 w1 : World} {s : Value} {k qs g c : Nat} {t : TypeId} {z : Value} {lz : Int} {ys : List Value}
    (hown0 : wr.ownsRow 0 45 2 s k ys) (hst : StBody wr k ys) (hg : Grew (fun _ => False) w wr) (hsb : ∀ k', s.ownBlock = some k' → w.heap.size ≤ k')
    (h02 : Grew (fun _ => False) wr W2) (hq : W2.heap[qs]? = some (.cells #[.iface t z, .int .i32 lz, .bool false] 206 (0, 0)))
    (hown : w1.ownsRow 0 45 2 (.slice (some ⟨g, 0, none⟩) (k + 1) c) (k + 1) (ys ++ [.iface 199 (.pointer (some ⟨qs, 0, none⟩)), .int .i32 k]))
    (hgr : W2.grownBy w1 s.ownBlock) (hat : s.ownBlock = some g ∨ g = W2.heap.size) : EnInv w w1 (k + 1) (.slice (some ⟨g, 0, none⟩) (k + 1) c) := by
  have o2 : W2.ownsRow 0 45 2 s k ys := owns_same hown0 fun k hk => h02.block k (hown0.lt k hk).2 (fun h => h)
  have G := Grew.of_grownBy (S := fun k => s.ownBlock = some k) hgr (fun _ h => h)
  have g2 := Grew.trans hg h02
  have hl := hown0.1
  refine ⟨(Grew.trans (g2.mono (T := fun k => w.heap.size ≤ k) (fun _ _ h => h.elim)) (G.mono fun k _ h => hsb k h)).mono fun k hk h => by omega, ⟨_, hown, fun i hi => ?_⟩, fun k' hk' => ?_⟩
  · by_cases e : i = k
    · subst e
      refine ⟨qs, t, z, lz, ?_, ?_, G.obj hq (fun h => owns_ne o2 hq (by decide) h)⟩
      · rw [List.getElem?_append_right (by omega), show 2 * i - ys.length = 0 by omega]; rfl
      · rw [List.getElem?_append_right (by omega), show 2 * i + 1 - ys.length = 1 by omega]; rfl
    · obtain ⟨q, t', z', l, a1, a2, a3⟩ := hst i (by omega)
      have a4 := h02.obj a3 (fun h => h)
      exact ⟨q, t', z', l, by rw [List.getElem?_append_left (by omega)]; exact a1, by rw [List.getElem?_append_left (by omega)]; exact a2, G.obj a4 (fun h => owns_ne o2 a4 (by decide) h)⟩
  · obtain rfl : g = k' := by simpa [Value.ownBlock] using hk'
    rcases hat with h | h
    · exact hsb g h
    · have := g2.size; omega

theorem StBody.body {w : World} {k : Nat} {ys : List Value} (h : StBody w k ys) : BodyOk k false ys := fun i hi => ⟨fun e => (by cases e), fun _ => by
  obtain ⟨q, _, _, _, a1, a2, _⟩ := h i hi
  exact ⟨q, a1, a2⟩⟩

/-- What the enum's generator leaves. -/
def EnumPost (w0 w : World) (b bs bm cs ms cap : Nat) (pc : Array Value) (mf : Bool) (rows' : List Sym) (m : Nat) (sl nl : Int) (e : Ending) (w' : World) : Prop :=
  ∃ (g c q qs : Nat) (cur' : Array Value), e = .returned (.slice (some ⟨g, 0, none⟩) 2 c) ∧ w'.cell? ⟨g, 0, none⟩ = some (.iface 39 (.pointer (some ⟨q, 0, none⟩))) ∧ w'.cell? ⟨g, 1, none⟩ = some (.int .i32 sl) ∧ w'.cell? ⟨g, 2, none⟩ = some (.iface 199 (.pointer (some ⟨qs, 0, none⟩))) ∧ w'.cell? ⟨g, 3, none⟩ = some (.int .i32 sl) ∧
    LocalAt 0 w' 1 false nl 0 (.iface 39 (.pointer (some ⟨q, 0, none⟩))) ∧ ShapeAt w' sl nl 0 1 (bl mf m) mf false (rets mf false (bl mf m)) (.iface 199 (.pointer (some ⟨qs, 0, none⟩))) ∧
    Ready w0 w' b bs bm cs ms 2 cap pc cur' mf false (.only 0) rows' ∧ (∀ (k : Nat) (c : Array Value) (t : TypeId), w.heap[k]? = some (.cells c t (0, 0)) → t ≠ 232 → t ≠ 45 → w'.heap[k]? = some (.cells c t (0, 0)))

theorem EnumPost.of {w0 w wc w' : World} {b bs bm cs ms cap m : Nat} {pc : Array Value} {mf ex : Bool} {s0 s1 : Sym} {sl nl per : Int} {e : Ending} (hper : per = if mf then 1 else 2) (hne : cs ≠ ms) (hg : Grew (fun _ => False) w wc)
    (h : GenLaw w0 wc b bs bm cs ms 2 cap pc mf false true (if true then Held.nil.put 0 else .nil) ([s0, s1].set 0 (s0.used (if mf then 1 else 2))) 0 1 0 (bl mf m) sl nl (if cs = ms then 0 else 1) (if cs = ms then ex else false) [] e w') :
    EnumPost w0 w b bs bm cs ms cap pc mf [s0.used per, s1] m sl nl e w' := by
  obtain ⟨g, c, n1, xs1, d, cur', rfl, h1, h2, h3, h4, h5⟩ := h
  rw [if_neg hne, if_neg hne] at h1
  subst hper
  rcases h1 with ⟨h1, _⟩ | ⟨_, rfl, d0, rfl, h1⟩
  · cases h1
  · obtain ⟨qs, rfl⟩ : ∃ qs, d = .iface 199 (.pointer (some ⟨qs, 0, none⟩)) := by
      obtain ⟨qs, _, _, _, _, _, _, _, _, _, _, _, h, _⟩ := h3
      exact ⟨qs, h⟩
    obtain ⟨q, rfl⟩ : ∃ q, d0 = .iface 39 (.pointer (some ⟨q, 0, none⟩)) := by
      obtain ⟨q, _, _, _, _, _, h, _⟩ := h1
      exact ⟨q, h⟩
    exact ⟨g, c, q, qs, cur', rfl, h2.cellAt 0 (by decide), h2.cellAt 1 (by decide), h2.cellAt 2 (by decide), h2.cellAt 3 (by decide), h1, h3, h4, fun k c t hk h1 h2 => h5 k c t (hg.obj hk (fun h => h)) h1 h2⟩

set_option maxHeartbeats 4000000 in
theorem gen22 (w0 w : World) (b bs bm cs ms cap : Nat) (pc cur : Array Value) (mf ex pure : Bool) (s0 s1 : Sym) (R : Ready w0 w b bs bm cs ms 2 cap pc cur mf false .nil [s0, s1]) (hcs : cs ≠ ms) (hl0 : s0.l0 = 4294967295 ∧ s0.l1 = 4294967295) (hk0 : (s0.kind == 20 || s0.kind == 19) = true) (hu : s0.uc = 0)
    (m r : Nat) (xs : List Value) (hown : w.ownsRow 0 58 2 (.slice (some ⟨r, 0, none⟩) m m) m xs) (hx : ExprsTo xs m) (hm : m ≤ 4096) (sl nl per : Int) (hper : per = if mf then 1 else 2) :
    Calls Tryz.prog 22 #[.pointer (some ⟨b, 0, none⟩), .slice none 0 0, .agg #[.int .i32 sl], .bool ex, .agg #[.int .i32 nl], .agg #[.int .u32 0, .int .u32 0], .agg #[.int .u32 0, .int .u32 1], .slice (some ⟨r, 0, none⟩) m m, .bool pure] w
      (EnumPost w0 w b bs bm cs ms cap pc mf [s0.used per, s1] m sl nl) := by
  have HR := Lib.hid R
  have HO := Lib.hid hown
  have HX := Lib.hid hx
  have HC := Lib.hid hcs
  have HL := Lib.hid (⟨hl0, hk0, hu, hper⟩ : (s0.l0 = 4294967295 ∧ s0.l1 = 4294967295) ∧ (s0.kind == 20 || s0.kind == 19) = true ∧ s0.uc = 0 ∧ per = if mf then 1 else 2)
  clear R hown hx hcs hl0 hk0 hu hper
  go_enter Tryz.func22, Tryz.ntmps22
  go_upto_region 1 with fail
  refine wp_named (fun W => Grew (fun _ => False) w W ∧ Boxes (w.heap.size + 1 + 1) (w.heap.size + 1 + 1 + 1) w.heap.size (w.heap.size + 1) 0 1 sl nl W)
    ⟨(((((Grew.refl _ w).alloc _).alloc _).alloc _).alloc _), blk_alloc (blk_at _ _ _ (by simp)) _, blk_at _ _ _ (by simp), blk_alloc (blk_alloc (blk_alloc (blk_at _ _ _ rfl) _) _) _, blk_alloc (blk_alloc (blk_at _ _ _ (by simp)) _) _⟩ ?_
  intro W0 hW0
  obtain ⟨g0, hb0⟩ := hW0
  have hr0 := HR.out.grew g0
  have k104 : W0.cell? ⟨b, 104, none⟩ = some (.pointer (some ⟨cs, 0, none⟩)) := (blk_cell hr0.P.hp 104).trans hr0.P.c104
  have k187 : W0.cell? ⟨b, 187, none⟩ = some (.pointer (some ⟨ms, 0, none⟩)) := (blk_cell hr0.P.hp 187).trans hr0.P.c187
  obtain ⟨ccs, hccs⟩ := hr0.hcs
  obtain ⟨cms, hcms⟩ := hr0.hms
  have heq := fun n => run_other_scope cs ms (W0.drewN n) (blk_drewN hccs n) (blk_drewN hcms n) HC.out
  have HG0 := Lib.hid g0
  have HB0 := Lib.hid hb0
  clear g0 hb0 hr0 hccs hcms
  go_quiet (fail)
  go_upto_region 3 with fail
  refine wp_named (fun W => Grew (fun _ => False) W0 W ∧ W.ownsRow 0 45 2 (.slice (some ⟨W0.heap.size, 0, none⟩) 0 0) 0 []) ⟨((Grew.refl _ W0).drewN _).alloc _, rfl, .inr ⟨W0.heap.size, 0, #[], rfl, Nat.zero_le _, blk_at _ _ _ rfl, Nat.le_refl _, Nat.zero_le _, rfl, rfl⟩⟩ ?_
  intro W1 hW1
  have hb1 : EnInv W0 W1 0 (.slice (some ⟨W0.heap.size, 0, none⟩) 0 0) := ⟨hW1.1, ⟨[], hW1.2, fun i hi => by omega⟩, fun k' hk' => by
    obtain rfl : W0.heap.size = k' := by simpa [Value.ownBlock] using hk'
    exact Nat.le_refl _⟩
  have HB1 := Lib.hid hb1
  have k41 : W1.cell? ⟨b, 41, none⟩ = some (.bool mf) := (blk_cell (HR.out.grew (Grew.trans HG0.out hW1.1)).P.hp 41).trans (HR.out.grew (Grew.trans HG0.out hW1.1)).P.c41
  clear hW1 hb1 k104 k187 heq
  generalize W0.heap.size = gs at *
  go_upto_if 44 with fail
  go_cut [19] from 43 to 79 (fun s19 wx => EnInv W0 wx (bl mf m) s19)
  case first =>
    by_cases hm0 : m = 0
    · subst hm0
      have hbl : bl mf 0 = 0 := by cases mf <;> rfl
      have HBL := Lib.hid hbl
      clear hbl
      go_wp2
      go_meet
      rw [HBL.out]
      exact HB1.out
    · have hm1 : (0 : Int) < (m : Int) := by omega
      have hmm : 1 ≤ m := by omega
      obtain ⟨i0, hi0, hz0, hs0, hy0⟩ := info_parts info45
      have HI := Lib.hid hi0
      have HZ := Lib.hid hz0
      have HS := Lib.hid hs0
      have HY := Lib.hid hy0
      clear hi0 hz0 hs0 hy0
      cases mf
      · go_wp2_with fail
        simp only [show 0 < m from hmm, decide_true]
        go_loopw [19, 65] (fun s i wr => ∃ k : Nat, k ≤ m ∧ i = .int .i64 k ∧ EnInv W0 wr k s) (fun _ i _ => m - (intOf i).toNat)
        case atStart => exact ⟨0, Nat.zero_le _, rfl, HB1.out⟩
        case round =>
          obtain ⟨k, hk, rfl, hinv⟩ := hrel
          obtain ⟨a, c, rfl⟩ := hinv.shape
          have HV := Lib.hid hinv
          clear hinv HB1 HB0
          by_cases hlt : k < m
          · obtain ⟨q, e1, e2⟩ := HX.out k hlt
            have ho : wr.ownsRow 0 58 2 (.slice (some ⟨r, 0, none⟩) m m) m xs := owns_same HO.out (fun k hk => (Grew.trans HG0.out HV.out.1).block k (HO.out.lt k hk).2 (fun h => h))
            have r0 : wr.cell? ⟨r, k * 2, none⟩ = some (.iface 190 (.pointer (some ⟨q, 0, none⟩))) := (ho.cellAt (k * 2) (by omega)).trans (by rw [Nat.mul_comm]; exact e1)
            have r1 : wr.cell? ⟨r, k * 2 + 1, none⟩ = some (.int .i32 k) := (ho.cellAt (k * 2 + 1) (by omega)).trans (by rw [Nat.mul_comm]; exact e2)
            have hlk : (k : Int) < (m : Int) := by omega
            have h63 : k + 1 ≤ maxLen := by unfold maxLen; omega
            have h24 : (k + 1) * 24 ≤ 140737488355328 := by omega
            obtain ⟨hg, ⟨ys, hys, hst⟩, hsb⟩ := HV.out
            have HYS := Lib.hid hys
            have HST := Lib.hid hst
            have HG := Lib.hid hg
            have HSB := Lib.hid hsb
            clear hys hst hg hsb e1 e2 ho
            go_wp2_with (at_builtin; go_loud (refine wpList_append_lies _ rfl _ _ 33 rfl 0 45 i0 _ 2 24 Tryz.underlying33 HI.out HZ.out HS.out HY.out rfl (by decide) (.slice a k c) k ys rfl (((HYS.out.alloc _).alloc _).alloc _) ⟨_, 0, none⟩ 1 1 _ rfl rfl (news2g _ _ _ _ _ (by simp)) (one2g _ _ _) (by decide) h63 h24 (Nat.zero_le _) _ rfl ?_); intro g cap' w1 hown1 hgr1 hat1 hlt1)
            go_roundw
            case rel =>
              exact ⟨k + 1, by omega, by go_num, EnInv.next HYS.out HST.out HG.out HSB.out ((((Grew.refl _ wr).alloc _).alloc _).alloc _) (blk_alloc (blk_at _ _ _ (by simp)) _) hown1 hgr1 hat1⟩
            case measure => simp [intOf]; omega
          · obtain rfl : k = m := by omega
            go_wp2
            go_meet
            exact HV.out
      · go_wp2_with fail
        refine (joinAll_any r m xs W1 (owns_same HO.out (fun k hk => (Grew.trans HG0.out HB1.out.1).block k (HO.out.lt k hk).2 (fun h => h))) HX.out hmm hm).mono ?_
        rintro e W ⟨t, q, rfl, hgj⟩
        obtain ⟨hg, ⟨ys, hys, hst⟩, hsb⟩ := HB1.out
        have HYS := Lib.hid hys
        have HST := Lib.hid hst
        have HYW := Lib.hid (owns_same hys (fun k hk => hgj.block k (hys.lt k hk).2 (fun h => h)))
        have HG := Lib.hid hg
        have HSB := Lib.hid hsb
        have HGJ := Lib.hid hgj
        clear hys hst hg hsb hgj HB1 HB0
        have h63 : 0 + 1 ≤ maxLen := by unfold maxLen; omega
        have h24 : (0 + 1) * 24 ≤ 140737488355328 := by omega
        go_wp2_with (at_builtin; go_loud (refine wpList_append_lies _ rfl _ _ 33 rfl 0 45 i0 _ 2 24 Tryz.underlying33 HI.out HZ.out HS.out HY.out rfl (by decide) (.slice (some ⟨gs, 0, none⟩) 0 0) 0 ys rfl (((HYW.out.alloc _).alloc _).alloc _) ⟨_, 0, none⟩ 1 1 _ rfl rfl (news2g _ _ _ _ _ (by simp)) (one2g _ _ _) (by decide) h63 h24 (Nat.zero_le _) _ rfl ?_); intro g cap' w1 hown1 hgr1 hat1 hlt1)
        go_meet
        rw [show bl true m = 0 + 1 by simp [bl]; omega]
        exact EnInv.next HYS.out HST.out HG.out HSB.out ((((HGJ.out).alloc _).alloc _).alloc _) (blk_alloc (blk_at _ _ _ (by simp)) _) hown1 hgr1 hat1
  case rest =>
    obtain ⟨a9, c9, rfl⟩ := hcut.shape
    obtain ⟨hg, ⟨ys, hys, hst⟩, hsb⟩ := hcut
    have hgw := Grew.trans HG0.out hg
    have hr := HR.out.grew hgw
    have hbc := (HB0.out.grew hg)
    have hm9 : bl mf m ≤ 4096 := by unfold bl; split <;> omega
    have hcall := Lib.hid (gen32 w0 wc b bs bm cs ms 2 cap pc cur mf false .nil [s0, s1] hr 0 0 1 0 (bl mf m) 0 rfl s0 s0 rfl rfl HL.out.1 (.inl rfl) sl nl ex true (.slice none 0 0) (.slice a9 (bl mf m) c9) [] ys (World.ownsRow_nil _ 0 45 2) (Nat.zero_le _) (fun k hk => by simp [Value.ownBlock] at hk)
      hys hm9 (fun k hk => Nat.le_trans HR.out.gr.size (Nat.le_trans HG0.out.size (hsb k hk))) (fun k hk => by simp [Value.ownBlock] at hk) hst.body (fun _ _ e => by
        obtain ⟨q, t, z, l, a1, _, a3⟩ := hst 0 (by omega)
        exact ⟨q, t, z, l, a1, a3⟩) (by rw [HL.out.2.2.1]; decide) (by rw [HL.out.2.2.1]; decide) (by rw [HL.out.2.1]; rfl))
    have HGW := Lib.hid hgw
    have b0 : wc.cell? ⟨w.heap.size, 0, none⟩ = some (.int .i32 sl) := (blk_cell hbc.b24 0).trans rfl
    have b1 : wc.cell? ⟨w.heap.size + 1, 0, none⟩ = some (.int .i32 nl) := (blk_cell hbc.b25 0).trans rfl
    have b2 : wc.cell? ⟨w.heap.size + 1 + 1, 0, none⟩ = some (.int .u32 0) := (blk_cell hbc.b22 0).trans rfl
    have b3 : wc.cell? ⟨w.heap.size + 1 + 1, 1, none⟩ = some (.int .u32 0) := (blk_cell hbc.b22 1).trans rfl
    have b4 : wc.cell? ⟨w.heap.size + 1 + 1 + 1, 0, none⟩ = some (.int .u32 0) := (blk_cell hbc.b23 0).trans rfl
    have b5 : wc.cell? ⟨w.heap.size + 1 + 1 + 1, 1, none⟩ = some (.int .u32 1) := (blk_cell hbc.b23 1).trans rfl
    clear hg hys hst hsb hgw hr hbc hm9 HB0 HB1
    go_wp2_with fail
    refine hcall.out.mono ?_
    intro e W hpost
    have hE := EnumPost.of HL.out.2.2.2 HC.out HGW.out hpost
    obtain ⟨g, c, q, qs, cur', rfl, hrest⟩ := hE
    have HE := Lib.hid hrest
    clear hpost hcall HGW hrest
    go_wp2
    refine bodyPost_ret (v := .slice (some ⟨g, 0, none⟩) 2 c) (by simp [results, Tryz.results22, go_sem]) rfl ?_
    exact ⟨g, c, q, qs, cur', rfl, HE.out⟩
end Go.Proofs.YtnikgjgjmpoglaaGreatFmt
