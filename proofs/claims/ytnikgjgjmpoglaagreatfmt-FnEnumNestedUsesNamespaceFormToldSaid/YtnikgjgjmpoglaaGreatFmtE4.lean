/-
  FnEnumNestedUsesNamespaceForm, walked. Condition: m at most 4096.
-/
import Derived.Test.YtnikgjgjmpoglaaGreatFmtE3
import Derived.Test.YtnikgjgjmpoglaaGreatFmtR
import Derived.Deep.RegionHeld3
import Derived.StillTailTactics
namespace Go.Proofs.YtnikgjgjmpoglaaGreatFmt
open Go Go.RowKit
set_option maxRecDepth 100000

set_option maxHeartbeats 1000000 in
theorem gen10 (w0 w : World) (b bs bm cs ms cap : Nat) (pc cur : Array Value) (mf ex pure : Bool) (s0 s1 : Sym) (R : Ready w0 w b bs bm cs ms 2 cap pc cur mf false .nil [s0, s1]) (hcs : cs ≠ ms) (hl0 : s0.l0 = 4294967295 ∧ s0.l1 = 4294967295) (hk0 : (s0.kind == 20 || s0.kind == 19) = true) (hu : s0.uc = 0)
    (m r : Nat) (xs : List Value) (hown : w.ownsRow 0 58 2 (.slice (some ⟨r, 0, none⟩) m m) m xs) (hx : ExprsTo xs m) (hm : m ≤ 4096) (sl nl per : Int) (hper : per = if mf then 1 else 2) :
    Calls Tryz.prog 10 #[.pointer (some ⟨b, 0, none⟩), .slice none 0 0, .agg #[.int .i32 sl], .bool ex, .agg #[.int .i32 nl], .agg #[.int .u32 0, .int .u32 0], .agg #[.int .u32 0, .int .u32 1], .slice (some ⟨r, 0, none⟩) m m, .bool pure] w
      (EnumPost w0 w b bs bm cs ms cap pc mf [s0.used per, s1] m sl nl) := by
  have G := Lib.hid (((((Grew.refl (fun _ => False) w).alloc (.cells #[.int .i32 sl] 36)).alloc (.cells #[.int .i32 nl] 36)).alloc (.cells #[.int .u32 0, .int .u32 0] 30)).alloc (.cells #[.int .u32 0, .int .u32 1] 30))
  have H := Lib.hid (gen22 w0 _ b bs bm cs ms cap pc cur mf ex pure s0 s1 (R.grew G.out) hcs hl0 hk0 hu m r xs ((((hown.alloc _).alloc _).alloc _).alloc _) hx hm sl nl per hper)
  have lp : w.heap.size < w.heap.size + 1 := by omega
  clear R hcs hl0 hk0 hu hown hx hm hper
  go_enter Tryz.func10, Tryz.ntmps10
  go_wp2_with fail
  refine H.out.mono ?_
  rintro e w' ⟨g, c, q, qs, cur', rfl, h1, h2, h3, h4, h5, h6, h7, h8⟩
  have hfin : EnumPost w0 w b bs bm cs ms cap pc mf [s0.used per, s1] m sl nl (.returned (.slice (some ⟨g, 0, none⟩) 2 c)) w' := ⟨g, c, q, qs, cur', rfl, h1, h2, h3, h4, h5, h6, h7, fun k c t hk t1 t2 => h8 k c t (G.out.obj hk (fun h => h)) t1 t2⟩
  have HF := Lib.hid hfin
  clear hfin h1 h2 h3 h4 h5 h6 h7 h8
  go_wp2
  go_ret
  exact HF.out

/-- What the enum's generator leaves to the law: its row, and the law's boxes as they were. -/
def EnumLeft (w0 : World) (b bs bm cs ms cap : Nat) (pc : Array Value) (mf : Bool) (rows' : List Sym) (m : Nat) (sl nl : Int) (p22 p23 : Nat) (s : Value) (w' : World) : Prop :=
  ∃ (g c q qs : Nat) (cur' : Array Value), s = .slice (some ⟨g, 0, none⟩) 2 c ∧ w'.cell? ⟨g, 0, none⟩ = some (.iface 39 (.pointer (some ⟨q, 0, none⟩))) ∧ w'.cell? ⟨g, 1, none⟩ = some (.int .i32 sl) ∧ w'.cell? ⟨g, 2, none⟩ = some (.iface 199 (.pointer (some ⟨qs, 0, none⟩))) ∧ w'.cell? ⟨g, 3, none⟩ = some (.int .i32 sl) ∧
    LocalAt 0 w' 1 false nl 0 (.iface 39 (.pointer (some ⟨q, 0, none⟩))) ∧ ShapeAt w' sl nl 0 1 (bl mf m) mf false (rets mf false (bl mf m)) (.iface 199 (.pointer (some ⟨qs, 0, none⟩))) ∧
    Ready w0 w' b bs bm cs ms 2 cap pc cur' mf false (.only 0) rows' ∧ w'.heap[p22]? = some (.cells #[.int .u32 0, .int .u32 0] 30 (0, 0)) ∧ w'.heap[p23]? = some (.cells #[.int .u32 0, .int .u32 1] 30 (0, 0))

set_option maxHeartbeats 4000000 in
theorem law3_walk (m : Nat) (hm : m ≤ 4096) (ex pure mf : Bool) (w : World) (z : 0 < w.heap.size) (g0 : w.cell? ⟨0, 0, none⟩ = some (.int .u32 4294967295)) (g1 : w.cell? ⟨0, 1, none⟩ = some (.int .u32 4294967295)) :
    Calls Tryz.prog 3 #[.int .i64 m, .bool ex, .bool pure, .bool mf] w (BoolPost true w) := by
  obtain ⟨per, hper⟩ : ∃ per : Int, per = if mf then 1 else 2 := ⟨_, rfl⟩
  have HPER := Lib.hid hper
  have H6 := Lib.hid (parser_made mf 0 w z g0 g1)
  clear hper g0 g1
  go_enter Tryz.func3, Tryz.ntmps3
  go_wp2_with fail
  refine H6.out.mono ?_
  rintro e w1 ⟨b, bm, pc, rfl, s1⟩
  have H7 := Lib.hid (push1_law w w1 b bm pc mf 0 _ _ _ s1)
  clear s1
  go_wp2_with fail
  refine H7.out.mono ?_
  rintro e w2 ⟨rfl, sc, gs, cap, sca, pc2, s2, c2⟩
  have H8 := Lib.hid (mark_law w w2 b bm sc pc2 mf 0 _ _ _ _ s2)
  have C2 := Lib.hid c2
  clear s2 c2
  go_wp2_with fail
  refine H8.out.mono ?_
  rintro e w3 ⟨rfl, ⟨pc3, s3⟩, hg3⟩
  have H9 := Lib.hid (push2_law w w3 b bm sc gs cap pc3 sca mf 0 _ _ _ s3 (C2.out.marked hg3))
  clear s3 hg3
  go_wp2_with fail
  refine H9.out.mono ?_
  rintro e w4 ⟨rfl, cs, v177, pc4, s4, hcs, hms, hne⟩
  have S4 := Lib.hid s4
  have HCS := Lib.hid hcs
  have HMS := Lib.hid hms
  have HNE := Lib.hid hne
  clear s4 hcs hms hne
  go_wp2_with fail
  refine (sym_law w w4 b bm 0 pc4 mf 0 _ _ _ _ _ [] 19 _ S4.out (World.ownsRow_nil _ 0 232 10) (fun k hk => by simp [Value.ownBlock] at hk) (by decide)).mono ?_
  rintro e w6 ⟨rfl, g6, cap6, pc6, s6, o6, l6, hg6⟩
  have G22 : Grew (fun _ => False) w6 (w6.alloc (.cells #[.int .u32 0, .int .u32 0] 30)) := (Grew.refl _ w6).alloc _
  have B22 := Lib.hid (blk_at w6 (.cells #[.int .u32 0, .int .u32 0] 30) _ rfl)
  have O6 := Lib.hid (o6.alloc (.cells #[.int .u32 0, .int .u32 0] 30))
  have S6 := Lib.hid (s6.grew G22)
  have HCS6 := Lib.hid (HCS.out.imp fun c h => G22.obj (sym_kept h S4.out.hp (World.ownsRow_nil _ 0 232 10) hg6 (by decide) (by decide)) (fun h => h))
  have HMS6 := Lib.hid (HMS.out.imp fun c h => G22.obj (sym_kept h S4.out.hp (World.ownsRow_nil _ 0 232 10) hg6 (by decide) (by decide)) (fun h => h))
  have L6 := Lib.hid l6
  clear G22 s6 o6 l6 hg6
  go_wp2_with fail
  refine (sym_law w _ b bm 1 pc6 mf 0 _ _ _ _ _ _ 1 _ S6.out O6.out (fun k hk => ?_) (by decide)).mono ?_
  · obtain rfl : g6 = k := by simpa [Value.ownBlock] using hk
    exact L6.out
  rintro e w7 ⟨rfl, g7, cap7, pc7, s7, o7, l7, hg7⟩
  have B22b := Lib.hid (sym_kept B22.out S6.out.hp O6.out hg7 (by decide) (by decide))
  have HCS7 := Lib.hid (HCS6.out.imp fun c h => sym_kept h S6.out.hp O6.out hg7 (by decide) (by decide))
  have HMS7 := Lib.hid (HMS6.out.imp fun c h => sym_kept h S6.out.hp O6.out hg7 (by decide) (by decide))
  have S7 := Lib.hid s7
  have O7 := Lib.hid o7
  have L7 := Lib.hid l7
  have hlt := blk_lt B22b.out
  clear s7 o7 l7 hg7
  go_upto_region 10 with fail
  refine wp_named (fun W => W = w7.alloc (.cells #[.int .u32 0, .int .u32 1] 30)) rfl ?_
  intro wc hwc
  have g : Grew (fun _ => False) w7 wc := hwc ▸ ((Grew.refl _ w7).alloc _)
  have b22 := g.obj B22b.out (fun h => h)
  have b23 : wc.heap[w7.heap.size]? = some (.cells #[.int .u32 0, .int .u32 1] 30 (0, 0)) := hwc ▸ blk_at _ _ _ rfl
  have hs8 : St w wc b bm pc7 mf (if false then 4 else 0) (.pointer (some ⟨cs, 0, none⟩)) (.slice (some ⟨g7, 0, none⟩) 2 cap7) v177 (.pointer (some ⟨sc, 0, none⟩)) .nil := S7.out.grew g
  have ho8 : wc.ownsRow 0 232 10 (.slice (some ⟨g7, 0, none⟩) 2 cap7) 2 (cellsOfSyms [Sym.fresh 19 ⟨#[101]⟩, Sym.fresh 1 ⟨#[95, 101]⟩]) := by
    have h := O7.out
    have h2 := owns_same h (w' := wc) fun k hk => g.block k (h.lt k hk).2 (fun h => h)
    simpa [cellsOfSyms, Sym.fresh_row] using h2
  obtain ⟨cur, hR⟩ := Ready.of (na := false) [Sym.fresh 19 ⟨#[101]⟩, Sym.fresh 1 ⟨#[95, 101]⟩] hs8 ho8 (by simp) L7.out (HCS7.out.imp fun c h => g.obj h (fun h => h)) (HMS7.out.imp fun c h => g.obj h (fun h => h))
  have HR := Lib.hid hR
  have HB22 := Lib.hid b22
  have HB23 := Lib.hid b23
  clear g b22 b23 hs8 ho8 hR hwc
  have hgen : ∀ (W' : World) (xs : List Value) (r : Nat), Grew (fun _ => False) wc W' → W'.ownsRow 0 58 2 (.slice (some ⟨r, 0, none⟩) m m) m xs → ExprsTo xs m →
      Calls Tryz.prog 10 #[.pointer (some ⟨b, 0, none⟩), .slice none 0 0, .agg #[.int .i32 5], .bool ex, .agg #[.int .i32 7], .agg #[.int .u32 0, .int .u32 0], .agg #[.int .u32 0, .int .u32 1], .slice (some ⟨r, 0, none⟩) m m, .bool pure] W'
        (fun e w' => ∃ s, e = .returned s ∧ EnumLeft w b g7 bm cs sc cap7 pc7 mf [(Sym.fresh 19 ⟨#[101]⟩).used per, Sym.fresh 1 ⟨#[95, 101]⟩] m 5 7 w6.heap.size w7.heap.size s w' ∧
          w'.cell? ⟨w6.heap.size, 0, none⟩ = some (.int .u32 0) ∧ w'.cell? ⟨w6.heap.size, 1, none⟩ = some (.int .u32 0) ∧ w'.cell? ⟨w7.heap.size, 0, none⟩ = some (.int .u32 0) ∧ w'.cell? ⟨w7.heap.size, 1, none⟩ = some (.int .u32 1)) := by
    intro W' xs r hg ho hx
    refine (gen10 w W' b g7 bm cs sc cap7 pc7 cur mf ex pure (Sym.fresh 19 ⟨#[101]⟩) (Sym.fresh 1 ⟨#[95, 101]⟩) (HR.out.grew hg) HNE.out ⟨rfl, rfl⟩ rfl rfl m r xs ho hx hm 5 7 per HPER.out).mono ?_
    rintro e w' ⟨g, c, q, qs, cur', rfl, h1, h2, h3, h4, h5, h6, h7, h8⟩
    have k1 := h8 _ _ _ (hg.obj HB22.out (fun h => h)) (by decide) (by decide)
    have k2 := h8 _ _ _ (hg.obj HB23.out (fun h => h)) (by decide) (by decide)
    exact ⟨_, rfl, ⟨g, c, q, qs, cur', rfl, h1, h2, h3, h4, h5, h6, h7, k1, k2⟩, (blk_cell k1 0).trans rfl, (blk_cell k1 1).trans rfl, (blk_cell k2 0).trans rfl, (blk_cell k2 1).trans rfl⟩
  have HGEN := Lib.hid hgen
  have HM := Lib.hid (fun W : World => mkExprs_any m W hm)
  have y1 : wc.cell? ⟨w6.heap.size, 0, none⟩ = some (.int .u32 0) := (blk_cell HB22.out 0).trans rfl
  have y2 : wc.cell? ⟨w6.heap.size, 1, none⟩ = some (.int .u32 0) := (blk_cell HB22.out 1).trans rfl
  have y3 : wc.cell? ⟨w7.heap.size, 0, none⟩ = some (.int .u32 0) := (blk_cell HB23.out 0).trans rfl
  have y4 : wc.cell? ⟨w7.heap.size, 1, none⟩ = some (.int .u32 1) := (blk_cell HB23.out 1).trans rfl
  have l22 := blk_lt HB22.out
  have l23 := blk_lt HB23.out
  clear hgen
  generalize w6.heap.size = p22 at *
  generalize w7.heap.size = p23 at *
  go_cut [13] from 38 to 47 (fun s wx => EnumLeft w b g7 bm cs sc cap7 pc7 mf [(Sym.fresh 19 ⟨#[101]⟩).used per, Sym.fresh 1 ⟨#[95, 101]⟩] m 5 7 p22 p23 s wx)
  case first =>
    clear HR HB22 HB23 S7 O7 L7 S6 O6 L6 HCS7 HMS7 HCS6 HMS6 HNE HPER
    go_region_held3 (fun w' => w'.cell? ⟨p22, 0, none⟩ = some (.int .u32 0) ∧ w'.cell? ⟨p22, 1, none⟩ = some (.int .u32 0) ∧ w'.cell? ⟨p23, 0, none⟩ = some (.int .u32 0) ∧ w'.cell? ⟨p23, 1, none⟩ = some (.int .u32 1))
      (first | (refine ⟨?_, ?_, ?_, ?_⟩ <;> with_reducible assumption) | (refine ⟨?_, ?_, ?_, ?_⟩ <;> repeat (first | assumption | (with_reducible refine hgm.cell ?_ (fun h => h)))))
      (first
        | (go_at_call 11; (with_reducible refine (HM.out _).mono ?_); rintro e wm ⟨rfl, xsm, mkm, hxm, hgm⟩)
        | (go_at_call 10; have hA := HGEN.out wm xsm wc.heap.size (Grew.trans (Grew.refl _ wc).drew hgm) mkm hxm; (with_reducible refine hA.mono ?_); clear hA; rintro e w' ⟨s, rfl, hpost, c1, c2, c3, c4⟩))
    all_goals
      repeat (first | go_step | (with_reducible refine Met.intro ?_))
      (repeat apply Exists.intro)
      exact ⟨hpost, rfl⟩
  case rest =>
    obtain ⟨g, c, q, qs, cur2, rfl, c0, c1, c2, c3, hL, hS, hR2, hb22, hb23⟩ := hcut
    obtain ⟨q', qd, qb, _, _, _, heq, hq, hqd, hqb⟩ := hL
    obtain rfl : q = q' := by simpa using heq
    have HC2 := Lib.hid c2
    have HC3 := Lib.hid c3
    have HQ := Lib.hid hq
    have HQD := Lib.hid hqd
    have HQB := Lib.hid hqb
    have HS := Lib.hid hS
    have HR2 := Lib.hid hR2
    have HB2 := Lib.hid (And.intro hb22 hb23)
    clear heq c2 c3 hq hqd hqb hS hR2 hb22 hb23 HGEN HM HR HB22 HB23 S7 O7 L7 S6 O6 L6 HCS7 HMS7 HCS6 HMS6 HNE y1 y2 y3 y4
    go_wp2_with fail
    refine (as_12 q 5 _).mono ?_
    rintro e w10 ⟨rfl, hg⟩
    have G10 := Lib.hid hg
    have hiq := hg.obj HQ.out (fun h => h)
    have hiqd := hg.obj HQD.out (fun h => h)
    have hb1 := hg.obj HB2.out.1 (fun h => h)
    have x1 : w10.cell? ⟨q, 0, none⟩ = some (.slice (some ⟨qd, 0, none⟩) 1 1) := (blk_cell hiq 0).trans rfl
    have x2 : w10.cell? ⟨q, 1, none⟩ = some (.int .u8 1) := (blk_cell hiq 1).trans rfl
    have x3 : w10.cell? ⟨q, 2, none⟩ = some (.bool false) := (blk_cell hiq 2).trans rfl
    have x4 : w10.cell? ⟨qd, 0, none⟩ = some (.iface 194 (.pointer (some ⟨qb, 0, none⟩))) := (blk_cell hiqd 0).trans rfl
    have x5 : w10.cell? ⟨qd, 1, none⟩ = some (.int .i32 7) := (blk_cell hiqd 1).trans rfl
    have y1 : w10.cell? ⟨p22, 0, none⟩ = some (.int .u32 0) := (blk_cell hb1 0).trans rfl
    have y2 : w10.cell? ⟨p22, 1, none⟩ = some (.int .u32 0) := (blk_cell hb1 1).trans rfl
    have hbi : Calls Tryz.prog 13 #[.agg #[.iface 194 (.pointer (some ⟨qb, 0, none⟩)), .int .i32 7], .agg #[.int .u32 0, .int .u32 0]] w10.drew (BoolPost true w10.drew) := bindingIs_yes qb 0 7 w10.drew (hg.obj HQB.out (fun h => h))
    have HBI := Lib.hid hbi
    clear hiq hiqd hb1 hbi hg c0 c1
    go_upto_region 14 with fail
    go_cut [92] from 58 to 91 (fun s wx => s = .bool false ∧ Grew (fun _ => False) w10 wx)
    case first =>
      clear HC2 HC3 HQ HQD HQB HS HR2 HB2 G10
      go_region_held3 (fun w' => w'.cell? ⟨q, 0, none⟩ = some (.slice (some ⟨qd, 0, none⟩) 1 1) ∧ w'.cell? ⟨q, 1, none⟩ = some (.int .u8 1) ∧ w'.cell? ⟨q, 2, none⟩ = some (.bool false) ∧ w'.cell? ⟨qd, 0, none⟩ = some (.iface 194 (.pointer (some ⟨qb, 0, none⟩))) ∧ w'.cell? ⟨qd, 1, none⟩ = some (.int .i32 7) ∧ w'.cell? ⟨p22, 0, none⟩ = some (.int .u32 0) ∧ w'.cell? ⟨p22, 1, none⟩ = some (.int .u32 0))
        (first | (refine ⟨?_, ?_, ?_, ?_, ?_, ?_, ?_⟩ <;> assumption) | (refine ⟨?_, ?_, ?_, ?_, ?_, ?_, ?_⟩ <;> (refine hg.cell ?_ (fun h => h); assumption)))
        (first | (go_at_call 13; (with_reducible refine HBI.out.mono ?_); rintro e w' ⟨rfl, hg⟩))
      all_goals
        repeat (first | go_step | (with_reducible refine Met.intro ?_))
        (repeat apply Exists.intro)
        exact ⟨⟨rfl, Grew.trans (Grew.refl _ w10).drew hg⟩, rfl⟩
    case rest =>
      obtain ⟨rfl, hg⟩ := hcut
      have G11 := Lib.hid (Grew.trans G10.out hg)
      clear hg x1 x2 x3 x4 x5 y1 y2 G10 HBI HQ HQD HQB
      obtain ⟨t98, ht98⟩ : ∃ t : Bool, t = (mf && decide (0 < m)) := ⟨_, rfl⟩
      have HT := Lib.hid ht98
      clear ht98
      go_upto_region 18 with fail
      go_cut [98] from 94 to 97 (fun s wx => s = .bool t98 ∧ wc = wx)
      case first =>
        clear HC2 HC3 HS HR2 HB2 G11
        cases mf
        · go_wp2
          go_meet
          exact ⟨by rw [HT.out]; rfl, rfl⟩
        · go_wp2
          go_meet
          exact ⟨by rw [HT.out]; simp, rfl⟩
      case rest =>
      obtain ⟨rfl, rfl⟩ := hcut
      go_upto_if 98 with fail
      go_cut [16, 17] from 98 to 98 (fun s t wx => s = .int .i64 (bl mf m) ∧ t = .bool (rets mf false (bl mf m)) ∧ wc = wx)
      case first =>
        clear HC2 HC3 HS HR2 HB2 G11
        cases t98
        · have hb : bl mf m = m ∧ rets mf false m = false := by
            have h := HT.out
            cases mf
            · exact ⟨rfl, rfl⟩
            · have h0 : m = 0 := by simp at h; omega
              subst h0; exact ⟨rfl, rfl⟩
          have HBL := Lib.hid hb
          clear hb
          go_wp2
          go_meet
          exact ⟨by rw [HBL.out.1], by rw [HBL.out.1, HBL.out.2], rfl⟩
        · have hb : bl mf m = 1 ∧ rets mf false 1 = true := by
            have h := HT.out
            cases mf
            · cases h
            · refine ⟨?_, rfl⟩
              simp at h
              simp [bl]; omega
          have HBL := Lib.hid hb
          clear hb
          go_wp2
          go_meet
          exact ⟨by rw [HBL.out.1]; rfl, by rw [HBL.out.1, HBL.out.2], rfl⟩
      case rest =>
        obtain ⟨rfl, rfl, rfl⟩ := hcut
        have d0 : wc.cell? ⟨g, 2, none⟩ = some (.iface 199 (.pointer (some ⟨qs, 0, none⟩))) := G11.out.cell HC2.out (fun h => h)
        have d1 : wc.cell? ⟨g, 3, none⟩ = some (.int .i32 5) := G11.out.cell HC3.out (fun h => h)
        have hb1 := G11.out.obj HB2.out.1 (fun h => h)
        have hb2 := G11.out.obj HB2.out.2 (fun h => h)
        have y1 : wc.cell? ⟨p22, 0, none⟩ = some (.int .u32 0) := (blk_cell hb1 0).trans rfl
        have y2 : wc.cell? ⟨p22, 1, none⟩ = some (.int .u32 0) := (blk_cell hb1 1).trans rfl
        have y3 : wc.cell? ⟨p23, 0, none⟩ = some (.int .u32 0) := (blk_cell hb2 0).trans rfl
        have y4 : wc.cell? ⟨p23, 1, none⟩ = some (.int .u32 1) := (blk_cell hb2 1).trans rfl
        have hm9 : bl mf m ≤ 4096 := by unfold bl; split <;> omega
        have hcs : Calls Tryz.prog 14 #[.agg #[.iface 199 (.pointer (some ⟨qs, 0, none⟩)), .int .i32 5], .int .i32 5, .int .i32 7, .agg #[.int .u32 0, .int .u32 0], .agg #[.int .u32 0, .int .u32 1], .bool mf, .int .i64 (bl mf m), .bool (rets mf false (bl mf m)), .bool false] wc.drew (BoolPost true wc.drew) := callShape_yes (HS.out.grew (Grew.trans G11.out (Grew.refl _ wc).drew)) hm9
        have HCS := Lib.hid hcs
        clear hb1 hb2 hm9 hcs HS HC2 HC3
        generalize bl mf m = m9 at *
        generalize rets mf false m9 = fr at *
        go_upto_region 21 with fail
        go_cut [108] from 99 to 107 (fun s wx => s = .bool false ∧ Grew (fun _ => False) wc wx)
        case first =>
          clear HR2 HB2 G11
          go_region_held3 (fun w' => w'.cell? ⟨g, 2, none⟩ = some (.iface 199 (.pointer (some ⟨qs, 0, none⟩))) ∧ w'.cell? ⟨g, 3, none⟩ = some (.int .i32 5) ∧ w'.cell? ⟨p22, 0, none⟩ = some (.int .u32 0) ∧ w'.cell? ⟨p22, 1, none⟩ = some (.int .u32 0) ∧ w'.cell? ⟨p23, 0, none⟩ = some (.int .u32 0) ∧ w'.cell? ⟨p23, 1, none⟩ = some (.int .u32 1))
            (first | (refine ⟨?_, ?_, ?_, ?_, ?_, ?_⟩ <;> assumption) | (refine ⟨?_, ?_, ?_, ?_, ?_, ?_⟩ <;> (refine hg.cell ?_ (fun h => h); assumption)))
            (first | (go_at_call 14; (with_reducible refine HCS.out.mono ?_); rintro e w' ⟨rfl, hg⟩))
          all_goals
            repeat (first | go_step | (with_reducible refine Met.intro ?_))
            (repeat apply Exists.intro)
            exact ⟨⟨rfl, Grew.trans (Grew.refl _ wc).drew hg⟩, rfl⟩
        case rest =>
          obtain ⟨rfl, hg⟩ := hcut
          have G12 := Lib.hid (Grew.trans G11.out hg)
          have hb1 := G12.out.obj HB2.out.1 (fun h => h)
          have y1 : wc.cell? ⟨p22, 0, none⟩ = some (.int .u32 0) := (blk_cell hb1 0).trans rfl
          have y2 : wc.cell? ⟨p22, 1, none⟩ = some (.int .u32 0) := (blk_cell hb1 1).trans rfl
          have hR12 := HR2.out.grew G12.out
          have hu : Calls Tryz.prog 15 #[.pointer (some ⟨b, 0, none⟩), .agg #[.int .u32 0, .int .u32 0]] wc fun e w' => e = .returned (.int .u32 per) ∧ Grew (fun _ => False) wc w' := by
            have h := use_law hR12 (i := 0) (s := (Sym.fresh 19 ⟨#[101]⟩).used per) rfl
            have e0 : ((Sym.fresh 19 ⟨#[101]⟩).used per).uc = per := by simp [Sym.used, Sym.fresh]
            rw [e0] at h
            exact h
          have HU := Lib.hid hu
          have GF := Lib.hid hR12.gr
          clear hb1 hR12 hu hg G11 HB2 HR2 HCS
          cases mf
          · obtain rfl : per = 2 := HPER.out
            go_wp2_with fail
            refine HU.out.mono ?_
            rintro e w13 ⟨rfl, hg⟩
            have GG := Lib.hid (Grew.trans GF.out hg)
            clear hg
            go_wp2
            go_ret
            exact ⟨rfl, GG.out⟩
          · obtain rfl : per = 1 := HPER.out
            go_wp2_with fail
            refine HU.out.mono ?_
            rintro e w13 ⟨rfl, hg⟩
            have GG := Lib.hid (Grew.trans GF.out hg)
            clear hg
            go_wp2
            go_ret
            exact ⟨rfl, GG.out⟩
end Go.Proofs.YtnikgjgjmpoglaaGreatFmt
