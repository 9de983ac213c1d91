/-
  FnNamespaceClosureCaseTable, walked up to its first call of the generator. Conditions: n, m at most 4096.
-/
import Derived.Test.YtnikgjgjmpoglaaGreatFmtR21
import Derived.Test.YtnikgjgjmpoglaaGreatFmtR25
import Derived.Test.YtnikgjgjmpoglaaGreatFmtR32
import Derived.Test.YtnikgjgjmpoglaaGreatFmtR37
import Derived.Deep.DeepCutAuto
import Derived.Deep.CutRange
import Derived.Deep.RegionHeld3
namespace Go.Proofs.YtnikgjgjmpoglaaGreatFmt
open Go Go.RowKit
set_option maxRecDepth 100000

/-- Behind the scopes: cs the current one, sc the module's. -/
def Prep (w0 W : World) (b bm sc : Nat) (mf : Bool) (f : Int) (nested : Bool) : Prop :=
  ∃ cs pc a177, St w0 W b bm pc mf f (.pointer (some ⟨cs, 0, none⟩)) (.slice none 0 0) a177 (.pointer (some ⟨sc, 0, none⟩)) .nil ∧ (∃ c, W.heap[cs]? = some (.cells c 242 (0, 0))) ∧ (∃ c, W.heap[sc]? = some (.cells c 242 (0, 0))) ∧ (cs = sc ↔ nested = false)

theorem sym_kept {w w' : World} {b k n : Nat} {t : TypeId} {sv : Value} {xs : List Value} {c pc : Array Value} (hk : w.heap[k]? = some (.cells c t (0, 0))) (hp : w.heap[b]? = some (.cells pc 185 (0, 0))) (ho : w.ownsRow 0 232 10 sv n xs)
    (hg : Grew (fun k => k = b ∨ some k = sv.ownBlock) w w') (h1 : t ≠ 185) (h2 : t ≠ 232) : w'.heap[k]? = some (.cells c t (0, 0)) := hg.obj hk fun e => by
  rcases e with e | e
  · subst e
    have := hk.symm.trans hp
    injection this with this
    injection this with _ this _
    exact h1 this
  · exact owns_ne232 ho hk h2 e.symm

set_option maxHeartbeats 4000000 in
theorem law4_walk (n m : Nat) (hn : n ≤ 4096) (hm : m ≤ 4096) (ex ek nested mf na : Bool) (sl nl : Int) (w : World) (z : 0 < w.heap.size) (g0 : w.cell? ⟨0, 0, none⟩ = some (.int .u32 4294967295)) (g1 : w.cell? ⟨0, 1, none⟩ = some (.int .u32 4294967295)) :
    Calls Tryz.prog 4 #[.int .i64 n, .int .i64 m, .bool ex, .bool ek, .bool nested, .bool mf, .bool na, .int .i32 sl, .int .i32 nl] w (BoolPost true w) := by
  obtain ⟨f, hf⟩ : ∃ f : Int, f = if na then 4 else 0 := ⟨_, rfl⟩
  obtain ⟨kd, hkd⟩ : ∃ kd : Int, kd = if ek then 19 else 20 := ⟨_, rfl⟩
  obtain ⟨per, hper⟩ : ∃ per : Int, per = if mf then 1 else 2 := ⟨_, rfl⟩
  have HF := Lib.hid hf
  have HKD := Lib.hid hkd
  have HKB : ((kd == 20 || kd == 19) = true) := by rw [hkd]; cases ek <;> rfl
  have HKK := Lib.hid HKB
  clear HKB
  have HPER := Lib.hid hper
  have H6 := Lib.hid (parser_made mf f w z g0 g1)
  clear hf hkd hper g0 g1
  go_enter Tryz.func4, Tryz.ntmps4
  go_upto_if 45 with fail
  go_cut [19] from 45 to 45 (fun s wx => s = .int .u64 f ∧ w = wx)
  case first =>
    cases na
    · go_wp2
      go_meet
      exact ⟨by rw [HF.out]; rfl, rfl⟩
    · go_wp2
      go_meet
      exact ⟨by rw [HF.out]; rfl, rfl⟩
  case rest =>
    obtain ⟨rfl, rfl⟩ := hcut
    go_wp2_with fail
    refine H6.out.mono ?_
    rintro e w1 ⟨b, bm, pc, rfl, s1⟩
    have H7 := Lib.hid (push1_law w w1 b bm pc mf f _ _ _ s1)
    clear s1
    go_wp2_with fail
    refine H7.out.mono ?_
    rintro e w2 ⟨rfl, sc, gs, cap, sca, pc2, s2, c2⟩
    have H8 := Lib.hid (mark_law w w2 b bm sc pc2 mf f _ _ _ _ s2)
    have C2 := Lib.hid c2
    clear s2 c2
    go_wp2_with fail
    refine H8.out.mono ?_
    rintro e w3 ⟨rfl, ⟨pc3, s3⟩, hg3⟩
    have S3 := Lib.hid s3
    have C3 := Lib.hid (C2.out.marked hg3)
    clear s3 hg3
    go_upto_if 53 with fail
    go_cut [] from 53 to 55 (fun wx => Prep w wx b bm sc mf f nested)
    case first =>
      cases nested
      · go_wp2
        go_meet
        exact ⟨sc, pc3, _, S3.out, ⟨_, C3.out.hs⟩, ⟨_, C3.out.hs⟩, by simp⟩
      · go_wp2_with fail
        refine (push2_law w w3 b bm sc gs cap pc3 sca mf f _ _ _ S3.out C3.out).mono ?_
        rintro e w4 ⟨rfl, sc2, v, pc4, s4, h1, h2, h3⟩
        have hp : Prep w w4 b bm sc mf f true := ⟨sc2, pc4, v, s4, h1, h2, by simp [h3]⟩
        have HP := Lib.hid hp
        clear hp s4 h1 h2 h3
        go_wp2_with fail
        go_meet
        exact HP.out
    case rest =>
      obtain ⟨cs, pc4, a177, s4, hcs, hms, hne⟩ := hcut
      have S4 := Lib.hid s4
      have HCS := Lib.hid hcs
      have HMS := Lib.hid hms
      have HNE := Lib.hid hne
      clear s4 hcs hms hne
      go_upto_if 56 with fail
      go_cut [21] from 56 to 56 (fun s wx => s = .int .u8 kd ∧ wc = wx)
      case first =>
        cases ek
        · go_wp2
          go_meet
          exact ⟨by rw [HKD.out]; rfl, rfl⟩
        · go_wp2
          go_meet
          exact ⟨by rw [HKD.out]; rfl, rfl⟩
      case rest =>
        obtain ⟨rfl, rfl⟩ := hcut
        go_wp2_with fail
        refine (sym_law w wc b bm 0 pc4 mf f _ _ _ _ _ [] kd _ S4.out (World.ownsRow_nil _ 0 232 10) (fun k hk => by simp [Value.ownBlock] at hk) (by decide)).mono ?_
        rintro e w6 ⟨rfl, g6, cap6, pc6, s6, o6, l6, hg6⟩
        have G22 : Grew (fun _ => False) w6 (w6.alloc (.cells #[.int .u32 0, .int .u32 0] 30)) := (Grew.refl _ w6).alloc _
        have B22 := Lib.hid (blk_at w6 (.cells #[.int .u32 0, .int .u32 0] 30) _ rfl)
        have O6 := Lib.hid (o6.alloc (.cells #[.int .u32 0, .int .u32 0] 30))
        have S6 := Lib.hid (s6.grew G22)
        have HCS6 := Lib.hid (HCS.out.imp fun c h => G22.obj (sym_kept h S4.out.hp (World.ownsRow_nil _ 0 232 10) hg6 (by decide) (by decide)) (fun h => h))
        have HMS6 := Lib.hid (HMS.out.imp fun c h => G22.obj (sym_kept h S4.out.hp (World.ownsRow_nil _ 0 232 10) hg6 (by decide) (by decide)) (fun h => h))
        have L6 := Lib.hid l6
        clear G22 s6 o6 l6 hg6
        go_wp2_with fail
        refine (sym_law w _ b bm 1 pc6 mf f _ _ _ _ _ _ 1 _ S6.out O6.out (fun k hk => ?_) (by decide)).mono ?_
        · obtain rfl : g6 = k := by simpa [Value.ownBlock] using hk
          exact L6.out
        rintro e w7 ⟨rfl, g7, cap7, pc7, s7, o7, l7, hg7⟩
        have B22b := Lib.hid (sym_kept B22.out S6.out.hp O6.out hg7 (by decide) (by decide))
        have HCS7 := Lib.hid (HCS6.out.imp fun c h => sym_kept h S6.out.hp O6.out hg7 (by decide) (by decide))
        have HMS7 := Lib.hid (HMS6.out.imp fun c h => sym_kept h S6.out.hp O6.out hg7 (by decide) (by decide))
        have S7 := Lib.hid s7
        have O7 := Lib.hid o7
        have L7 := Lib.hid l7
        have hlt := blk_lt B22b.out
        clear s7 o7 l7 hg7
        go_upto_if 66 with fail
        go_cut [26] from 66 to 66 (fun s wx => s = .int .u32 per ∧ wx = ((w7.alloc (.cells #[.int .u32 0, .int .u32 1] 30)).alloc (.cells #[.int .i32 sl] 36)).alloc (.cells #[.int .i32 nl] 36))
        case first =>
          cases mf
          · go_wp2
            go_meet
            exact ⟨by rw [HPER.out]; rfl, rfl⟩
          · go_wp2
            go_meet
            exact ⟨by rw [HPER.out]; rfl, rfl⟩
        case rest =>
          obtain ⟨rfl, hwc⟩ := hcut
          have g : Grew (fun _ => False) w7 wc := hwc ▸ ((((Grew.refl _ w7).alloc _).alloc _).alloc _)
          have hb : Boxes w6.heap.size w7.heap.size (w7.heap.size + 1) (w7.heap.size + 1 + 1) 0 1 sl nl wc := ⟨g.obj B22b.out (fun h => h), hwc ▸ blk_alloc (blk_alloc (blk_at _ _ _ rfl) _) _, hwc ▸ blk_alloc (blk_at _ _ _ (by simp)) _, hwc ▸ blk_at _ _ _ (by simp)⟩
          have hs8 : St w wc b bm pc7 mf (if na then 4 else 0) (.pointer (some ⟨cs, 0, none⟩)) (.slice (some ⟨g7, 0, none⟩) 2 cap7) a177 (.pointer (some ⟨sc, 0, none⟩)) .nil := HF.out ▸ S7.out.grew g
          have ho8 : wc.ownsRow 0 232 10 (.slice (some ⟨g7, 0, none⟩) 2 cap7) 2 (cellsOfSyms [Sym.fresh kd ⟨#[110, 115]⟩, Sym.fresh 1 ⟨#[95, 110, 115]⟩]) := by
            have h := O7.out
            have h2 := owns_same h (w' := wc) fun k hk => g.block k (h.lt k hk).2 (fun h => h)
            simpa [cellsOfSyms, Sym.fresh_row] using h2
          obtain ⟨cur, hR⟩ := Ready.of (na := na) [Sym.fresh kd ⟨#[110, 115]⟩, Sym.fresh 1 ⟨#[95, 110, 115]⟩] hs8 ho8 (by simp) L7.out (HCS7.out.imp fun c h => g.obj h (fun h => h)) (HMS7.out.imp fun c h => g.obj h (fun h => h))
          have HR := Lib.hid hR
          have HB := Lib.hid hb
          have hlt1 := blk_lt hb.b22
          have hlt2 := blk_lt hb.b25
          obtain ⟨y1, y2, y3, y4, y5, y6⟩ := hb.cells
          obtain ⟨kind, hkind⟩ : ∃ kind : Int, kind = if cs = sc then 0 else 1 := ⟨_, rfl⟩
          obtain ⟨ex', hex'⟩ : ∃ ex' : Bool, ex' = if cs = sc then ex else false := ⟨_, rfl⟩
          have HKIND := Lib.hid hkind
          have HEX := Lib.hid hex'
          have HLO := Lib.hid hR.gr.size
          clear g hb hs8 ho8 hR hwc hkind hex' y1 y2 y3 y4 y5 y6
          go_upto_region 21 with fail
          refine law4_r21 w wc b g7 bm cs sc cap7 n m w6.heap.size w7.heap.size (w7.heap.size + 1) (w7.heap.size + 1 + 1) pc7 cur mf na ex ex' (Sym.fresh kd ⟨#[110, 115]⟩) (Sym.fresh 1 ⟨#[95, 110, 115]⟩) sl nl kind per _ _ _ _ _ _ _ _ _ _ _ _ _ _ _ _ _ _ _ _ _ _ _ _ _ _ _ _ _ _ _ _ _ _ _ _ _ _ _ _ _ _ _ _ _ _ _ _ _ _ _ _ _ _ _ _ _ _ _ _ _ _ _ _ _ _ _ _ _ _ _ _ _ _ _ _ _ _ _ _ _ _ _ _ _ _ _ _ _ _ _ _ _ _ _ _ _ _ _ _ _ _ _ _ _ _ _ _ _ _ _ _ _ _ _ _ _ _ _ _ _ _ _ _ _ _ _ _ _ _ _ _ _ _ _ _ _ _ _ _ _ _ _ _ _ _ _ _ _ _ _ _ _ _ _ _ _ _ _ _ _ _ _ _ _ _ _ _ _ _ _ _ _ _ _ _ _ _ _ _ _ _ _ _ _ _ _ _ _ _ _ _ _ _ _ _ _ _ _ _ _ _ _ _ _ _ _ _ _ _ _ _ _ _ _ _ _ _ _ _ _ _ _ _ _ _ _ HR.out ⟨rfl, rfl⟩ HKK.out rfl hn hm HB.out HPER.out HKIND.out HEX.out ?_
          intros
          rename_i g c w8 hG
          obtain ⟨g', c', xs, d0, d, cur', heq, q1, hxl, q2, q3, q4, q5, q6⟩ := hG
          obtain ⟨rfl, rfl⟩ : g = g' ∧ c = c' := by simpa using heq
          obtain ⟨q, qd, qb, _, _, _, rfl, hq, hqd, hqb⟩ := q3
          obtain ⟨qs, rfl⟩ : ∃ qs, d = .iface 199 (.pointer (some ⟨qs, 0, none⟩)) := by
            obtain ⟨qs, _, _, _, _, _, _, _, _, _, _, _, h, _⟩ := q4
            exact ⟨qs, h⟩
          have c0 : w8.cell? ⟨g, n * 2, none⟩ = some (.iface 39 (.pointer (some ⟨q, 0, none⟩))) := (q1.cellAt (n * 2) (by omega)).trans (by rw [List.getElem?_append_right (by omega)]; simp [hxl])
          have c1 : w8.cell? ⟨g, n * 2 + 1, none⟩ = some (.int .i32 sl) := (q1.cellAt (n * 2 + 1) (by omega)).trans (by rw [List.getElem?_append_right (by omega)]; simp [hxl])
          have c2 : w8.cell? ⟨g, (n + 1) * 2, none⟩ = some (.iface 199 (.pointer (some ⟨qs, 0, none⟩))) := (q1.cellAt ((n + 1) * 2) (by omega)).trans (by rw [List.getElem?_append_right (by omega), show (n + 1) * 2 - xs.length = 2 by omega]; rfl)
          have c3 : w8.cell? ⟨g, (n + 1) * 2 + 1, none⟩ = some (.int .i32 sl) := (q1.cellAt ((n + 1) * 2 + 1) (by omega)).trans (by rw [List.getElem?_append_right (by omega), show (n + 1) * 2 + 1 - xs.length = 3 by omega]; rfl)
          have hpk : Calls Tryz.prog 18 #[.slice (some ⟨g, 0, none⟩) (n + 2) c, .int .i64 n] w8 (BoolPost true w8) := prefixKept_yes g c n (n + 2) _ w8 q1 (by omega) (by omega) hn q2
          have HPK := Lib.hid hpk
          have HC0 := Lib.hid c0
          have HC1 := Lib.hid c1
          have HC2 := Lib.hid c2
          have HC3 := Lib.hid c3
          have HQ := Lib.hid hq
          have HQD := Lib.hid hqd
          have HQB := Lib.hid hqb
          have HSH := Lib.hid q4
          have HR8 := Lib.hid q5
          have HB8 := Lib.hid q6
          clear heq q1 hxl q2 q4 q5 q6 hq hqd hqb c0 c1 c2 c3 hpk
          have i0 : (0 : Int) ≤ (n : Int) := by omega
          have i1 : (n : Int) < (n : Int) + 2 := by omega
          go_wp2_with fail
          refine HPK.out.mono ?_
          rintro e w9 ⟨rfl, hg⟩
          have c0 : w9.cell? ⟨g, n * 2, none⟩ = some (.iface 39 (.pointer (some ⟨q, 0, none⟩))) := hg.cell HC0.out (fun h => h)
          have c1 : w9.cell? ⟨g, n * 2 + 1, none⟩ = some (.int .i32 sl) := hg.cell HC1.out (fun h => h)
          have G9 := Lib.hid hg
          clear hg
          go_wp2_with fail
          refine (as_12 q sl _).mono ?_
          rintro e w10 ⟨rfl, hg⟩
          have g10 := Grew.trans G9.out hg
          have iq := g10.obj HQ.out (fun h => h)
          have iqd := g10.obj HQD.out (fun h => h)
          have G10 := Lib.hid g10
          clear hg g10 c0 c1
          go_upto_region 25 with fail
          refine law4_r25 w10 n g c q qd qb w6.heap.size sl nl _ _ _ _ _ _ _ _ _ _ _ _ _ _ _ _ _ _ _ _ _ _ _ _ _ _ _ _ _ _ _ _ _ _ _ _ _ _ _ _ _ _ _ _ _ _ _ _ _ _ _ _ _ _ _ _ _ _ _ _ _ _ _ _ _ _ _ _ _ _ _ _ _ _ _ _ _ _ _ _ _ _ _ _ _ _ _ _ _ _ _ _ _ _ _ _ _ _ _ _ _ _ _ _ _ _ _ _ _ _ _ _ _ _ _ _ _ _ _ _ _ _ _ _ _ _ _ _ _ _ _ _ _ _ _ _ _ _ _ _ _ _ _ _ _ _ _ _ _ _ _ _ _ _ _ _ _ _ _ _ _ _ _ _ _ _ _ _ _ _ _ _ _ _ _ _ _ _ _ _ _ _ _ _ _ _ _ _ _ _ _ _ _ _ _ _ _ _ _ _ _ _ _ _ _ _ _ _ _ _ _ _ _ _ _ _ _ _ _ _ _ _ _ _ _ _ _ _ hn (G10.out.cell HC1.out (fun h => h)) ((blk_cell iq 0).trans rfl) ((blk_cell iqd 0).trans rfl) ((blk_cell iqd 1).trans rfl) ((blk_cell iqd 2).trans rfl) (G10.out.obj HQB.out (fun h => h)) (HB8.out.grew G10.out).cells.1 (HB8.out.grew G10.out).cells.2.1 ?_
          intros
          rename_i w11 hg
          have G11 := Lib.hid (Grew.trans G10.out hg)
          clear iq iqd hg
          have iq := G11.out.obj HQ.out (fun h => h)
          have x1 : w11.cell? ⟨q, 1, none⟩ = some (.int .u8 kind) := (blk_cell iq 1).trans rfl
          have x2 : w11.cell? ⟨q, 2, none⟩ = some (.bool ex') := (blk_cell iq 2).trans rfl
          clear iq
          go_upto_if 153 with fail
          go_cut [] from 154 to 177 (fun wx => w11 = wx)
          case first =>
            cases nested
            · have hcs : cs = sc := HNE.out.2 rfl
              obtain rfl : kind = 0 := by rw [HKIND.out, if_pos hcs]
              obtain rfl : ex' = ex := by rw [HEX.out, if_pos hcs]
              clear hcs
              go_wp2
              go_meet
              exact rfl
            · have hcs : cs ≠ sc := fun h => by have := HNE.out.1 h; cases this
              obtain rfl : kind = 1 := by rw [HKIND.out, if_neg hcs]
              obtain rfl : ex' = false := by rw [HEX.out, if_neg hcs]
              clear hcs
              go_wp2
              go_meet
              exact rfl
          case rest =>
            subst hcut
            clear x1 x2
            go_upto_region 32 with fail
            refine law4_r32 w11 n m g c qs w6.heap.size w7.heap.size mf na sl nl _ _ _ _ _ _ _ _ _ _ _ _ _ _ _ _ _ _ _ _ _ _ _ _ _ _ _ _ _ _ _ _ _ _ _ _ _ _ _ _ _ _ _ _ _ _ _ _ _ _ _ _ _ _ _ _ _ _ _ _ _ _ _ _ _ _ _ _ _ _ _ _ _ _ _ _ _ _ _ _ _ _ _ _ _ _ _ _ _ _ _ _ _ _ _ _ _ _ _ _ _ _ _ _ _ _ _ _ _ _ _ _ _ _ _ _ _ _ _ _ _ _ _ _ _ _ _ _ _ _ _ _ _ _ _ _ _ _ _ _ _ _ _ _ _ _ _ _ _ _ _ _ _ _ _ _ _ _ _ _ _ _ _ _ _ _ _ _ _ _ _ _ _ _ _ _ _ _ _ _ _ _ _ _ _ _ _ _ _ _ _ _ _ _ _ _ _ _ _ _ _ _ _ _ _ _ _ _ _ _ _ _ _ _ _ _ _ _ _ _ _ _ _ _ _ _ hn hm (G11.out.cell HC2.out (fun h => h)) (G11.out.cell HC3.out (fun h => h)) (HSH.out.grew G11.out) (HB8.out.grew G11.out).cells.1 (HB8.out.grew G11.out).cells.2.1 (HB8.out.grew G11.out).cells.2.2.1 (HB8.out.grew G11.out).cells.2.2.2.1 ?_
            intros
            rename_i w12 hg
            have G12 := Lib.hid (Grew.trans G11.out hg)
            clear hg
            have R12 := Lib.hid (HR8.out.grew G12.out)
            have B12 := Lib.hid (HB8.out.grew G12.out)
            obtain ⟨y1, y2, y3, y4, y5, y6⟩ := B12.out.cells
            have hu : Calls Tryz.prog 15 #[.pointer (some ⟨b, 0, none⟩), .agg #[.int .u32 0, .int .u32 0]] w12 fun e w' => e = .returned (.int .u32 per) ∧ Grew (fun _ => False) w12 w' := by
              have h := use_law R12.out (i := 0) (s := (Sym.fresh kd ⟨#[110, 115]⟩).used per) rfl
              have e0 : ((Sym.fresh kd ⟨#[110, 115]⟩).used per).uc = per := by simp [Sym.used, Sym.fresh]
              rw [e0] at h
              exact h
            have HU := Lib.hid hu
            clear hu
            go_wp2_with fail
            refine HU.out.mono ?_
            rintro e w13 ⟨rfl, hg⟩
            have R13 := Lib.hid (R12.out.grew hg)
            have B13 := Lib.hid (B12.out.grew hg)
            clear hg y1 y2 y3 y4 y5 y6
            obtain ⟨y1, y2, y3, y4, y5, y6⟩ := B13.out.cells
            have hg16 : Calls Tryz.prog 16 #[.pointer (some ⟨b, 0, none⟩), .slice none 0 0, .agg #[.int .i32 sl], .bool ex, .agg #[.int .i32 nl], .agg #[.int .u32 0, .int .u32 0], .agg #[.int .u32 0, .int .u32 1], .slice none 0 0] w13
                (Gen4bPost w b g7 bm cs sc 2 cap7 pc7 mf na (.only 0) [((Sym.fresh kd ⟨#[110, 115]⟩).used per).used per, Sym.fresh 1 ⟨#[95, 110, 115]⟩] 0 1 sl nl w13) := by
              have hp := HPER.out
              have e0 : ((Sym.fresh kd ⟨#[110, 115]⟩).used per).uc = per := by simp [Sym.used, Sym.fresh]
              exact gen4b w w13 b g7 bm cs sc 2 cap7 pc7 cur' mf na (.only 0) _ R13.out 0 0 1 0 rfl _ _ rfl rfl ⟨rfl, rfl⟩ (.inl rfl) (by rw [e0, hp]; split <;> decide) (by rw [e0, hp]; split <;> decide) (by simp [Held.has]) sl nl ex per hp
            have HG16 := Lib.hid hg16
            clear hg16
            go_wp2_with fail
            refine HG16.out.mono ?_
            rintro e w14 ⟨g2, cc2, qs2, cur2, rfl, z0, z1, hsh2, hr14, hk14⟩
            have B14 := Lib.hid (B13.out.kept hk14)
            have R14 := Lib.hid hr14
            clear hk14 hr14 y1 y2 y3 y4 y5 y6
            go_upto_region 37 with fail
            refine law4_r37 w14 g2 cc2 qs2 w6.heap.size w7.heap.size mf na sl nl _ _ _ _ _ _ _ _ _ _ _ _ _ _ _ _ _ _ _ _ _ _ _ _ _ _ _ _ _ _ _ _ _ _ _ _ _ _ _ _ _ _ _ _ _ _ _ _ _ _ _ _ _ _ _ _ _ _ _ _ _ _ _ _ _ _ _ _ _ _ _ _ _ _ _ _ _ _ _ _ _ _ _ _ _ _ _ _ _ _ _ _ _ _ _ _ _ _ _ _ _ _ _ _ _ _ _ _ _ _ _ _ _ _ _ _ _ _ _ _ _ _ _ _ _ _ _ _ _ _ _ _ _ _ _ _ _ _ _ _ _ _ _ _ _ _ _ _ _ _ _ _ _ _ _ _ _ _ _ _ _ _ _ _ _ _ _ _ _ _ _ _ _ _ _ _ _ _ _ _ _ _ _ _ _ _ _ _ _ _ _ _ _ _ _ _ _ _ _ _ _ _ _ _ _ _ _ _ _ _ _ _ _ _ _ _ _ _ _ _ _ _ _ _ _ _ _ _ z0 z1 hsh2 B14.out.cells.1 B14.out.cells.2.1 B14.out.cells.2.2.1 B14.out.cells.2.2.2.1 ?_
            intros
            rename_i w15 hg
            have hB := B14.out.grew hg
            obtain ⟨y1, y2, y3, y4, y5, y6⟩ := hB.cells
            have hu : Calls Tryz.prog 15 #[.pointer (some ⟨b, 0, none⟩), .agg #[.int .u32 0, .int .u32 0]] w15 fun e w' => e = .returned (.int .u32 (per + per)) ∧ Grew (fun _ => False) w15 w' := by
              have h := use_law (R14.out.grew hg) (i := 0) (s := ((Sym.fresh kd ⟨#[110, 115]⟩).used per).used per) rfl
              have e0 : (((Sym.fresh kd ⟨#[110, 115]⟩).used per).used per).uc = per + per := by simp [Sym.used, Sym.fresh]
              rw [e0] at h
              exact h
            have HU2 := Lib.hid hu
            have hlo := R14.out.gr
            have GF := Lib.hid (Grew.trans hlo hg)
            clear hu hlo hB z0 z1 hsh2 hg
            cases mf
            · obtain rfl : per = 2 := HPER.out
              go_wp2_with fail
              refine HU2.out.mono ?_
              rintro e w16 ⟨rfl, hg⟩
              have GG := Lib.hid (Grew.trans GF.out hg)
              clear hg
              go_wp2
              go_ret
              exact ⟨rfl, GG.out⟩
            · obtain rfl : per = 1 := HPER.out
              go_wp2_with fail
              refine HU2.out.mono ?_
              rintro e w16 ⟨rfl, hg⟩
              have GG := Lib.hid (Grew.trans GF.out hg)
              clear hg
              go_wp2
              go_ret
              exact ⟨rfl, GG.out⟩
end Go.Proofs.YtnikgjgjmpoglaaGreatFmt
