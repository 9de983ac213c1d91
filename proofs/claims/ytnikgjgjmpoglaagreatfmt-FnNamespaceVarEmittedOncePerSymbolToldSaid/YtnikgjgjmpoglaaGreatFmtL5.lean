/-
  FnNamespaceVarEmittedOncePerSymbol, walked. Condition: k at most 4096.
-/
import Derived.Test.YtnikgjgjmpoglaaGreatFmtK5
import Derived.Deep.DeepCutAuto
import Derived.Deep.CutRange
import Derived.Deep.RegionHeld3
import Derived.StillTailTactics
import Derived.IntWalk
namespace Go.Proofs.YtnikgjgjmpoglaaGreatFmt
open Go Go.RowKit
set_option maxRecDepth 100000

/-- The law's three boxes. -/
def B5 (p9 p11 p12 : Nat) (W : World) : Prop :=
  W.heap[p9]? = some (.cells #[.int .u32 0, .int .u32 0] 30 (0, 0)) ∧ W.heap[p11]? = some (.cells #[.int .u32 0, .int .u32 1] 30 (0, 0)) ∧ W.heap[p12]? = some (.cells #[.int .u32 0, .int .u32 2] 30 (0, 0))

theorem B5.grew {p9 p11 p12 : Nat} {w w' : World} (h : B5 p9 p11 p12 w) (hg : Grew (fun _ => False) w w') : B5 p9 p11 p12 w' := ⟨hg.obj h.1 (fun h => h), hg.obj h.2.1 (fun h => h), hg.obj h.2.2 (fun h => h)⟩
theorem B5.kept {p9 p11 p12 : Nat} {w w' : World} (h : B5 p9 p11 p12 w) (hk : Kept w w') : B5 p9 p11 p12 w' := ⟨hk _ _ _ h.1 (by decide) (by decide), hk _ _ _ h.2.1 (by decide) (by decide), hk _ _ _ h.2.2 (by decide) (by decide)⟩
theorem B5.cells {p9 p11 p12 : Nat} {w : World} (h : B5 p9 p11 p12 w) : w.cell? ⟨p9, 0, none⟩ = some (.int .u32 0) ∧ w.cell? ⟨p9, 1, none⟩ = some (.int .u32 0) ∧ w.cell? ⟨p11, 0, none⟩ = some (.int .u32 0) ∧ w.cell? ⟨p11, 1, none⟩ = some (.int .u32 1) ∧ w.cell? ⟨p12, 0, none⟩ = some (.int .u32 0) ∧ w.cell? ⟨p12, 1, none⟩ = some (.int .u32 2) :=
  ⟨(blk_cell h.1 0).trans rfl, (blk_cell h.1 1).trans rfl, (blk_cell h.2.1 0).trans rfl, (blk_cell h.2.1 1).trans rfl, (blk_cell h.2.2 0).trans rfl, (blk_cell h.2.2 1).trans rfl⟩

/-- What holds at the head of each round. -/
def LInv (linked bn : Bool) (k : Nat) (w : World) (b bs bm sc cap : Nat) (pc : Array Value) (p9 p11 p12 : Nat) (s13 s14 s15 : Value) (g : Nat) (wr : World) : Prop :=
  ∃ (t : Nat) (h : Held) (rows : List Sym) (l : Nat) (cur : Array Value), t + g = k ∧ s13 = .int .i64 l ∧ s14 = .int .i64 t ∧ s15 = .int .i64 t ∧ Loop5 linked bn t h rows l ∧ Ready w wr b bs bm sc sc 3 cap pc cur false false h rows ∧ B5 p9 p11 p12 wr

set_option maxHeartbeats 4000000 in
theorem law5_walk (k : Nat) (hk : k ≤ 4096) (linked bn : Bool) (w : World) (z : 0 < w.heap.size) (g0 : w.cell? ⟨0, 0, none⟩ = some (.int .u32 4294967295)) (g1 : w.cell? ⟨0, 1, none⟩ = some (.int .u32 4294967295)) :
    Calls Tryz.prog 5 #[.int .i64 k, .bool linked, .bool bn] w (BoolPost true w) := by
  obtain ⟨kd, hkd⟩ : ∃ kd : Int, kd = if bn then 20 else 27 := ⟨_, rfl⟩
  have HKD := Lib.hid hkd
  have H6 := Lib.hid (parser_made false 0 w z g0 g1)
  clear hkd g0 g1
  go_enter Tryz.func5, Tryz.ntmps5
  go_wp2_with fail
  refine H6.out.mono ?_
  rintro e w1 ⟨b, bm, pc, rfl, s1⟩
  have H7 := Lib.hid (push1_law w w1 b bm pc false 0 _ _ _ s1)
  clear s1
  go_wp2_with fail
  refine H7.out.mono ?_
  rintro e w2 ⟨rfl, sc, gs, cap, sca, pc2, s2, c2⟩
  have H8 := Lib.hid (mark_law w w2 b bm sc pc2 false 0 _ _ _ _ s2)
  have C2 := Lib.hid c2
  clear s2 c2
  go_wp2_with fail
  refine H8.out.mono ?_
  rintro e w3 ⟨rfl, ⟨pc3, s3⟩, hg3⟩
  have S3 := Lib.hid s3
  have HCS := Lib.hid (C2.out.marked hg3).hs
  clear s3 hg3
  go_wp2_with fail
  refine (sym_law w w3 b bm 0 pc3 false 0 _ _ _ _ _ [] 20 _ S3.out (World.ownsRow_nil _ 0 232 10) (fun k hk => by simp [Value.ownBlock] at hk) (by decide)).mono ?_
  rintro e w6 ⟨rfl, g6, cap6, pc6, s6, o6, l6, hg6⟩
  have B9 := Lib.hid (blk_at w6 (.cells #[.int .u32 0, .int .u32 0] 30) _ rfl)
  have G9 : Grew (fun _ => False) w6 (w6.alloc (.cells #[.int .u32 0, .int .u32 0] 30)) := (Grew.refl _ w6).alloc _
  have O6 := Lib.hid (o6.alloc (.cells #[.int .u32 0, .int .u32 0] 30))
  have S6 := Lib.hid (s6.grew G9)
  have HCS6 := Lib.hid (G9.obj (sym_kept HCS.out S3.out.hp (World.ownsRow_nil _ 0 232 10) hg6 (by decide) (by decide)) (fun h => h))
  have L6 := Lib.hid l6
  clear G9 s6 o6 l6 hg6
  go_upto_if 39 with fail
  go_cut [10] from 39 to 39 (fun s wx => s = .int .u8 kd ∧ wx = w6.alloc (.cells #[.int .u32 0, .int .u32 0] 30))
  case first =>
    cases bn
    · go_wp2
      go_meet
      exact ⟨by rw [HKD.out]; rfl, rfl⟩
    · go_wp2
      go_meet
      exact ⟨by rw [HKD.out]; rfl, rfl⟩
  case rest =>
  obtain ⟨rfl, rfl⟩ := hcut
  go_wp2_with fail
  refine (sym_law w _ b bm 1 pc6 false 0 _ _ _ _ _ _ kd _ S6.out O6.out (fun k hk => ?_) (by decide)).mono ?_
  · obtain rfl : g6 = k := by simpa [Value.ownBlock] using hk
    exact L6.out
  rintro e w7 ⟨rfl, g7, cap7, pc7, s7, o7, l7, hg7⟩
  have B9b := Lib.hid (sym_kept B9.out S6.out.hp O6.out hg7 (by decide) (by decide))
  have HCS7 := Lib.hid (sym_kept HCS6.out S6.out.hp O6.out hg7 (by decide) (by decide))
  have B11 := Lib.hid (blk_at w7 (.cells #[.int .u32 0, .int .u32 1] 30) _ rfl)
  have G11 := Lib.hid ((Grew.refl (fun _ => False) w7).alloc (.cells #[.int .u32 0, .int .u32 1] 30))
  have O7 := Lib.hid (o7.alloc (.cells #[.int .u32 0, .int .u32 1] 30))
  have S7 := Lib.hid (s7.grew G11.out)
  have L7 := Lib.hid l7
  have hlt := blk_lt B9b.out
  clear s7 o7 l7 hg7
  go_wp2_with fail
  refine (sym_law w _ b bm 2 pc7 false 0 _ _ _ _ _ _ 1 _ S7.out O7.out (fun k hk => ?_) (by decide)).mono ?_
  · obtain rfl : g7 = k := by simpa [Value.ownBlock] using hk
    exact L7.out
  rintro e w8 ⟨rfl, g8, cap8, pc8, s8, o8, l8, hg8⟩
  have B9c := Lib.hid (sym_kept (G11.out.obj B9b.out (fun h => h)) S7.out.hp O7.out hg8 (by decide) (by decide))
  have B11c := Lib.hid (sym_kept B11.out S7.out.hp O7.out hg8 (by decide) (by decide))
  have HCS8 := Lib.hid (sym_kept (G11.out.obj HCS7.out (fun h => h)) S7.out.hp O7.out hg8 (by decide) (by decide))
  have S8 := Lib.hid s8
  have O8 := Lib.hid o8
  have L8 := Lib.hid l8
  have hlt2 := blk_lt B9c.out
  have hlt3 := blk_lt B11c.out
  clear s8 o8 l8 hg8
  go_upto_if 45 with fail
  refine wp_named (fun W => W = w8.alloc (.cells #[.int .u32 0, .int .u32 2] 30)) rfl ?_
  intro wp hwp
  have g : Grew (fun _ => False) w8 wp := hwp ▸ ((Grew.refl _ w8).alloc _)
  have hb5 : B5 w6.heap.size w7.heap.size w8.heap.size wp := ⟨g.obj B9c.out (fun h => h), g.obj B11c.out (fun h => h), hwp ▸ blk_at _ _ _ rfl⟩
  have hs8 : St w wp b bm pc8 false (if false then 4 else 0) (.pointer (some ⟨sc, 0, none⟩)) (.slice (some ⟨g8, 0, none⟩) 3 cap8) (.slice (some ⟨gs, 0, none⟩) 1 cap) (.pointer (some ⟨sc, 0, none⟩)) .nil := S8.out.grew g
  have ho8 : wp.ownsRow 0 232 10 (.slice (some ⟨g8, 0, none⟩) 3 cap8) 3 (cellsOfSyms (rows5 false bn 0 0)) := by
    have h := O8.out
    have h2 := owns_same h (w' := wp) fun k hk => g.block k (h.lt k hk).2 (fun h => h)
    have e0 := HKD.out
    subst e0
    exact h2
  obtain ⟨cur, hR⟩ := Ready.of (na := false) (rows5 false bn 0 0) hs8 ho8 (by simp [rows5]) L8.out ⟨_, g.obj HCS8.out (fun h => h)⟩ ⟨_, g.obj HCS8.out (fun h => h)⟩
  have HR := Lib.hid hR
  have HB := Lib.hid hb5
  clear g hb5 hs8 ho8 hR hwp S3 HCS B9 O6 S6 HCS6 L6 B9b HCS7 B11 G11 O7 S7 L7 B9c B11c HCS8 S8 O8 L8
  generalize w6.heap.size = p9 at *
  generalize w7.heap.size = p11 at *
  generalize w8.heap.size = p12 at *
  go_cut [] from 46 to 49 (fun wx => ∃ cur, Ready w wx b g8 bm sc sc 3 cap8 pc8 cur false false .nil (rows5 linked bn 0 0) ∧ B5 p9 p11 p12 wx)
  case first =>
    cases linked
    · go_wp2
      go_meet
      exact ⟨cur, HR.out, HB.out⟩
    · obtain ⟨y1, y2, y3, y4, -, -⟩ := HB.out.cells
      go_wp2_with fail
      refine (link5 HR.out (i := 0) (s := symA false 0) rfl 1).mono ?_
      rintro e wx ⟨rfl, ⟨cur', hr⟩, hk⟩
      have HR' := Lib.hid hr
      have HK' := Lib.hid hk
      clear hr hk y1 y2 y3 y4
      go_wp2
      go_meet
      exact ⟨cur', HR'.out, HB.out.kept HK'.out⟩
  case rest =>
  obtain ⟨cur, hr, hb⟩ := hcut
  have HR' := Lib.hid hr
  have HB' := Lib.hid hb
  clear hr hb HR HB
  go_wp2_with fail
  go_loopg [13, 14, 15] k (fun gg s13 s14 s15 wr => LInv linked bn k w b g8 bm sc cap8 pc8 p9 p11 p12 s13 s14 s15 gg wr)
  case atStart => exact ⟨0, .nil, _, 0, _, Nat.zero_add k, rfl, rfl, rfl, Loop5.start linked bn, HR'.out, HB'.out⟩
  case round =>
    obtain ⟨t, h, rows, l, cur, htk, rfl, rfl, rfl, HL, hr, hb⟩ := hrel
    by_cases hlt : t < k
    · obtain ⟨jf, si, sj, emit, hjf, hi, hj, hl0, hlk, hu0, hu1, hem, hL'⟩ := HL.next (by omega)
      have hle := HL.le2
      obtain ⟨y1, y2, y3, y4, y5, y6⟩ := hb.cells
      have l9 := blk_lt hb.1
      have l11 := blk_lt hb.2.1
      have l12 := blk_lt hb.2.2
      have hgen := fun (W : World) (hg : Grew (fun _ => False) wr W) => gen5 w W b g8 bm sc cap8 pc8 cur h rows (hr.grew hg) (t % 2) jf jf rfl si sj hi hj hl0 hlk hu0 hu1 emit hem
      have HGEN := Lib.hid hgen
      have HB5 := Lib.hid hb
      have HLN := Lib.hid hL'
      have HJ := Lib.hid hjf
      have hti : (t : Int) < (k : Int) := by omega
      clear HR' HB' hr hb HL hL' hjf hi hj hl0 hlk hu0 hu1 hem hgen
      go_upto_if 58 with fail
      go_cut [] from 59 to 59 (fun wx => Grew (fun _ => False) wr wx ∧ wx.heap[wr.heap.size]? = some (.cells #[.int .u32 0, .int .u32 ((t % 2 : Nat) : Int)] 30 (0, 0)))
      case first =>
        clear HGEN HLN
        have hp : t % 2 = 0 ∨ t % 2 = 1 := by omega
        rcases hp with hp | hp
        · have hp2 : (t : Int).tmod 2 = 0 := by rw [IntWalk.rem_in _ _ (by omega)]; omega
          go_wp2
          go_meet
          exact ⟨(Grew.refl _ wr).alloc _, by rw [hp]; exact blk_at _ _ _ rfl⟩
        · have hp2 : (t : Int).tmod 2 = 1 := by rw [IntWalk.rem_in _ _ (by omega)]; omega
          go_wp2
          go_meet
          exact ⟨(Grew.refl _ wr).alloc _, by rw [hp]; exact blk_at _ _ _ rfl⟩
      case rest =>
      obtain ⟨wa, hwa⟩ : ∃ wa, wa = wc := ⟨_, rfl⟩
      subst hwa
      obtain ⟨hg1, hb16⟩ := hcut
      clear y1 y2 y3 y4 y5 y6
      obtain ⟨y1, y2, y3, y4, y5, y6⟩ := (HB5.out.grew hg1).cells
      have z1 : wa.cell? ⟨wr.heap.size, 0, none⟩ = some (.int .u32 0) := (blk_cell hb16 0).trans rfl
      have z2 : wa.cell? ⟨wr.heap.size, 1, none⟩ = some (.int .u32 ((t % 2 : Nat) : Int)) := (blk_cell hb16 1).trans rfl
      have l16 := blk_lt hb16
      have HG1 := Lib.hid hg1
      have H16 := Lib.hid hb16
      have l9a := blk_lt (HB5.out.grew hg1).1
      have l11a := blk_lt (HB5.out.grew hg1).2.1
      have l12a := blk_lt (HB5.out.grew hg1).2.2
      clear hg1 hb16 l9 l11 l12
      generalize wr.heap.size = p16 at *
      go_upto_if 61 with fail
      go_cut [] from 62 to 62 (fun wx => Grew (fun _ => False) wa wx ∧ wx.heap[wa.heap.size]? = some (.cells #[.int .u32 0, .int .u32 ((jf : Nat) : Int)] 30 (0, 0)))
      case first =>
        clear HGEN HLN
        cases linked
        · have hj1 : (jf : Nat) = t % 2 := HJ.out
          go_wp2
          go_meet
          exact ⟨(Grew.refl _ wa).alloc _, by rw [hj1]; exact blk_at _ _ _ rfl⟩
        · have hj1 : (jf : Nat) = 1 := HJ.out
          go_wp2
          go_meet
          exact ⟨(Grew.refl _ wa).alloc _, by rw [hj1]; exact blk_at _ _ _ rfl⟩
      case rest =>
      obtain ⟨wb, hwb⟩ : ∃ wb, wb = wc := ⟨_, rfl⟩
      subst hwb
      obtain ⟨hg2, hb17⟩ := hcut
      have hg12 := Grew.trans HG1.out hg2
      clear y1 y2 y3 y4 y5 y6 z1 z2
      obtain ⟨y1, y2, y3, y4, y5, y6⟩ := (HB5.out.grew hg12).cells
      have h16 := hg2.obj H16.out (fun h => h)
      have z1 : wb.cell? ⟨p16, 0, none⟩ = some (.int .u32 0) := (blk_cell h16 0).trans rfl
      have z2 : wb.cell? ⟨p16, 1, none⟩ = some (.int .u32 ((t % 2 : Nat) : Int)) := (blk_cell h16 1).trans rfl
      have hcall := HGEN.out wb hg12
      have HCALL := Lib.hid hcall
      have HB6 := Lib.hid (HB5.out.grew hg12)
      have H17 := Lib.hid hb17
      clear hcall hg12 hg2 hb17 h16 HGEN HB5 HG1 H16 HJ
      generalize wa.heap.size = p17 at *
      go_wp2_with fail
      refine HCALL.out.mono ?_
      rintro e w8 ⟨g, c, n1, qs, cur8, rfl, hn1, hloc, d0, d1, hsh, hr8, hk8⟩
      have hb8 := HB6.out.kept hk8
      have h17 := hk8 _ _ _ H17.out (by decide) (by decide)
      have hs : ∀ W : World, Grew (fun _ => False) w8 W → Calls Tryz.prog 14 #[.agg #[.iface 199 (.pointer (some ⟨qs, 0, none⟩)), .int .i32 0], .int .i32 0, .int .i32 0, .agg #[.int .u32 0, .int .u32 ((jf : Nat) : Int)], .agg #[.int .u32 0, .int .u32 2], .bool false, .int .i64 0, .bool false, .bool false] W (BoolPost true W) := fun W hg => callShape_yes (hsh.grew hg) (by decide)
      have HS := Lib.hid hs
      have HR8 := Lib.hid hr8
      have HB8 := Lib.hid hb8
      have HZ1 := Lib.hid ((blk_cell h17 0).trans rfl : w8.cell? ⟨p17, 0, none⟩ = some (.int .u32 0))
      have HZ2 := Lib.hid ((blk_cell h17 1).trans rfl : w8.cell? ⟨p17, 1, none⟩ = some (.int .u32 ((jf : Nat) : Int)))
      have HY5 := Lib.hid hb8.cells.2.2.2.2.1
      have HY6 := Lib.hid hb8.cells.2.2.2.2.2
      clear hk8 hb8 h17 hs hsh hr8 HB6 H17 HCALL y1 y2 y3 y4 y5 y6 z1 z2
      cases emit
      · obtain rfl : n1 = 0 := hn1
        have HD0 := Lib.hid (d0 : w8.cell? ⟨g, 0, none⟩ = some (.iface 199 (.pointer (some ⟨qs, 0, none⟩))))
        have HD1 := Lib.hid (d1 : w8.cell? ⟨g, 1, none⟩ = some (.int .i32 0))
        clear d0 d1 hloc
        simp only [Nat.zero_add]
        go_wp2_with fail
        go_loopg [13, 14, 19] 1 (fun gg s13 s14 s19 wx => Grew (fun _ => False) w8 wx ∧ ((gg = 1 ∧ s13 = .int .i64 l ∧ s14 = .int .i64 t ∧ s19 = .int .i64 0) ∨ (gg = 0 ∧ s13 = .int .i64 l ∧ s14 = .int .i64 ((t + 1 : Nat) : Int) ∧ s19 = .int .i64 1)))
        case atStart => exact ⟨Grew.refl _ w8, .inl ⟨rfl, rfl, rfl, rfl⟩⟩
        case round =>
          obtain ⟨hgx, hc⟩ := hrel
          have HGX := Lib.hid hgx
          have x0 := hgx.cell HD0.out (fun h => h)
          have x1 := hgx.cell HD1.out (fun h => h)
          clear hgx
          rcases hc with ⟨rfl, rfl, rfl, rfl⟩ | ⟨-, rfl, rfl, rfl⟩
          · clear HLN
            go_wp2_with fail
            refine (as_12_no qs 0 _).mono ?_
            rintro e wy ⟨rfl, hgy⟩
            have hgw := Grew.trans HGX.out hgy
            have HGY := Lib.hid hgw
            have d0 : wy.cell? ⟨g, 0, none⟩ = some (.iface 199 (.pointer (some ⟨qs, 0, none⟩))) := hgw.cell HD0.out (fun h => h)
            have d1 : wy.cell? ⟨g, 1, none⟩ = some (.int .i32 0) := hgw.cell HD1.out (fun h => h)
            have z1 : wy.cell? ⟨p17, 0, none⟩ = some (.int .u32 0) := hgw.cell HZ1.out (fun h => h)
            have z2 : wy.cell? ⟨p17, 1, none⟩ = some (.int .u32 ((jf : Nat) : Int)) := hgw.cell HZ2.out (fun h => h)
            have y5 : wy.cell? ⟨p12, 0, none⟩ = some (.int .u32 0) := hgw.cell HY5.out (fun h => h)
            have y6 : wy.cell? ⟨p12, 1, none⟩ = some (.int .u32 2) := hgw.cell HY6.out (fun h => h)
            have hcs := HS.out _ (Grew.trans hgw (Grew.refl _ wy).drew)
            have HCS := Lib.hid hcs
            clear hgy hgw hcs x0 x1
            go_upto_region 36 with fail
            go_cut [113] from 106 to 112 (fun s wz => s = .bool false ∧ Grew (fun _ => False) wy wz)
            case first =>
              clear HGX HGY HS HR8 HB8
              go_region_held3 (fun w' => w'.cell? ⟨g, 0, none⟩ = some (.iface 199 (.pointer (some ⟨qs, 0, none⟩))) ∧ w'.cell? ⟨g, 1, none⟩ = some (.int .i32 0) ∧ w'.cell? ⟨p17, 0, none⟩ = some (.int .u32 0) ∧ w'.cell? ⟨p17, 1, none⟩ = some (.int .u32 ((jf : Nat) : Int)) ∧ w'.cell? ⟨p12, 0, none⟩ = some (.int .u32 0) ∧ w'.cell? ⟨p12, 1, none⟩ = some (.int .u32 2))
                (first | (refine ⟨?_, ?_, ?_, ?_, ?_, ?_⟩ <;> assumption) | (refine ⟨?_, ?_, ?_, ?_, ?_, ?_⟩ <;> (refine hg.cell ?_ (fun h => h); assumption)))
                (first | (go_at_call 14; (with_reducible refine HCS.out.mono ?_); rintro e w' ⟨rfl, hg⟩))
              all_goals
                repeat (first | go_step | (with_reducible refine Met.intro ?_))
                (repeat apply Exists.intro)
                exact ⟨⟨rfl, Grew.trans (Grew.refl _ wy).drew hg⟩, rfl⟩
            case rest =>
              obtain ⟨rfl, hgz⟩ := hcut
              have hgf := Grew.trans HGY.out hgz
              clear hgz HGY d0 d1 z1 z2 y5 y6 HCS
              have HGF := Lib.hid hgf
              clear hgf
              go_wp2
              go_roundg 0
              case measure => omega
              case rel => exact ⟨HGF.out, .inr ⟨rfl, rfl, by go_num, rfl⟩⟩
          · clear HD0 HD1 HZ1 HZ2 HY5 HY6
            have hgx := HGX.out
            have hR9 := HR8.out.grew hgx
            have hB9 := HB8.out.grew hgx
            have hnew := HLN.out
            have HFIN := Lib.hid (And.intro hR9 (And.intro hB9 hnew))
            clear hgx hR9 hB9 hnew HGX HR8 HB8 HS HLN x0 x1
            go_wp2
            go_roundg (k - (t + 1))
            case measure => omega
            case rel => exact ⟨t + 1, _, _, l, cur8, by omega, rfl, rfl, by go_num, HFIN.out.2.2, HFIN.out.1, HFIN.out.2.1⟩
      · obtain rfl : n1 = 1 := hn1
        have HD0 := Lib.hid (d0 : w8.cell? ⟨g, 2, none⟩ = some (.iface 199 (.pointer (some ⟨qs, 0, none⟩))))
        have HD1 := Lib.hid (d1 : w8.cell? ⟨g, 3, none⟩ = some (.int .i32 0))
        obtain ⟨e1, q, qd, qb, e0, e2, e3, e4, hqb⟩ := hloc rfl
        have hbi : ∀ W : World, Grew (fun _ => False) w8 W → Calls Tryz.prog 13 #[.agg #[.iface 194 (.pointer (some ⟨qb, 0, none⟩)), .int .i32 0], .agg #[.int .u32 0, .int .u32 ((jf : Nat) : Int)]] W (BoolPost true W) := fun W hg => bindingIs_yes qb jf 0 W (hg.obj hqb (fun h => h))
        have HBI := Lib.hid hbi
        have HE0 := Lib.hid e0
        have HE1 := Lib.hid e1
        have HE2 := Lib.hid e2
        have HE3 := Lib.hid e3
        have HE4 := Lib.hid e4
        clear d0 d1 hloc e0 e1 e2 e3 e4 hqb hbi
        simp only [Nat.reduceAdd]
        go_wp2_with fail
        go_loopg [13, 14, 19] 2 (fun gg s13 s14 s19 wx => Grew (fun _ => False) w8 wx ∧ ((gg = 2 ∧ s13 = .int .i64 l ∧ s14 = .int .i64 t ∧ s19 = .int .i64 0) ∨ (gg = 1 ∧ s13 = .int .i64 ((l + 1 : Nat) : Int) ∧ s14 = .int .i64 t ∧ s19 = .int .i64 1) ∨ (gg = 0 ∧ s13 = .int .i64 ((l + 1 : Nat) : Int) ∧ s14 = .int .i64 ((t + 1 : Nat) : Int) ∧ s19 = .int .i64 2)))
        case atStart => exact ⟨Grew.refl _ w8, .inl ⟨rfl, rfl, rfl, rfl⟩⟩
        case round =>
          obtain ⟨hgx, hc⟩ := hrel
          have HGX := Lib.hid hgx
          rcases hc with ⟨rfl, rfl, rfl, rfl⟩ | ⟨rfl, rfl, rfl, rfl⟩ | ⟨-, rfl, rfl, rfl⟩
          · have x0 := hgx.cell HE0.out (fun h => h)
            have x1 := hgx.cell HE1.out (fun h => h)
            clear hgx HLN HS HR8 HB8
            go_wp2_with fail
            refine (as_12 q 0 _).mono ?_
            rintro e wy ⟨rfl, hgy⟩
            have hgw := Grew.trans HGX.out hgy
            have HGY := Lib.hid hgw
            have e2 : wy.cell? ⟨q, 0, none⟩ = some (.slice (some ⟨qd, 0, none⟩) 1 1) := hgw.cell HE2.out (fun h => h)
            have e3 : wy.cell? ⟨qd, 0, none⟩ = some (.iface 194 (.pointer (some ⟨qb, 0, none⟩))) := hgw.cell HE3.out (fun h => h)
            have e4 : wy.cell? ⟨qd, 1, none⟩ = some (.int .i32 0) := hgw.cell HE4.out (fun h => h)
            have z1 : wy.cell? ⟨p17, 0, none⟩ = some (.int .u32 0) := hgw.cell HZ1.out (fun h => h)
            have z2 : wy.cell? ⟨p17, 1, none⟩ = some (.int .u32 ((jf : Nat) : Int)) := hgw.cell HZ2.out (fun h => h)
            have hbw := HBI.out _ (Grew.trans hgw (Grew.refl _ wy).drew)
            have HBW := Lib.hid hbw
            clear hgy hgw hbw x0 x1
            go_upto_region 33 with fail
            go_cut [103] from 86 to 102 (fun s wz => s = .bool false ∧ Grew (fun _ => False) wy wz)
            case first =>
              clear HGX HGY HBI
              go_region_held3 (fun w' => w'.cell? ⟨q, 0, none⟩ = some (.slice (some ⟨qd, 0, none⟩) 1 1) ∧ w'.cell? ⟨qd, 0, none⟩ = some (.iface 194 (.pointer (some ⟨qb, 0, none⟩))) ∧ w'.cell? ⟨qd, 1, none⟩ = some (.int .i32 0) ∧ w'.cell? ⟨p17, 0, none⟩ = some (.int .u32 0) ∧ w'.cell? ⟨p17, 1, none⟩ = some (.int .u32 ((jf : Nat) : Int)))
                (first | (refine ⟨?_, ?_, ?_, ?_, ?_⟩ <;> assumption) | (refine ⟨?_, ?_, ?_, ?_, ?_⟩ <;> (refine hg.cell ?_ (fun h => h); assumption)))
                (first | (go_at_call 13; (with_reducible refine HBW.out.mono ?_); rintro e w' ⟨rfl, hg⟩))
              all_goals
                repeat (first | go_step | (with_reducible refine Met.intro ?_))
                (repeat apply Exists.intro)
                exact ⟨⟨rfl, Grew.trans (Grew.refl _ wy).drew hg⟩, rfl⟩
            case rest =>
              obtain ⟨rfl, hgz⟩ := hcut
              have hgf := Grew.trans HGY.out hgz
              clear hgz HGY e2 e3 e4 z1 z2 HBW
              have HGF := Lib.hid hgf
              clear hgf
              go_wp2
              go_roundg 1
              case measure => omega
              case rel => exact ⟨HGF.out, .inr (.inl ⟨rfl, by go_num, rfl, by go_num⟩)⟩
          · have x0 := hgx.cell HD0.out (fun h => h)
            have x1 := hgx.cell HD1.out (fun h => h)
            clear hgx HLN HBI HE0 HE1 HE2 HE3 HE4
            go_wp2_with fail
            refine (as_12_no qs 0 _).mono ?_
            rintro e wy ⟨rfl, hgy⟩
            have hgw := Grew.trans HGX.out hgy
            have HGY := Lib.hid hgw
            have d0 : wy.cell? ⟨g, 2, none⟩ = some (.iface 199 (.pointer (some ⟨qs, 0, none⟩))) := hgw.cell HD0.out (fun h => h)
            have d1 : wy.cell? ⟨g, 3, none⟩ = some (.int .i32 0) := hgw.cell HD1.out (fun h => h)
            have z1 : wy.cell? ⟨p17, 0, none⟩ = some (.int .u32 0) := hgw.cell HZ1.out (fun h => h)
            have z2 : wy.cell? ⟨p17, 1, none⟩ = some (.int .u32 ((jf : Nat) : Int)) := hgw.cell HZ2.out (fun h => h)
            have y5 : wy.cell? ⟨p12, 0, none⟩ = some (.int .u32 0) := hgw.cell HY5.out (fun h => h)
            have y6 : wy.cell? ⟨p12, 1, none⟩ = some (.int .u32 2) := hgw.cell HY6.out (fun h => h)
            have hcs := HS.out _ (Grew.trans hgw (Grew.refl _ wy).drew)
            have HCS := Lib.hid hcs
            clear hgy hgw hcs x0 x1
            go_upto_region 36 with fail
            go_cut [113] from 106 to 112 (fun s wz => s = .bool false ∧ Grew (fun _ => False) wy wz)
            case first =>
              clear HGX HGY HS HR8 HB8
              go_region_held3 (fun w' => w'.cell? ⟨g, 2, none⟩ = some (.iface 199 (.pointer (some ⟨qs, 0, none⟩))) ∧ w'.cell? ⟨g, 3, none⟩ = some (.int .i32 0) ∧ w'.cell? ⟨p17, 0, none⟩ = some (.int .u32 0) ∧ w'.cell? ⟨p17, 1, none⟩ = some (.int .u32 ((jf : Nat) : Int)) ∧ w'.cell? ⟨p12, 0, none⟩ = some (.int .u32 0) ∧ w'.cell? ⟨p12, 1, none⟩ = some (.int .u32 2))
                (first | (refine ⟨?_, ?_, ?_, ?_, ?_, ?_⟩ <;> assumption) | (refine ⟨?_, ?_, ?_, ?_, ?_, ?_⟩ <;> (refine hg.cell ?_ (fun h => h); assumption)))
                (first | (go_at_call 14; (with_reducible refine HCS.out.mono ?_); rintro e w' ⟨rfl, hg⟩))
              all_goals
                repeat (first | go_step | (with_reducible refine Met.intro ?_))
                (repeat apply Exists.intro)
                exact ⟨⟨rfl, Grew.trans (Grew.refl _ wy).drew hg⟩, rfl⟩
            case rest =>
              obtain ⟨rfl, hgz⟩ := hcut
              have hgf := Grew.trans HGY.out hgz
              clear hgz HGY d0 d1 z1 z2 y5 y6 HCS
              have HGF := Lib.hid hgf
              clear hgf
              go_wp2
              go_roundg 0
              case measure => omega
              case rel => exact ⟨HGF.out, .inr (.inr ⟨rfl, rfl, by go_num, by go_num⟩)⟩
          · clear HD0 HD1 HZ1 HZ2 HY5 HY6 HBI HE0 HE1 HE2 HE3 HE4
            have x0 := 0
            have x1 := 0
            have hgx := HGX.out
            have hR9 := HR8.out.grew hgx
            have hB9 := HB8.out.grew hgx
            have hnew := HLN.out
            have HFIN := Lib.hid (And.intro hR9 (And.intro hB9 hnew))
            clear hgx hR9 hB9 hnew HGX HR8 HB8 HS HLN x0 x1
            go_wp2
            go_roundg (k - (t + 1))
            case measure => omega
            case rel => exact ⟨t + 1, _, _, l + 1, cur8, by omega, rfl, rfl, by go_num, HFIN.out.2.2, HFIN.out.1, HFIN.out.2.1⟩
    · obtain rfl : t = k := by omega
      have hfin := HL.final
      have hrw := HL.rw
      subst hrw
      have HF := Lib.hid hfin
      have HRR := Lib.hid hr
      have HBB := Lib.hid hb
      clear HR' HB' hr hb HL hfin htk hlt
      go_upto_if 114 with fail
      go_cut [22] from 115 to 130 (fun s wx => s = .int .i64 l ∧ wr = wx)
      case first =>
        have hfin := HF.out
        clear HF HRR HBB
        by_cases h2 : 2 ≤ t
        · have c1 : (1 : Int) ≤ (t : Int) := by omega
          have c2 : (2 : Int) ≤ (t : Int) := by omega
          have h1 : 1 ≤ t := by omega
          cases linked <;> cases bn <;> (simp [h1, h2] at hfin; subst hfin; go_wp2; go_meet; exact ⟨rfl, rfl⟩)
        · by_cases h1 : 1 ≤ t
          · have c1 : (1 : Int) ≤ (t : Int) := by omega
            have c2 : ¬ (2 : Int) ≤ (t : Int) := by omega
            cases linked <;> cases bn <;> (simp [h1, h2] at hfin; subst hfin; go_wp2; go_meet; exact ⟨rfl, rfl⟩)
          · have c1 : ¬ (1 : Int) ≤ (t : Int) := by omega
            have c2 : ¬ (2 : Int) ≤ (t : Int) := by omega
            cases linked <;> cases bn <;> (simp [h1, h2] at hfin; subst hfin; go_wp2; go_meet; exact ⟨rfl, rfl⟩)
      case rest =>
        obtain ⟨rfl, rfl⟩ := hcut
        obtain ⟨y1, y2, y3, y4, -, -⟩ := HBB.out.cells
        cases linked
        · have hu : Calls Tryz.prog 15 #[.pointer (some ⟨b, 0, none⟩), .agg #[.int .u32 0, .int .u32 0]] wr fun e w' => e = .returned (.int .u32 ((2 * ((t + 1) / 2) : Nat) : Int)) ∧ Grew (fun _ => False) wr w' := use_law HRR.out (i := 0) rfl
          have hv := fun (W : World) (hg : Grew (fun _ => False) wr W) => (show Calls Tryz.prog 15 #[.pointer (some ⟨b, 0, none⟩), .agg #[.int .u32 0, .int .u32 1]] W fun e w' => e = .returned (.int .u32 ((2 * (t / 2) : Nat) : Int)) ∧ Grew (fun _ => False) W w' from use_law (HRR.out.grew hg) (i := 1) rfl)
          have HU := Lib.hid hu
          have HV := Lib.hid hv
          have GF := Lib.hid HRR.out.gr
          clear hu hv HRR HBB HF
          go_wp2_with fail
          refine HU.out.mono ?_
          rintro e w13 ⟨rfl, hg⟩
          have G13 := Lib.hid hg
          have x3 := hg.cell y3 (fun h => h)
          have x4 := hg.cell y4 (fun h => h)
          clear hg y1 y2 y3 y4 HU
          go_wp2_with fail
          refine (HV.out _ G13.out).mono ?_
          rintro e w14 ⟨rfl, hg⟩
          have GG := Lib.hid (Grew.trans (Grew.trans GF.out G13.out) hg)
          clear hg x3 x4 HV
          go_wp2
          go_ret
          exact ⟨rfl, GG.out⟩
        · have hu : Calls Tryz.prog 15 #[.pointer (some ⟨b, 0, none⟩), .agg #[.int .u32 0, .int .u32 0]] wr fun e w' => e = .returned (.int .u32 0) ∧ Grew (fun _ => False) wr w' := use_law HRR.out (i := 0) rfl
          have hv := fun (W : World) (hg : Grew (fun _ => False) wr W) => (show Calls Tryz.prog 15 #[.pointer (some ⟨b, 0, none⟩), .agg #[.int .u32 0, .int .u32 1]] W fun e w' => e = .returned (.int .u32 ((2 * t : Nat) : Int)) ∧ Grew (fun _ => False) W w' from use_law (HRR.out.grew hg) (i := 1) rfl)
          have HU := Lib.hid hu
          have HV := Lib.hid hv
          have GF := Lib.hid HRR.out.gr
          clear hu hv HRR HBB HF
          go_wp2_with fail
          refine HU.out.mono ?_
          rintro e w13 ⟨rfl, hg⟩
          have G13 := Lib.hid hg
          have x3 := hg.cell y3 (fun h => h)
          have x4 := hg.cell y4 (fun h => h)
          clear hg y1 y2 y3 y4 HU
          go_wp2_with fail
          refine (HV.out _ G13.out).mono ?_
          rintro e w14 ⟨rfl, hg⟩
          have GG := Lib.hid (Grew.trans (Grew.trans GF.out G13.out) hg)
          clear hg x3 x4 HV
          go_wp2
          go_ret
          exact ⟨rfl, GG.out⟩
end Go.Proofs.YtnikgjgjmpoglaaGreatFmt
