/-
  callShapeNS answers true of the call statement that the function laid. Conditions: the blocks as listed.
-/
import Derived.Test.YtnikgjgjmpoglaaGreatFmtJ
import Derived.Deep.DeepCutAuto
import Derived.Deep.CutRange
import Derived.Deep.RegionHeld3
import Derived.Deep.LoopGhost
namespace Go.Proofs.YtnikgjgjmpoglaaGreatFmt
open Go Go.RowKit
set_option maxRecDepth 100000

/-- The body's statements: all returns, or all expression statements, the i-th at location i. -/
def BodyOk (m : Nat) (fr : Bool) (ys : List Value) : Prop :=
  ∀ i, i < m → (fr = true → ∃ q l, ys[2 * i]? = some (.iface 224 (.pointer (some ⟨q, 0, none⟩))) ∧ ys[2 * i + 1]? = some (.int .i32 l)) ∧ (fr = false → ∃ q, ys[2 * i]? = some (.iface 199 (.pointer (some ⟨q, 0, none⟩))) ∧ ys[2 * i + 1]? = some (.int .i32 i))

theorem ArgsAt.grew {lo a qa : Nat} {nl : Int} {W W' : World} (h : ArgsAt lo W nl a qa) (hg : Grew (fun _ => False) W W') : ArgsAt lo W' nl a qa := by
  obtain ⟨h1, qb, h2, h3, h4⟩ := h
  exact ⟨h1, qb, h2, hg.obj h3 (fun h => h), hg.obj h4 (fun h => h)⟩

theorem closureParts_any (qt qa : Nat) (a7 : Option Addr) (m c7 : Nat) (sl : Int) (na : Bool) (tt : TypeId) (w : World)
    (ht : (na = true ∧ tt = 259 ∧ w.heap[qt]? = some (efun (.slice (some ⟨qa, 0, none⟩) 1 1) (.slice a7 m c7) sl)) ∨ (na = false ∧ tt = 269 ∧ w.heap[qt]? = some (earrow (.slice (some ⟨qa, 0, none⟩) 1 1) (.slice a7 m c7) sl))) :
    Calls Tryz.prog 29 #[.agg #[.iface tt (.pointer (some ⟨qt, 0, none⟩)), .int .i32 sl]] w fun e w' => e = .returned (.tuple #[.slice (some ⟨qa, 0, none⟩) 1 1, .slice a7 m c7, .bool (!na), .bool (!na), .bool true]) ∧ Grew (fun _ => False) w w' := by
  rcases ht with ⟨rfl, rfl, h⟩ | ⟨rfl, rfl, h⟩
  · exact closureParts_fun qt qa a7 m c7 sl w h
  · exact closureParts_arrow qt qa a7 m c7 sl w h

set_option maxHeartbeats 4000000 in
theorem callShape_walk (qs qc qe bb bi bo j a qa m c7 : Nat) (a7 : Option Addr) (sl nl : Int) (mf na fr : Bool) (tt : TypeId) (qt : Nat) (ys : List Value) (w : World)
    (hs : w.heap[qs]? = some (sexpr (.iface 202 (ptr qc)) sl)) (hc : w.heap[qc]? = some (ecall (.iface tt (ptr qt)) sl qe)) (he : w.heap[qe]? = some (.cells #[.iface 211 (ptr bb), .int .i32 nl] 58 (0, 0)))
    (hi : w.heap[bi]? = some (ident j)) (ho : w.heap[bo]? = some eobj)
    (hbin : (mf = true ∧ w.heap[bb]? = some (bin (.iface 249 (ptr bi)) (.iface 190 (ptr bo)) nl 51)) ∨ (mf = false ∧ ∃ b2 i2, w.heap[bb]? = some (bin (.iface 249 (ptr bi)) (.iface 211 (ptr b2)) nl 31) ∧ w.heap[b2]? = some (bin (.iface 249 (ptr i2)) (.iface 190 (ptr bo)) nl 37) ∧ w.heap[i2]? = some (ident j)))
    (ht : (na = true ∧ tt = 259 ∧ w.heap[qt]? = some (efun (.slice (some ⟨qa, 0, none⟩) 1 1) (.slice a7 m c7) sl)) ∨ (na = false ∧ tt = 269 ∧ w.heap[qt]? = some (earrow (.slice (some ⟨qa, 0, none⟩) 1 1) (.slice a7 m c7) sl)))
    (hargs : ArgsAt 0 w nl a qa) (hv : w.ownsRow 0 45 2 (.slice a7 m c7) m ys) (hm : m ≤ 4096) (hbody : BodyOk m fr ys) :
    Calls Tryz.prog 14 #[.agg #[.iface 199 (.pointer (some ⟨qs, 0, none⟩)), .int .i32 sl], .int .i32 sl, .int .i32 nl, .agg #[.int .u32 0, .int .u32 j], .agg #[.int .u32 0, .int .u32 a], .bool mf, .int .i64 m, .bool fr, .bool na] w (BoolPost true w) := by
  have HS := Lib.hid hs
  have HC := Lib.hid hc
  have HE := Lib.hid he
  have HI := Lib.hid hi
  have HO := Lib.hid ho
  have HBIN := Lib.hid hbin
  have HT := Lib.hid ht
  have HARGS := Lib.hid hargs
  have HV := Lib.hid hv
  have HBODY := Lib.hid hbody
  clear hs hc he hi ho hbin ht hargs hv hbody
  go_enter Tryz.func14, Tryz.ntmps14
  go_upto_region 1 with fail
  refine wp_named (fun W => Grew (fun _ => False) w W ∧ W.heap[w.heap.size]? = some (.cells #[.iface 199 (.pointer (some ⟨qs, 0, none⟩)), .int .i32 sl] 45 (0, 0)) ∧ W.heap[w.heap.size + 1]? = some (.cells #[.int .u32 0, .int .u32 j] 30 (0, 0)) ∧ W.heap[w.heap.size + 1 + 1]? = some (.cells #[.int .u32 0, .int .u32 a] 30 (0, 0)))
    ⟨((((Grew.refl _ w).alloc _).alloc _).alloc _), blk_alloc (blk_alloc (blk_at _ _ _ rfl) _) _, blk_alloc (blk_at _ _ _ (by simp)) _, blk_at _ _ _ (by simp)⟩ ?_
  intro W0 hW0
  obtain ⟨G0, B9, B12, B13⟩ := hW0
  have hx0 : W0.cell? ⟨w.heap.size, 0, none⟩ = some (.iface 199 (.pointer (some ⟨qs, 0, none⟩))) := (blk_cell B9 0).trans rfl
  have hx1 : W0.cell? ⟨w.heap.size, 1, none⟩ = some (.int .i32 sl) := (blk_cell B9 1).trans rfl
  have HG0 := Lib.hid G0
  have H9 := Lib.hid B9
  have H12 := Lib.hid B12
  have H13 := Lib.hid B13
  clear G0 B9 B12 B13
  go_wp2_with fail
  refine (as_24 qs sl _).mono ?_
  rintro e W1 ⟨rfl, hg⟩
  have g1 := Grew.trans HG0.out hg
  have i9 := hg.obj H9.out (fun h => h)
  have is := g1.obj HS.out (fun h => h)
  have i12 := hg.obj H12.out (fun h => h)
  have i13 := hg.obj H13.out (fun h => h)
  have H12 := Lib.hid i12
  have H13 := Lib.hid i13
  have HG1 := Lib.hid g1
  clear hx0 hx1
  have hx1 : W1.cell? ⟨w.heap.size, 1, none⟩ = some (.int .i32 sl) := (blk_cell i9 1).trans rfl
  have hs0 : W1.cell? ⟨qs, 0, none⟩ = some (.iface 202 (.pointer (some ⟨qc, 0, none⟩))) := (blk_cell is 0).trans rfl
  have hs1 : W1.cell? ⟨qs, 1, none⟩ = some (.int .i32 sl) := (blk_cell is 1).trans rfl
  clear hg g1 i9 is i12 i13
  go_wp2_with fail
  refine (as_25 qc sl _).mono ?_
  rintro e W2 ⟨rfl, hg⟩
  have g2 := Grew.trans HG1.out hg
  have is := g2.obj HS.out (fun h => h)
  have ic := g2.obj HC.out (fun h => h)
  have ie := g2.obj HE.out (fun h => h)
  have i12 := hg.obj H12.out (fun h => h)
  have i13 := hg.obj H13.out (fun h => h)
  have H12 := Lib.hid i12
  have H13 := Lib.hid i13
  have HG2 := Lib.hid g2
  clear hx1 hs0 hs1
  have hs1 : W2.cell? ⟨qs, 1, none⟩ = some (.int .i32 sl) := (blk_cell is 1).trans rfl
  have hc2 : W2.cell? ⟨qc, 2, none⟩ = some (.slice (some ⟨qe, 0, none⟩) 1 1) := (blk_cell ic 2).trans rfl
  have hc7 : W2.cell? ⟨qc, 7, none⟩ = some (.bool false) := (blk_cell ic 7).trans rfl
  have he0 : W2.cell? ⟨qe, 0, none⟩ = some (.iface 211 (.pointer (some ⟨bb, 0, none⟩))) := (blk_cell ie 0).trans rfl
  have he1 : W2.cell? ⟨qe, 1, none⟩ = some (.int .i32 nl) := (blk_cell ie 1).trans rfl
  clear hg g2 is ic ie i12 i13
  go_wp2_with fail
  refine (as_26 bb nl _).mono ?_
  rintro e W3 ⟨rfl, hg⟩
  have g3 := Grew.trans HG2.out hg
  have ic := g3.obj HC.out (fun h => h)
  have ie := g3.obj HE.out (fun h => h)
  have i12 := hg.obj H12.out (fun h => h)
  have i13 := hg.obj H13.out (fun h => h)
  have H12 := Lib.hid i12
  have H13 := Lib.hid i13
  have HG3 := Lib.hid g3
  clear hs1 hc2 hc7 he0 he1
  obtain ⟨rr, op, hbb⟩ : ∃ rr op, w.heap[bb]? = some (bin (.iface 249 (ptr bi)) rr nl op) := by
    rcases HBIN.out with ⟨_, h⟩ | ⟨_, b2, i2, h, _⟩
    · exact ⟨_, _, h⟩
    · exact ⟨_, _, h⟩
  have ib := g3.obj hbb (fun h => h)
  have hc2 : W3.cell? ⟨qc, 2, none⟩ = some (.slice (some ⟨qe, 0, none⟩) 1 1) := (blk_cell ic 2).trans rfl
  have he1 : W3.cell? ⟨qe, 1, none⟩ = some (.int .i32 nl) := (blk_cell ie 1).trans rfl
  have hb0 : W3.cell? ⟨bb, 0, none⟩ = some (.iface 249 (.pointer (some ⟨bi, 0, none⟩))) := (blk_cell ib 0).trans rfl
  have hb1 : W3.cell? ⟨bb, 1, none⟩ = some (.int .i32 nl) := (blk_cell ib 1).trans rfl
  have hx0 : W3.cell? ⟨w.heap.size + 1, 0, none⟩ = some (.int .u32 0) := (blk_cell i12 0).trans rfl
  have hx1 : W3.cell? ⟨w.heap.size + 1, 1, none⟩ = some (.int .u32 j) := (blk_cell i12 1).trans rfl
  have ii := g3.obj HI.out (fun h => h)
  have HII := Lib.hid ii
  clear hg g3 ic ie i12 i13 hbb ib ii
  go_upto_region 8 with fail
  go_cut [118] from 96 to 118 (fun s118 wx => s118 = .bool false ∧ Grew (fun _ => False) W3 wx)
  case first =>
    go_region_held3 (fun w' => w'.cell? ⟨qc, 2, none⟩ = some (.slice (some ⟨qe, 0, none⟩) 1 1) ∧ w'.cell? ⟨qe, 1, none⟩ = some (.int .i32 nl) ∧ w'.cell? ⟨bb, 0, none⟩ = some (.iface 249 (.pointer (some ⟨bi, 0, none⟩))) ∧ w'.cell? ⟨bb, 1, none⟩ = some (.int .i32 nl) ∧
      w'.cell? ⟨w.heap.size + 1, 0, none⟩ = some (.int .u32 0) ∧ w'.cell? ⟨w.heap.size + 1, 1, none⟩ = some (.int .u32 j)) (first | (refine ⟨?_, ?_, ?_, ?_, ?_, ?_⟩ <;> assumption) | (refine ⟨?_, ?_, ?_, ?_, ?_, ?_⟩ <;> (refine hg.cell ?_ (fun h => h); assumption))) (first | (go_at_call 27; refine (identIs_yes bi j nl W3.drew HII.out).mono ?_; rintro e w' ⟨rfl, hg⟩))
    go_wp2_with fail
    go_meet
    exact ⟨rfl, Grew.trans (Grew.refl _ W3).drew hg⟩
  case rest =>
    obtain ⟨rfl, hg⟩ := hcut
    have g4 := Grew.trans HG3.out hg
    have i12 := hg.obj H12.out (fun h => h)
    have i13 := hg.obj H13.out (fun h => h)
    have H12 := Lib.hid i12
    have H13 := Lib.hid i13
    have HG4 := Lib.hid g4
    clear hg g4 i12 i13 hc2 he1 hb0 hb1 hx0 hx1
    go_upto_region 10 with fail
    go_upto_if 119 with fail
    go_cut [] from 120 to 175 (fun wx => Grew (fun _ => False) wc wx)
    case first =>
      cases mf
      · obtain ⟨b2, i2, hbb, hb2, hi2⟩ : ∃ b2 i2, w.heap[bb]? = some (bin (.iface 249 (ptr bi)) (.iface 211 (ptr b2)) nl 31) ∧ w.heap[b2]? = some (bin (.iface 249 (ptr i2)) (.iface 190 (ptr bo)) nl 37) ∧ w.heap[i2]? = some (ident j) := by
          rcases HBIN.out with ⟨h, _⟩ | ⟨_, h⟩
          · cases h
          · exact h
        have ib := HG4.out.obj hbb (fun h => h)
        have hb2' : wc.cell? ⟨bb, 2, none⟩ = some (.iface 211 (.pointer (some ⟨b2, 0, none⟩))) := (blk_cell ib 2).trans rfl
        have hb3 : wc.cell? ⟨bb, 3, none⟩ = some (.int .i32 nl) := (blk_cell ib 3).trans rfl
        have hb4 : wc.cell? ⟨bb, 4, none⟩ = some (.int .u8 31) := (blk_cell ib 4).trans rfl
        have HB2 := Lib.hid hb2
        have HI2 := Lib.hid hi2
        clear hbb hb2 hi2 ib
        go_wp2_with fail
        refine (as_26 b2 nl _).mono ?_
        rintro e W5 ⟨rfl, hg⟩
        have g5 := Grew.trans HG4.out hg
        have ib := g5.obj HB2.out (fun h => h)
        have ii := g5.obj HI2.out (fun h => h)
        have i12 := hg.obj H12.out (fun h => h)
        have hc0 : W5.cell? ⟨b2, 0, none⟩ = some (.iface 249 (.pointer (some ⟨i2, 0, none⟩))) := (blk_cell ib 0).trans rfl
        have hc1 : W5.cell? ⟨b2, 1, none⟩ = some (.int .i32 nl) := (blk_cell ib 1).trans rfl
        have hc4 : W5.cell? ⟨b2, 4, none⟩ = some (.int .u8 37) := (blk_cell ib 4).trans rfl
        have hx0 : W5.cell? ⟨w.heap.size + 1, 0, none⟩ = some (.int .u32 0) := (blk_cell i12 0).trans rfl
        have hx1 : W5.cell? ⟨w.heap.size + 1, 1, none⟩ = some (.int .u32 j) := (blk_cell i12 1).trans rfl
        have HII := Lib.hid ii
        have HG5 := Lib.hid g5
        have HGa := Lib.hid hg
        clear hg g5 ib ii i12 hb2' hb3 hb4
        go_upto_region 19 with fail
        go_cut [165] from 148 to 165 (fun s165 wx => s165 = .bool false ∧ Grew (fun _ => False) W5 wx)
        case first =>
          go_region_held3 (fun w' => w'.cell? ⟨b2, 4, none⟩ = some (.int .u8 37) ∧ w'.cell? ⟨b2, 0, none⟩ = some (.iface 249 (.pointer (some ⟨i2, 0, none⟩))) ∧ w'.cell? ⟨b2, 1, none⟩ = some (.int .i32 nl) ∧
            w'.cell? ⟨w.heap.size + 1, 0, none⟩ = some (.int .u32 0) ∧ w'.cell? ⟨w.heap.size + 1, 1, none⟩ = some (.int .u32 j)) (first | (refine ⟨?_, ?_, ?_, ?_, ?_⟩ <;> assumption) | (refine ⟨?_, ?_, ?_, ?_, ?_⟩ <;> (refine hg.cell ?_ (fun h => h); assumption))) (first | (go_at_call 27; refine (identIs_yes i2 j nl W5.drew HII.out).mono ?_; rintro e w' ⟨rfl, hg⟩))
          go_wp2_with fail
          go_meet
          exact ⟨rfl, Grew.trans (Grew.refl _ W5).drew hg⟩
        case rest =>
          obtain ⟨rfl, hg⟩ := hcut
          have ib := (Grew.trans HG5.out hg).obj HB2.out (fun h => h)
          clear hc0 hc1 hc4 hx0 hx1
          have hc2 : wc.cell? ⟨b2, 2, none⟩ = some (.iface 190 (.pointer (some ⟨bo, 0, none⟩))) := (blk_cell ib 2).trans rfl
          have hc3 : wc.cell? ⟨b2, 3, none⟩ = some (.int .i32 nl) := (blk_cell ib 3).trans rfl
          have HGb := Lib.hid hg
          clear ib hg
          go_wp2_with fail
          refine (as_28 bo nl _).mono ?_
          rintro e W7 ⟨rfl, hg⟩
          have HGc := Lib.hid hg
          clear hg
          go_wp2_with fail
          go_meet
          exact Grew.trans HGa.out (Grew.trans HGb.out HGc.out)
      · have hbb : w.heap[bb]? = some (bin (.iface 249 (ptr bi)) (.iface 190 (ptr bo)) nl 51) := by
          rcases HBIN.out with ⟨_, h⟩ | ⟨h, _⟩
          · exact h
          · cases h
        have ib := HG4.out.obj hbb (fun h => h)
        have hb2 : wc.cell? ⟨bb, 2, none⟩ = some (.iface 190 (.pointer (some ⟨bo, 0, none⟩))) := (blk_cell ib 2).trans rfl
        have hb3 : wc.cell? ⟨bb, 3, none⟩ = some (.int .i32 nl) := (blk_cell ib 3).trans rfl
        have hb4 : wc.cell? ⟨bb, 4, none⟩ = some (.int .u8 51) := (blk_cell ib 4).trans rfl
        clear hbb ib
        go_wp2_with fail
        refine (as_28 bo nl _).mono ?_
        rintro e W5 ⟨rfl, hg⟩
        have HGa := Lib.hid hg
        clear hg
        go_wp2_with fail
        go_meet
        exact HGa.out
    case rest =>
      have g5 := Grew.trans HG4.out hcut
      have ic := g5.obj HC.out (fun h => h)
      have i13 := hcut.obj H13.out (fun h => h)
      have H13 := Lib.hid i13
      have HG5 := Lib.hid g5
      have hc0 : wc.cell? ⟨qc, 0, none⟩ = some (.iface tt (.pointer (some ⟨qt, 0, none⟩))) := (blk_cell ic 0).trans rfl
      have hc1 : wc.cell? ⟨qc, 1, none⟩ = some (.int .i32 sl) := (blk_cell ic 1).trans rfl
      have hcp := closureParts_any qt qa a7 m c7 sl na tt wc (HT.out.imp (fun h => ⟨h.1, h.2.1, g5.obj h.2.2 (fun h => h)⟩) (fun h => ⟨h.1, h.2.1, g5.obj h.2.2 (fun h => h)⟩))
      have HCP := Lib.hid hcp
      clear g5 ic i13 hcut hcp
      go_wp2_with fail
      refine HCP.out.mono ?_
      rintro e W8 ⟨rfl, hg⟩
      have g8 := Grew.trans HG5.out hg
      have i13 := hg.obj H13.out (fun h => h)
      have hx0 : W8.cell? ⟨w.heap.size + 1 + 1, 0, none⟩ = some (.int .u32 0) := (blk_cell i13 0).trans rfl
      have hx1 : W8.cell? ⟨w.heap.size + 1 + 1, 1, none⟩ = some (.int .u32 a) := (blk_cell i13 1).trans rfl
      have hoa := oneArg_yes 0 qa a nl W8 (HARGS.out.grew g8)
      have HOA := Lib.hid hoa
      have HG8 := Lib.hid g8
      clear hg g8 i13 hoa hc0 hc1
      go_upto_region 25 with fail
      go_cut [205] from 187 to 205 (fun s205 wx => s205 = .bool false ∧ Grew (fun _ => False) W8 wx)
      case first =>
        go_wp2_with (go_at_call 30; refine HOA.out.mono ?_; rintro e W9 ⟨rfl, hg⟩)
        go_meet
        exact ⟨rfl, hg⟩
      case rest =>
        obtain ⟨rfl, hg⟩ := hcut
        have g9 := Grew.trans HG8.out hg
        have HG9 := Lib.hid g9
        clear hg g9 hx0 hx1
        go_upto_region 27 with fail
        go_cut [210] from 206 to 210 (fun s210 wx => s210 = .bool false ∧ wx = wc)
        case first =>
          cases na
          · go_wp2
            go_meet
            exact ⟨rfl, rfl⟩
          · go_wp2
            go_meet
            exact ⟨rfl, rfl⟩
        case rest =>
          obtain ⟨rfl, rfl⟩ := hcut
          go_wp2_with fail
          go_loopw [33] (fun i wr => ∃ k : Nat, k ≤ m ∧ i = .int .i64 k ∧ Grew (fun _ => False) w wr) (fun i _ => m - (intOf i).toNat)
          case atStart => exact ⟨0, Nat.zero_le _, rfl, HG9.out⟩
          case round =>
            obtain ⟨k, hk, rfl, hgr⟩ := hrel
            have HGR := Lib.hid hgr
            clear hgr HG9 HG8 HOA HCP HG5 HG4 HG3 HG2 HG1 HG0
            by_cases hlt : k < m
            · obtain ⟨g, rfl⟩ : ∃ g, a7 = some ⟨g, 0, none⟩ := by
                rcases HV.out.2 with ⟨_, h⟩ | ⟨g, cap, cur, h, _⟩
                · omega
                · exact ⟨g, by simpa using (Value.slice.inj h).1⟩
              have ho : wr.ownsRow 0 45 2 (.slice (some ⟨g, 0, none⟩) m c7) m ys := owns_same HV.out (fun k hk => HGR.out.block k (HV.out.lt k hk).2 (fun h => h))
              have hy := HBODY.out k hlt
              have hlk : (k : Int) < (m : Int) := by omega
              have hwr := wrap_i32 k (by omega)
              cases fr
              · obtain ⟨q, e1, e2⟩ := hy.2 rfl
                have r0 : wr.cell? ⟨g, k * 2, none⟩ = some (.iface 199 (.pointer (some ⟨q, 0, none⟩))) := (ho.cellAt (k * 2) (by omega)).trans (by rw [Nat.mul_comm]; exact e1)
                have r1 : wr.cell? ⟨g, k * 2 + 1, none⟩ = some (.int .i32 k) := (ho.cellAt (k * 2 + 1) (by omega)).trans (by rw [Nat.mul_comm]; exact e2)
                clear e1 e2 ho hy
                go_wp2_with fail
                refine (as_24 q k _).mono ?_
                rintro e W ⟨rfl, hg⟩
                have r1 : W.cell? ⟨g, k * 2 + 1, none⟩ = some (.int .i32 k) := hg.cell r1 (fun h => h)
                have hg' := Grew.trans HGR.out hg
                have HG' := Lib.hid hg'
                clear hg hg' r0
                go_wp2
                refine ⟨⟨k + 1, by omega, by go_num, HG'.out⟩, by simp [intOf]; omega⟩
              · obtain ⟨q, l, e1, e2⟩ := hy.1 rfl
                have r0 : wr.cell? ⟨g, k * 2, none⟩ = some (.iface 224 (.pointer (some ⟨q, 0, none⟩))) := (ho.cellAt (k * 2) (by omega)).trans (by rw [Nat.mul_comm]; exact e1)
                have r1 : wr.cell? ⟨g, k * 2 + 1, none⟩ = some (.int .i32 l) := (ho.cellAt (k * 2 + 1) (by omega)).trans (by rw [Nat.mul_comm]; exact e2)
                clear e1 e2 ho hy
                go_wp2_with fail
                refine (as_31 q l _).mono ?_
                rintro e W ⟨rfl, hg⟩
                have hg' := Grew.trans HGR.out hg
                have HG' := Lib.hid hg'
                clear hg hg' r0 r1
                go_wp2
                refine ⟨⟨k + 1, by omega, by go_num, HG'.out⟩, by simp [intOf]; omega⟩
            · go_wp2
              go_ret
              exact ⟨rfl, HGR.out⟩
end Go.Proofs.YtnikgjgjmpoglaaGreatFmt
