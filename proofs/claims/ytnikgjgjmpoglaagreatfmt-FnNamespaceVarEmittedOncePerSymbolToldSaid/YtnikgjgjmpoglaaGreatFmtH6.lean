/-
  generateClosureForTypeScriptNamespaceOrEnum, walked. Conditions: as its contract lists them.
-/
import Derived.Test.YtnikgjgjmpoglaaGreatFmtH5
import Derived.Deep.DeepCutAuto
import Derived.Deep.CutRange
import Derived.Deep.Light
import Derived.BigQuiet
import Derived.LaidEqlPtr
import Derived.Deep.AppendLies
import Derived.Deep.LoopGhost
namespace Go.Proofs.YtnikgjgjmpoglaaGreatFmt
open Go Go.RowKit
open Go.ChangeMaps (setBlock)
set_option maxRecDepth 100000

theorem PFacts.ne {w : World} {b : Nat} {pc : Array Value} {bs n cap bm : Nat} {mf : Bool} {f : Int} {cs ms : Nat} {cur : Array Value} (P : PFacts w b pc bs n cap bm mf f cs ms) (hc : w.heap[bs]? = some (.cells cur 232 (0, 0))) : b ≠ bs := fun e => by
  subst e
  have := hc.symm.trans P.hp
  injection this with this
  injection this with _ this _
  exact absurd this (by decide)
theorem Held.not_cells {w : World} {h : Held} {k : Nat} {c : Array Value} {t : TypeId} {fr : Nat × Nat} (h1 : w.heap[k]? = some h.obj) (h2 : w.heap[k]? = some (.cells c t fr)) : False := by
  rw [h1] at h2
  injection h2 with h2
  cases h2

set_option maxHeartbeats 4000000 in
theorem gen_core (b bs bm n cap cs ms i j a gg n0 m : Nat) (jf : Fin 2) (hjf : (jf : Nat) = j) (h : Held) (xs ys : List Value) (pc cur : Array Value) (mf ex na emit : Bool) (f sl nl li0 li1 uci ucj kindi kindj : Int) (nmi nmj : ByteArray) (v1 v7 : Value) (w : World) (h' : Held) (cur' : Array Value) (kind : Int) (ex' : Bool)
    (P : PFacts w b pc bs n cap bm mf f cs ms) (hi : i < n) (hj : j < n) (hn : n ≤ 10)
    (hc : w.heap[bs]? = some (.cells cur 232 (0, 0))) (hri : ∀ k, k < 10 → cur[i * 10 + k]? = (symRow li0 li1 uci kindi nmi)[k]?) (hrj : ∀ k, k < 10 → cur[j * 10 + k]? = (symRow 4294967295 4294967295 ucj kindj nmj)[k]?)
    (hlk : (gg = 0 ∧ i = j ∧ symRow li0 li1 uci kindi nmi = symRow 4294967295 4294967295 ucj kindj nmj) ∨ (gg = 1 ∧ li0 = 0 ∧ li1 = j))
    (hm : w.heap[bm]? = some h.obj) (hv : w.ownsRow 0 45 2 v1 n0 xs) (hn0 : n0 ≤ 4096) (hvb : ∀ k, v1.ownBlock = some k → k ≠ b ∧ k ≠ bs ∧ k ≠ bm ∧ k ≠ 0) (hmb : bm ≠ b ∧ bm ≠ bs ∧ bm ≠ 0) (hsc : (∃ c t, w.heap[cs]? = some (.cells c t (0, 0))) ∧ (∃ c t, w.heap[ms]? = some (.cells c t (0, 0))) ∧ cs ≠ bm ∧ ms ≠ bm)
    (hf : f = if na then 4 else 0)
    (g0 : w.cell? ⟨0, 0, none⟩ = some (.int .u32 4294967295)) (g1 : w.cell? ⟨0, 1, none⟩ = some (.int .u32 4294967295))
    (h7 : w.ownsRow 0 45 2 v7 m ys) (hm7 : m ≤ 4096) (h17 : ∀ k, v1.ownBlock = some k → v7.ownBlock ≠ some k)
    (hq7 : mf = true → na = false → m = 1 → ∃ q t z l, ys[0]? = some (.iface 199 (.pointer (some ⟨q, 0, none⟩))) ∧ w.heap[q]? = some (.cells #[.iface t z, .int .i32 l, .bool false] 206 (0, 0)))
    (hu0 : 0 ≤ ucj) (hu1 : ucj ≤ 90000) (hem : ((kindj == 20 || kindj == 19) && !h.has jf) = emit)
    (hh' : h' = if emit then h.put jf else h) (hcur' : cur' = cur.setIfInBounds (j * 10 + 4) (.int .u32 (ucj + if mf then 1 else 2))) (hkd : kind = if cs = ms then 0 else 1) (hex' : ex' = if cs = ms then ex else false) :
    Calls Tryz.prog 32 #[.pointer (some ⟨b, 0, none⟩), v1, .agg #[.int .i32 sl], .bool ex, .agg #[.int .i32 nl], .agg #[.int .u32 0, .int .u32 i], .agg #[.int .u32 0, .int .u32 a], v7] w
      (GenPost w sl nl j a bm bs n0 m h' cur' v1 v7 xs ys mf na emit kind ex') := by
  have hbl := blk_lt P.hp
  have hsl := blk_lt hc
  have hz := World.block_lt_of_cell? w _ g0
  simp only at hz
  have hbl1 : b < w.heap.size + 1 := by omega
  have hbl2 : b < w.heap.size + 1 + 1 := by omega
  have hbl3 : b < w.heap.size + 1 + 1 + 1 := by omega
  have hbl4 : b < w.heap.size + 1 + 1 + 1 + 1 := by omega
  have hsl1 : bs < w.heap.size + 1 := by omega
  have hsl2 : bs < w.heap.size + 1 + 1 := by omega
  have hsl3 : bs < w.heap.size + 1 + 1 + 1 := by omega
  have hsl4 : bs < w.heap.size + 1 + 1 + 1 + 1 := by omega
  have hii : (i : Int) < (n : Int) := by omega
  have hjj : (j : Int) < (n : Int) := by omega
  have k106 : w.cell? ⟨b, 106, none⟩ = some (.slice (some ⟨bs, 0, none⟩) n cap) := (blk_cell P.hp 106).trans P.c106
  have s0 : w.cell? ⟨bs, i * 10, none⟩ = some (.pointer none) := (blk_cell hc _).trans (hri 0 (by decide))
  have s1 : w.cell? ⟨bs, i * 10 + 1, none⟩ = some (.string nmi) := (blk_cell hc _).trans (hri 1 (by decide))
  have s2 : w.cell? ⟨bs, i * 10 + 2, none⟩ = some (.int .u32 li0) := (blk_cell hc _).trans (hri 2 (by decide))
  have s3 : w.cell? ⟨bs, i * 10 + 3, none⟩ = some (.int .u32 li1) := (blk_cell hc _).trans (hri 3 (by decide))
  have s4 : w.cell? ⟨bs, i * 10 + 4, none⟩ = some (.int .u32 uci) := (blk_cell hc _).trans (hri 4 (by decide))
  have s5 : w.cell? ⟨bs, i * 10 + 5, none⟩ = some (.int .u32 0) := (blk_cell hc _).trans (hri 5 (by decide))
  have s6 : w.cell? ⟨bs, i * 10 + 6, none⟩ = some (.int .u32 0) := (blk_cell hc _).trans (hri 6 (by decide))
  have s7 : w.cell? ⟨bs, i * 10 + 7, none⟩ = some (.int .u16 0) := (blk_cell hc _).trans (hri 7 (by decide))
  have s8 : w.cell? ⟨bs, i * 10 + 8, none⟩ = some (.int .u8 kindi) := (blk_cell hc _).trans (hri 8 (by decide))
  have s9 : w.cell? ⟨bs, i * 10 + 9, none⟩ = some (.int .u8 0) := (blk_cell hc _).trans (hri 9 (by decide))
  have HM := Lib.hid hm
  have H7 := Lib.hid h7
  have H17 := Lib.hid h17
  have HQ7 := Lib.hid hq7
  have HEM := Lib.hid hem
  have HH := Lib.hid hh'
  have HCU := Lib.hid hcur'
  have HKD := Lib.hid hkd
  have HEX := Lib.hid hex'
  clear h7 h17 hq7 hem hh' hcur' hkd hex'
  have HV := Lib.hid hv
  have HVB := Lib.hid hvb
  have HMB := Lib.hid hmb
  have HSC := Lib.hid hsc
  have HF := Lib.hid hf
  clear hf
  clear hm hv hvb hmb hsc
  have HP := Lib.hid P
  have HC := Lib.hid hc
  have HI := Lib.hid hri
  have HJ := Lib.hid hrj
  have HL := Lib.hid hlk
  have HG0 := Lib.hid g0
  have HG1 := Lib.hid g1
  clear P hc hri hrj hlk g0 g1
  go_enter Tryz.func32, Tryz.ntmps32
  go_wp2
  go_region
  go_wp2
  refine wp_named (fun W => GBox w W sl nl i a (symRow li0 li1 uci kindi nmi)) ⟨blk_drew (blk_alloc (blk_alloc (blk_alloc (blk_alloc (blk_at _ _ _ rfl) _) _) _) _), blk_drew (blk_alloc (blk_alloc (blk_alloc (blk_at _ _ _ (by simp)) _) _) _), blk_drew (blk_alloc (blk_alloc (blk_at _ _ _ (by simp)) _) _), blk_drew (blk_alloc (blk_at _ _ _ (by simp)) _), blk_drew (blk_at _ _ _ (by simp)), (Grew.alloc (Grew.alloc (Grew.alloc (Grew.alloc (Grew.alloc (Grew.refl _ w) _) _) _) _) _).drew⟩ ?_
  intro W hW
  have HW := Lib.hid hW
  clear hW k106 s0 s1 s2 s3 s4 s5 s6 s7 s8 s9 hbl1 hbl2 hbl3 hbl4 hsl1 hsl2 hsl3 hsl4
  go_loopg [] gg (fun g wr => GLoop w sl nl i j a li0 li1 (symRow li0 li1 uci kindi nmi) (symRow 4294967295 4294967295 ucj kindj nmj) g wr)
  case atStart =>
    rcases HL.out with ⟨h1, h2, h3⟩ | ⟨h1, h2, h3⟩
    · exact .inr ⟨h1, h2 ▸ h3 ▸ HW.out⟩
    · exact .inl ⟨h1, h2, h3, HW.out⟩
  case round =>
    clear HW HL
    rcases hrel with ⟨rfl, rfl, rfl, hG⟩ | ⟨rfl, hG⟩
    ·
      have hlt := hG.lt
      have hrz : w.heap.size + 1 + 1 < wr.heap.size := by omega
      have m2 : wr.cell? ⟨w.heap.size + 1 + 1 + 1 + 1, 2, none⟩ = some (.int .u32 0) := (blk_cell hG.b4 2).trans rfl
      have m3 : wr.cell? ⟨w.heap.size + 1 + 1 + 1 + 1, 3, none⟩ = some (.int .u32 j) := (blk_cell hG.b4 3).trans rfl
      have e0 : wr.cell? ⟨0, 0, none⟩ = some (.int .u32 4294967295) := hG.grew.cell HG0.out (fun h => h)
      have e1 : wr.cell? ⟨0, 1, none⟩ = some (.int .u32 4294967295) := hG.grew.cell HG1.out (fun h => h)
      have x0 : wr.cell? ⟨w.heap.size + 1 + 1, 0, none⟩ = some (.int .u32 0) := (blk_cell hG.b2 0).trans rfl
      have x1 : wr.cell? ⟨w.heap.size + 1 + 1, 1, none⟩ = some (.int .u32 i) := (blk_cell hG.b2 1).trans rfl
      have y0 : wr.frozen? ⟨w.heap.size + 1 + 1, 0, none⟩ = false := blk_free hG.b2 0
      have y1 : wr.frozen? ⟨w.heap.size + 1 + 1, 1, none⟩ = false := blk_free hG.b2 1
      have HG := Lib.hid hG
      clear hG
      go_wp2
      refine wp_named (fun W => GBox w W sl nl j a (symRow 0 j uci kindi nmi)) (gloop_step0 HG.out) ?_
      intro W hW
      clear HG hlt hrz m2 m3 e0 e1 x0 x1 y0 y1
      have hlt := hW.lt
      have hp2 : W.heap[b]? = some (.cells pc 185 (0, 0)) := hW.grew.obj HP.out.hp (fun h => h)
      have hc2 : W.heap[bs]? = some (.cells cur 232 (0, 0)) := hW.grew.obj HC.out (fun h => h)
      have k106 : W.cell? ⟨b, 106, none⟩ = some (.slice (some ⟨bs, 0, none⟩) n cap) := (blk_cell hp2 106).trans HP.out.c106
      have x0 : W.cell? ⟨w.heap.size + 1 + 1, 0, none⟩ = some (.int .u32 0) := (blk_cell hW.b2 0).trans rfl
      have x1 : W.cell? ⟨w.heap.size + 1 + 1, 1, none⟩ = some (.int .u32 j) := (blk_cell hW.b2 1).trans rfl
      have s0 : W.cell? ⟨bs, j * 10, none⟩ = some (.pointer none) := (blk_cell hc2 _).trans (HJ.out 0 (by decide))
      have s1 : W.cell? ⟨bs, j * 10 + 1, none⟩ = some (.string nmj) := (blk_cell hc2 _).trans (HJ.out 1 (by decide))
      have s2 : W.cell? ⟨bs, j * 10 + 2, none⟩ = some (.int .u32 4294967295) := (blk_cell hc2 _).trans (HJ.out 2 (by decide))
      have s3 : W.cell? ⟨bs, j * 10 + 3, none⟩ = some (.int .u32 4294967295) := (blk_cell hc2 _).trans (HJ.out 3 (by decide))
      have s4 : W.cell? ⟨bs, j * 10 + 4, none⟩ = some (.int .u32 ucj) := (blk_cell hc2 _).trans (HJ.out 4 (by decide))
      have s5 : W.cell? ⟨bs, j * 10 + 5, none⟩ = some (.int .u32 0) := (blk_cell hc2 _).trans (HJ.out 5 (by decide))
      have s6 : W.cell? ⟨bs, j * 10 + 6, none⟩ = some (.int .u32 0) := (blk_cell hc2 _).trans (HJ.out 6 (by decide))
      have s7 : W.cell? ⟨bs, j * 10 + 7, none⟩ = some (.int .u16 0) := (blk_cell hc2 _).trans (HJ.out 7 (by decide))
      have s8 : W.cell? ⟨bs, j * 10 + 8, none⟩ = some (.int .u8 kindj) := (blk_cell hc2 _).trans (HJ.out 8 (by decide))
      have s9 : W.cell? ⟨bs, j * 10 + 9, none⟩ = some (.int .u8 0) := (blk_cell hc2 _).trans (HJ.out 9 (by decide))
      have y0 : W.cell? ⟨w.heap.size + 1 + 1 + 1 + 1, 0, none⟩ = some (.pointer none) := (blk_cell hW.b4 0).trans rfl
      have y1 : W.cell? ⟨w.heap.size + 1 + 1 + 1 + 1, 1, none⟩ = some (.string nmi) := (blk_cell hW.b4 1).trans rfl
      have y2 : W.cell? ⟨w.heap.size + 1 + 1 + 1 + 1, 2, none⟩ = some (.int .u32 0) := (blk_cell hW.b4 2).trans rfl
      have y3 : W.cell? ⟨w.heap.size + 1 + 1 + 1 + 1, 3, none⟩ = some (.int .u32 j) := (blk_cell hW.b4 3).trans rfl
      have y4 : W.cell? ⟨w.heap.size + 1 + 1 + 1 + 1, 4, none⟩ = some (.int .u32 uci) := (blk_cell hW.b4 4).trans rfl
      have y5 : W.cell? ⟨w.heap.size + 1 + 1 + 1 + 1, 5, none⟩ = some (.int .u32 0) := (blk_cell hW.b4 5).trans rfl
      have y6 : W.cell? ⟨w.heap.size + 1 + 1 + 1 + 1, 6, none⟩ = some (.int .u32 0) := (blk_cell hW.b4 6).trans rfl
      have y7 : W.cell? ⟨w.heap.size + 1 + 1 + 1 + 1, 7, none⟩ = some (.int .u16 0) := (blk_cell hW.b4 7).trans rfl
      have y8 : W.cell? ⟨w.heap.size + 1 + 1 + 1 + 1, 8, none⟩ = some (.int .u8 kindi) := (blk_cell hW.b4 8).trans rfl
      have y9 : W.cell? ⟨w.heap.size + 1 + 1 + 1 + 1, 9, none⟩ = some (.int .u8 0) := (blk_cell hW.b4 9).trans rfl
      have z0 := blk_free hW.b4 0
      have z1 := blk_free hW.b4 1
      have z2 := blk_free hW.b4 2
      have z3 := blk_free hW.b4 3
      have z4 := blk_free hW.b4 4
      have z5 := blk_free hW.b4 5
      have z6 := blk_free hW.b4 6
      have z7 := blk_free hW.b4 7
      have z8 := blk_free hW.b4 8
      have z9 := blk_free hW.b4 9
      have HG := Lib.hid hW
      clear hW hp2 hc2
      go_region
      go_wp2
      go_roundg 0
      case measure => omega
      case rel => exact .inr ⟨rfl, gloop_step HG.out⟩
    · have hlt := hG.lt
      have m2 : wr.cell? ⟨w.heap.size + 1 + 1 + 1 + 1, 2, none⟩ = some (.int .u32 4294967295) := (blk_cell hG.b4 2).trans rfl
      have m3 : wr.cell? ⟨w.heap.size + 1 + 1 + 1 + 1, 3, none⟩ = some (.int .u32 4294967295) := (blk_cell hG.b4 3).trans rfl
      have e0 : wr.cell? ⟨0, 0, none⟩ = some (.int .u32 4294967295) := hG.grew.cell HG0.out (fun h => h)
      have e1 : wr.cell? ⟨0, 1, none⟩ = some (.int .u32 4294967295) := hG.grew.cell HG1.out (fun h => h)
      have HG := Lib.hid hG
      clear hG
      obtain ⟨k20, hk20⟩ : ∃ k20, ((kindj == (20 : Int)) = k20) := ⟨_, rfl⟩
      obtain ⟨k19, hk19⟩ : ∃ k19, ((kindj == (19 : Int)) = k19) := ⟨_, rfl⟩
      obtain ⟨hb, hhb⟩ : ∃ hb, h.has jf = hb := ⟨_, rfl⟩
      replace hhb := Lib.hid hhb
      have hem : ((k20 || k19) && !hb) = emit := by rw [← hk20, ← hk19, ← hhb.out]; exact HEM.out
      go_upto_region 5 with fail
      go_cut [63] from 47 to 63 (fun s63 wx => s63 = .bool emit ∧ ∃ m, wx = wr.drewN m)
      case first =>
        have hp2 : wr.heap[b]? = some (.cells pc 185 (0, 0)) := HG.out.grew.obj HP.out.hp (fun h => h)
        have hm2 : wr.heap[bm]? = some h.obj := HG.out.grew.obj HM.out (fun h => h)
        have k161 : wr.cell? ⟨b, 161, none⟩ = some (.map (some bm)) := (blk_cell hp2 161).trans HP.out.c161
        have x0 : wr.cell? ⟨w.heap.size + 1 + 1, 0, none⟩ = some (.int .u32 0) := (blk_cell HG.out.b2 0).trans rfl
        have x1 : wr.cell? ⟨w.heap.size + 1 + 1, 1, none⟩ = some (.int .u32 j) := (blk_cell HG.out.b2 1).trans rfl
        have m8 : wr.cell? ⟨w.heap.size + 1 + 1 + 1 + 1, 8, none⟩ = some (.int .u8 kindj) := (blk_cell HG.out.b4 8).trans rfl
        have hl1 := fun n => run_look h jf bm (wr.drewN n) (blk_drewN hm2 n)
        simp only [show kref (jf : Nat) = .agg #[.int .u32 0, .int .u32 (j : Int)] by rw [kref, hjf]] at hl1
        simp only [hhb.out] at hl1
        clear hp2 hm2
        clear hhb
        cases k20
        · cases k19
          · go_quiet (fail)
            go_wp2
            go_meet
            exact ⟨by rw [← hem]; rfl, _, rfl⟩
          · go_quiet (fail)
            go_wp2
            go_meet
            exact ⟨by rw [← hem]; rfl, _, rfl⟩
        · go_quiet (fail)
          go_wp2
          go_meet
          exact ⟨by rw [← hem]; rfl, _, rfl⟩
      case rest =>
        obtain ⟨rfl, nd, rfl⟩ := hcut
        clear m2 m3 e0 e1 hlt
        go_upto_if 63 with fail
        refine wp_named (fun W => GBox w W sl nl j a (symRow 4294967295 4294967295 ucj kindj nmj)) ⟨blk_drewN HG.out.b0 _, blk_drewN HG.out.b1 _, blk_drewN HG.out.b2 _, blk_drewN HG.out.b3 _, blk_drewN HG.out.b4 _, HG.out.grew.drewN _⟩ ?_
        intro W hW
        clear HG
        have HG := Lib.hid hW
        clear hW
        have HN : emit = true → h.has jf = false := fun he => by rw [hhb.out]; rw [he] at hem; revert hem; cases hb <;> simp
        clear hem
        go_cut [1] from 63 to 104 (fun s1 wx => AS w wx sl nl j a bm n0 h' v1 s1 xs emit kind ex')
        case first =>
          cases hemc : emit
          · go_wp2
            go_meet
            obtain rfl : h' = h := by have e := HH.out; rw [hemc] at e; simpa using e
            subst hemc
            have hG := HG.out
            exact ⟨hG.b0, hG.b1, hG.b2, hG.b3, hG.grew.obj HM.out (fun h => h), .inl ⟨rfl, rfl, owns_same HV.out (fun k hk => hG.grew.block k (HV.out.lt k hk).2 (fun h => h))⟩, hG.grew.mono (fun _ _ h => h.elim)⟩
          · have hG := HG.out
            have hlt := hG.lt
            have y0 : W.cell? ⟨w.heap.size + 1, 0, none⟩ = some (.int .i32 nl) := (blk_cell hG.b1 0).trans rfl
            have x0 : W.cell? ⟨w.heap.size + 1 + 1, 0, none⟩ = some (.int .u32 0) := (blk_cell hG.b2 0).trans rfl
            have x1 : W.cell? ⟨w.heap.size + 1 + 1, 1, none⟩ = some (.int .u32 j) := (blk_cell hG.b2 1).trans rfl
            go_upto_region 7 with fail
            refine wp_named (fun W2 => Mid w W2 sl nl j a W.heap.size ∧ Grew (fun _ => False) w W2) (Mid.of_box hG) ?_
            intro W2 hW2
            obtain ⟨hM2, hG2⟩ := hW2
            have hq : W.heap.size + 1 < W2.heap.size := blk_lt hM2.hd
            clear HG hG hlt y0 x0 x1
            generalize W.heap.size = qb at *
            have hp2 : W2.heap[b]? = some (.cells pc 185 (0, 0)) := hG2.obj HP.out.hp (fun h => h)
            have k161 : W2.cell? ⟨b, 161, none⟩ = some (.map (some bm)) := (blk_cell hp2 161).trans HP.out.c161
            have x0 : W2.cell? ⟨w.heap.size + 1 + 1, 0, none⟩ = some (.int .u32 0) := (blk_cell hM2.b2 0).trans rfl
            have x1 : W2.cell? ⟨w.heap.size + 1 + 1, 1, none⟩ = some (.int .u32 j) := (blk_cell hM2.b2 1).trans rfl
            have hst := run_store_new h jf bm W2.drew (blk_drew (hG2.obj HM.out (fun h => h))) (HN hemc)
            rw [show kref (jf : Nat) = .agg #[.int .u32 0, .int .u32 (j : Int)] by rw [kref, hjf]] at hst
            have HM2 := Lib.hid hM2
            have HG2 := Lib.hid hG2
            clear hM2 hG2 hp2
            go_region
            go_upto_region 8 with fail
            refine wp_named (fun W3 => Mid w W3 sl nl j a qb ∧ Grew (fun k => k = bm) w W3 ∧ W3.heap[bm]? = some (h.put jf).obj) (Mid.stored HM2.out HG2.out HM.out) ?_
            intro W3 hW3
            obtain ⟨hM3, hG3, hm3⟩ := hW3
            have hq3 : qb + 1 < W3.heap.size := blk_lt hM3.hd
            clear HM2 HG2 x0 x1 k161 hst hq
            have hp3 : W3.heap[b]? = some (.cells pc 185 (0, 0)) := hG3.obj HP.out.hp (fun h => HMB.out.1 h.symm)
            have k104 : W3.cell? ⟨b, 104, none⟩ = some (.pointer (some ⟨cs, 0, none⟩)) := (blk_cell hp3 104).trans HP.out.c104
            have k187 : W3.cell? ⟨b, 187, none⟩ = some (.pointer (some ⟨ms, 0, none⟩)) := (blk_cell hp3 187).trans HP.out.c187
            have s0 : W3.cell? ⟨w.heap.size, 0, none⟩ = some (.int .i32 sl) := (blk_cell hM3.b0 0).trans rfl
            have hown3 : W3.ownsRow 0 45 2 v1 n0 xs := owns_same HV.out (fun k hk => hG3.block k (HV.out.lt k hk).2 (HVB.out k hk).2.2.1)
            have HM3 := Lib.hid hM3
            have HG3 := Lib.hid hG3
            have HM3' := Lib.hid hm3
            have hown3d : ∀ n, (W3.drewN n).ownsRow 0 45 2 v1 n0 xs := fun n => hown3
            have HO3 := Lib.hid hown3d
            clear hown3d
            clear hM3 hG3 hm3 hown3 hp3
            obtain ⟨cc, ct, hcc⟩ := HSC.out.1
            obtain ⟨mc, mt, hmc⟩ := HSC.out.2.1
            have heq := fun n => run_same_scope cs ms (W3.drewN n) (blk_drewN (HG3.out.obj hcc HSC.out.2.2.1) n) (blk_drewN (HG3.out.obj hmc HSC.out.2.2.2) n)
            obtain ⟨top, htop⟩ : ∃ top, decide (cs = ms) = top := ⟨_, rfl⟩
            simp only [htop] at heq
            have HT := Lib.hid htop
            clear htop hcc hmc
            go_quiet (fail)
            go_upto_if 85 with fail
            obtain ⟨i0, hi0, hz0, hs0, hy0⟩ := info_parts info45
            have HI := Lib.hid hi0
            have HZ := Lib.hid hz0
            have HS := Lib.hid hs0
            have HY := Lib.hid hy0
            clear hi0 hz0 hs0 hy0
            have h63 : n0 + 1 ≤ maxLen := by unfold maxLen; omega
            have h24 : (n0 + 1) * 24 ≤ 140737488355328 := by omega
            cases top
            · go_wp2_with (at_builtin; go_loud (refine wpList_append_lies _ rfl _ _ 33 rfl 0 45 i0 _ 2 24 Tryz.underlying33 HI.out HZ.out HS.out HY.out rfl (by decide) v1 n0 xs rfl (((HO3.out _).alloc _).alloc _) ⟨_, 0, none⟩ 1 1 _ rfl rfl (news2 _ _ _ _ (by simp)) (one2 _ _) (by decide) h63 h24 (Nat.zero_le _) _ rfl ?_); intro g cap' w1 hown1 hgr1 hat1 hlt1)
              go_meet
              subst hemc
              have hne : ¬ cs = ms := by have := HT.out; simpa using this
              obtain rfl : kind = 1 := by rw [HKD.out, if_neg hne]
              obtain rfl : ex' = false := by rw [HEX.out, if_neg hne]
              obtain rfl : h' = h.put jf := by rw [HH.out]; rfl
              exact AS.of_emit HM3.out HG3.out HM3'.out (blk_lt HM.out) (fun k hk => ⟨(HV.out.lt k hk).2, (HVB.out k hk).2.2.1⟩) hown1 hgr1 (hat1.imp id fun h => h.trans (by simp))
            · go_wp2_with (at_builtin; go_loud (refine wpList_append_lies _ rfl _ _ 33 rfl 0 45 i0 _ 2 24 Tryz.underlying33 HI.out HZ.out HS.out HY.out rfl (by decide) v1 n0 xs rfl (((HO3.out _).alloc _).alloc _) ⟨_, 0, none⟩ 1 1 _ rfl rfl (news2 _ _ _ _ (by simp)) (one2 _ _) (by decide) h63 h24 (Nat.zero_le _) _ rfl ?_); intro g cap' w1 hown1 hgr1 hat1 hlt1)
              go_meet
              subst hemc
              have hne : cs = ms := by have := HT.out; simpa using this
              obtain rfl : kind = 0 := by rw [HKD.out, if_pos hne]
              obtain rfl : ex' = ex := by rw [HEX.out, if_pos hne]
              obtain rfl : h' = h.put jf := by rw [HH.out]; rfl
              exact AS.of_emit HM3.out HG3.out HM3'.out (blk_lt HM.out) (fun k hk => ⟨(HV.out.lt k hk).2, (HVB.out k hk).2.2.1⟩) hown1 hgr1 (hat1.imp id fun h => h.trans (by simp))
        case rest =>
          have hgrA := hcut.grew
          obtain ⟨a1, n1, cap1, xs1, hs1e, hs1, hrow, hn1, hsb⟩ := AS.split hcut HV.out
          subst hs1e
          have HA := Lib.hid hcut
          have HS1 := Lib.hid hs1
          have HROW := Lib.hid hrow
          have HSB := Lib.hid hsb
          have HN1 := Lib.hid hn1
          have HGA := Lib.hid hgrA
          clear hcut hs1 hrow hsb hn1 hgrA
          have hbA : ¬ (b = bm ∨ v1.ownBlock = some b) := fun h => by rcases h with h | h; exact HMB.out.1 h.symm; exact (HVB.out _ h).1 rfl
          have hsA : ¬ (bs = bm ∨ v1.ownBlock = some bs) := fun h => by rcases h with h | h; exact HMB.out.2.1 h.symm; exact (HVB.out _ h).2.1 rfl
          have HPA := Lib.hid (HP.out.grew HGA.out hbA)
          have HCA := Lib.hid (HGA.out.obj HC.out hsA)
          have HB := Lib.hid hbA
          clear hbA hsA
          have hlw := HGA.out.size
          have hl3 := blk_lt HA.out.b3
          go_upto_region 12 with fail
          go_cut [120] from 105 to 120 (fun s120 wx => s120 = .bool mf ∧ wx = wc.alloc (.cells #[.nilIface, .int .i32 0] 58))
          case first =>
            have k41 : wc.cell? ⟨b, 41, none⟩ = some (.bool mf) := (blk_cell HPA.out.hp 41).trans HPA.out.c41
            have k23 : wc.cell? ⟨b, 23, none⟩ = some (.int .u64 f) := (blk_cell HPA.out.hp 23).trans HPA.out.c23
            have hlt := blk_lt HPA.out.hp
            have hla : bits .and .u64 f 137438953472 = 0 := by rw [HF.out]; cases na <;> decide
            cases hmf : mf
            · go_wp2
              go_meet
              exact ⟨by rw [hmf], rfl⟩
            · go_wp2
              go_meet
              exact ⟨by rw [hmf], rfl⟩
          case rest =>
            obtain ⟨rfl, rfl⟩ := hcut
            go_upto_if 120 with fail
            have gO : Grew (fun _ => False) wc (wc.alloc (.cells #[.nilIface, .int .i32 0] 58)) := (Grew.refl _ wc).alloc _
            have hu : cur[j * 10 + 4]? = some (.int .u32 ucj) := HJ.out 4 (by decide)
            refine argArm b bs bm n cap cs ms j (w.heap.size + 1) (w.heap.size + 1 + 1) wc.heap.size pc cur mf ex f nl ucj .nilIface (.int .i32 0) _ _ _ _ _ _ _ _ _ _ _ _ _ _ _ _ _ _ _ _ _ _ _ _ _ _ _ _ _ _ _ _ _ _ _ _ _ _ _ _ _ _ _ _ _ _ _ _ _ _ _ _ _ _ _ _ _ _ _ _ _ _ _ _ _ _ _ _ _ _ _ _ _ _ _ _ _ _ _ _ _ _ _ _ _ _ _ _ _ _ _ _ _ _ _ _ _ _ _ _ _ _ _ _ _ _ _ _ _ _ _ _ _ _ _ _ _ _ _ _ _ _ _ _ _ _ _ _ _ _ _ _ _ _ _ _ _ _ _ _ _ _ _ _ _ _ _ _ _ _ _ _ _ _ _ _ _ _ _ _ _ _ _ _ _ _ _ _ _ _ _ _ _ _ _ _ _ _ _ _ _ _ _ _ _ _ _ _ _ _ _ _ _ _ _ _ _ _ _ _ _ _ _ _ _ _ _ _ _ _ _ _ _ _ _ _ _ _ _ _ _ _ _ _ _ _ _ _ _ _ _ _ _ _ _ _ _ _ _ _ _ _ _ _ _ _ _ _ _ _ _ _ _ _ _ _ _ _ _ _ _ _ _ _ _ _ _ _ _ _ _ _ _ _ _ _ _ _ _ _ _ _ _ _ _ _ _ _ _ _ _ _ _ _ _ _ _ _ _ _ _ _ _ _ _ _ _ _ _ _ _ _ _ _ _ _ _ _ _ _ _ _ _ _ _ _ _ _ _ _ _ _ _ _ _ _ _ _ _ _ _ _ _ _ _ _ _ _ _ _ _ _ _ _ _ _ _ _ _ _ _ _ _ _ _ _ _ _ _ _ _ _ _ _ _ _ _ _ _ _ _ _ _ _ _ _ _ _ _ _ _ _ _ _ _ _
              (HPA.out.grew gO (fun h => h)) hj hn (gO.obj HA.out.b1 (fun h => h)) (gO.obj HA.out.b2 (fun h => h)) (blk_at _ _ _ rfl) (gO.obj HCA.out (fun h => h)) hu hu0 hu1 ⟨?_, ?_, ?_, ?_, ?_, ?_, ?_⟩ ?_
            · omega
            · omega
            · omega
            · omega
            · exact HP.out.ne HC.out
            · omega
            · omega
            intros
            rename_i W2 hArg
            obtain ⟨gB, ⟨e, he19, hAI⟩, symB⟩ := hArg
            obtain ⟨bb, rfl⟩ : ∃ bb, e = .iface 211 (.pointer (some ⟨bb, 0, none⟩)) := by
              obtain ⟨bb, _, _, _, _, _, he, _⟩ := hAI
              exact ⟨bb, he⟩
            have l19 := blk_lt he19
            have g2 : Grew (fun k => k = bs) wc W2 := (Grew.trans ((Grew.refl (fun k => k = wc.heap.size ∨ k = bs) wc).alloc _) gB).mono fun k hk h => by rcases h with h | h; omega; exact h
            have P2 := HPA.out.grew g2 (fun h => HP.out.ne HC.out h)
            have b0 := g2.obj HA.out.b0 (fun h => by omega)
            have b1 := g2.obj HA.out.b1 (fun h => by omega)
            have b3 := g2.obj HA.out.b3 (fun h => by omega)
            have v7A : wc.ownsRow 0 45 2 v7 m ys := owns_same H7.out fun k hk => HGA.out.block k (H7.out.lt k hk).2 fun h => by
              rcases h with h | h
              · exact owns_ne_map H7.out HM.out (h ▸ hk)
              · exact H17.out k h hk
            have v72 : W2.ownsRow 0 45 2 v7 m ys := owns_same v7A fun k hk => g2.block k (v7A.lt k hk).2 fun h => owns_ne v7A HCA.out (by decide) (h ▸ hk)
            have y0 : W2.cell? ⟨w.heap.size + 1, 0, none⟩ = some (.int .i32 nl) := (blk_cell b1 0).trans rfl
            have x0 : W2.cell? ⟨w.heap.size + 1 + 1 + 1, 0, none⟩ = some (.int .u32 0) := (blk_cell b3 0).trans rfl
            have x1 : W2.cell? ⟨w.heap.size + 1 + 1 + 1, 1, none⟩ = some (.int .u32 a) := (blk_cell b3 1).trans rfl
            have m0 := blk_lt b3
            have m00 : w.heap.size + 1 < W2.heap.size := by omega
            have m1 : w.heap.size + 1 < W2.heap.size + 1 := by omega
            have m2 : w.heap.size + 1 + 1 + 1 < W2.heap.size + 1 := by omega
            have m3 : w.heap.size + 1 < W2.heap.size + 1 + 1 := by omega
            have m4 : w.heap.size + 1 + 1 + 1 < W2.heap.size + 1 + 1 := by omega
            have HGB := Lib.hid gB
            have H19 := Lib.hid he19
            have HAI := Lib.hid hAI
            have HSB2 := Lib.hid symB
            have HG2 := Lib.hid g2
            have HP2 := Lib.hid P2
            have HB0 := Lib.hid b0
            have HV7 := Lib.hid v72
            clear gB he19 hAI symB g2 P2 b0 b1 b3 v7A v72
            go_upto_region 30 with fail
            refine wp_named (fun W4 => W4 = ((W2.alloc (.cells #[.nilIface, .int .i32 0] 58)).alloc (.cells #[.int .u32 0, .int .u32 a] 198)).alloc (.cells #[.iface 194 (ptr (W2.heap.size + 1)), .int .i32 nl, .nilIface, .int .i32 0, .slice none 0 0, .bool false] 257)) rfl ?_
            intro W4 hW4
            have g4 : Grew (fun _ => False) W2 W4 := hW4 ▸ ((((Grew.refl _ W2).alloc _).alloc _).alloc _)
            have i21 : W4.heap[W2.heap.size]? = some (.cells #[.nilIface, .int .i32 0] 58 (0, 0)) := hW4 ▸ blk_alloc (blk_alloc (blk_at _ _ _ rfl) _) _
            have k23 : W4.cell? ⟨b, 23, none⟩ = some (.int .u64 f) := (blk_cell (HP2.out.grew g4 (fun h => h)).hp 23).trans HP2.out.c23
            have HW4 := Lib.hid hW4
            have HG4 := Lib.hid g4
            have HI21 := Lib.hid i21
            clear hW4 g4 i21 y0 x0 x1
            go_cut [332] from 326 to 332 (fun s332 wx => s332 = .bool na ∧ W4 = wx)
            case first =>
              have hlb := blk_lt (HP2.out.grew HG4.out (fun h => h)).hp
              have hla : bits .and .u64 f 4 = if na then 4 else 0 := by rw [HF.out]; cases na <;> decide
              cases hna : na
              · rw [hna] at hla
                simp only [Bool.false_eq_true, if_false] at hla
                go_wp2
                go_meet
                exact ⟨by rw [hna]; rfl, rfl⟩
              · rw [hna] at hla
                simp only [if_true] at hla
                go_wp2
                go_meet
                exact ⟨by rw [hna]; rfl, rfl⟩
            case rest =>
              obtain ⟨rfl, rfl⟩ := hcut
              clear k23
              go_upto_if 332 with fail
              have gC := HG4.out
              have s2 := HG2.out.size
              refine tgtArm b bs bm n cap cs ms w.heap.size W2.heap.size (W2.heap.size + 1 + 1) m pc mf na f sl .nilIface (.int .i32 0) v7 ys W4 _ _ _ _ _ _ _ _ _ _ _ _ _ _ _ _ _ _ _ _ _ _ _ _ _ _ _ _ _ _ _ _ _ _ _ _ _ _ _ _ _ _ _ _ _ _ _ _ _ _ _ _ _ _ _ _ _ _ _ _ _ _ _ _ _ _ _ _ _ _ _ _ _ _ _ _ _ _ _ _ _ _ _ _ _ _ _ _ _ _ _ _ _ _ _ _ _ _ _ _ _ _ _ _ _ _ _ _ _ _ _ _ _ _ _ _ _ _ _ _ _ _ _ _ _ _ _ _ _ _ _ _ _ _ _ _ _ _ _ _ _ _ _ _ _ _ _ _ _ _ _ _ _ _ _ _ _ _ _ _ _ _ _ _ _ _ _ _ _ _ _ _ _ _ _ _ _ _ _ _ _ _ _ _ _ _ _ _ _ _ _ _ _ _ _ _ _ _ _ _ _ _ _ _ _ _ _ _ _ _ _ _ _ _ _ _ _ _ _ _ _ _ _ _ _ _ _ _ _ _ _ _ _ _ _ _ _ _ _ _ _ _ _ _ _ _ _ _ _ _ _ _ _ _ _ _ _ _ _ _ _ _ _ _ _ _ _ _ _ _ _ _ _ _ _ _ _ _ _ _ _ _ _ _ _ _ _ _ _ _ _ _ _ _ _ _ _ _ _ _ _ _ _ _ _ _ _ _ _ _ _ _ _ _ _ _ _ _ _ _ _ _ _ _ _ _ _ _ _ _ _ _ _ _ _ _ _ _ _ _ _ _ _ _ _ _ _ _ _ _ _ _ _ _ _ _ _ _ _ _ _ _ _ _ _ _ _ _ _ _ _ _ _ _ _ _ _ _ _ _ _ _ _ _ _ _ _ _ _ _ _ _ _ _ _
                (HP2.out.grew gC (fun h => h)) (gC.obj HB0.out (fun h => h)) HI21.out (owns_same HV7.out fun k hk => gC.block k (HV7.out.lt k hk).2 (fun h => h)) hm7 ?_ ⟨?_, ?_, ?_, ?_⟩ ?_
              · intro e1 e2 e3
                obtain ⟨q, t, z, l, r1, r2⟩ := HQ7.out e1 e2 e3
                have hq1 := HGA.out.obj r2 (fun h => by
                  rcases h with h | h
                  · subst h; exact Held.not_cells HM.out r2
                  · exact owns_ne HV.out r2 (by decide) h)
                have hq2 := HG2.out.obj hq1 (fun h => by
                  subst h
                  have := hq1.symm.trans HCA.out
                  injection this with this
                  injection this with _ this _
                  exact absurd this (by decide))
                exact ⟨q, t, z, l, r1, gC.obj hq2 (fun h => h)⟩
              · have := blk_lt HPA.out.hp
                omega
              · omega
              · intro h
                have := (H7.out.lt _ h).2
                omega
              · intro h
                have := (H7.out.lt _ h).2
                omega
              intros
              rename_i W5 hTgt
              obtain ⟨gT, ⟨t, he21, hTI⟩, hRet⟩ := hTgt
              obtain ⟨tt, zt, rfl⟩ : ∃ tt zt, t = .iface tt zt := by
                obtain ⟨q, _, h⟩ := hTI
                rcases h with ⟨_, h, _⟩ | ⟨_, h, _⟩
                · exact ⟨_, _, h⟩
                · exact ⟨_, _, h⟩
              have g5 : Grew (fun k => v7.ownBlock = some k) W2 W5 := (Grew.trans (HG4.out.mono (T := fun k => k = W2.heap.size ∨ v7.ownBlock = some k) (fun _ _ h => h.elim)) gT).mono fun k hk h => by rcases h with h | h; omega; exact h
              have c10 := g5.obj HB0.out (fun h => by have := (H7.out.lt _ h).2; omega)
              have c19 := g5.obj H19.out (fun h => by have := (H7.out.lt _ h).2; omega)
              have ss2 : W2.ownsRow 0 45 2 (.slice a1 n1 cap1) n1 xs1 := owns_same HS1.out fun k hk => HG2.out.block k (HS1.out.lt k hk).2 fun h => owns_ne HS1.out HCA.out (by decide) (h ▸ hk)
              have ss5 : W5.ownsRow 0 45 2 (.slice a1 n1 cap1) n1 xs1 := owns_same ss2 fun k hk => g5.block k (ss2.lt k hk).2 fun h => by
                rcases HSB.out k hk with h' | h'
                · exact H17.out k h' h
                · have := (H7.out.lt _ h).2
                  omega
              have hn1 : n1 ≤ 5000 := by have := HN1.out; omega
              have HGT := Lib.hid gT
              have HTI := Lib.hid hTI
              have HRet := Lib.hid hRet
              clear gT hTI hRet g5 ss2 gC
              go_upto_region 37 with fail
              refine endArm b w.heap.size wc.heap.size W2.heap.size n1 cap1 a1 sl nl _ _ _ _ xs1 W5 _ _ _ _ _ _ _ _ _ _ _ _ _ _ _ _ _ _ _ _ _ _ _ _ _ _ _ _ _ _ _ _ _ _ _ _ _ _ _ _ _ _ _ _ _ _ _ _ _ _ _ _ _ _ _ _ _ _ _ _ _ _ _ _ _ _ _ _ _ _ _ _ _ _ _ _ _ _ _ _ _ _ _ _ _ _ _ _ _ _ _ _ _ _ _ _ _ _ _ _ _ _ _ _ _ _ _ _ _ _ _ _ _ _ _ _ _ _ _ _ _ _ _ _ _ _ _ _ _ _ _ _ _ _ _ _ _ _ _ _ _ _ _ _ _ _ _ _ _ _ _ _ _ _ _ _ _ _ _ _ _ _ _ _ _ _ _ _ _ _ _ _ _ _ _ _ _ _ _ _ _ _ _ _ _ _ _ _ _ _ _ _ _ _ _ _ _ _ _ _ _ _ _ _ _ _ _ _ _ _ _ _ _ _ _ _ _ _ _ _ _ _ _ _ _ _ _ _ _ _ _ _ _ _ _ _ _ _ _ _ _ _ _ _ _ _ _ _ _ _ _ _ _ _ _ _ _ _ _ _ _ _ _ _ _ _ _ _ _ _ _ _ _ _ _ _ _ _ _ _ _ _ _ _ _ _ _ _ _ _ _ _ _ _ _ _ _ _ _ _ _ _ _ _ _ _ _ _ _ _ _ _ _ _ _ _ _ _ _ _ _ _ _ _ _ _ _ _ _ _ _ _ _ _ _ _ _ _ _ _ _ _ _ _ _ _ _ _ _ _ _ _ _ _ _ _ _ _ _ _ _ _ _ _ _ _ _ _ _ _ _ _ _ _ _ _ _ _ _ _ _ _ _ _ _ _ _ _ _ _ _ _ _ _ _ _ c10 c19 he21 ss5 hn1 ?_
              intros
              rename_i g c w' hE
              clear c10 c19 he21 ss5 hn1
              have hfin := gen_close (h' := h') (cur' := cur') HGA.out HA.out.map HCA.out HS1.out HROW.out HSB.out H7.out H17.out hsl (blk_lt HM.out) HMB.out.2.1 ⟨h, HM.out⟩ rfl HGB.out HAI.out (HCU.out ▸ HSB2.out) (HW4.out ▸ HGT.out) (HW4.out ▸ HTI.out) HRet.out hE
              have HFIN := Lib.hid hfin
              clear hfin hE
              go_wp2
              go_ret
              exact HFIN.out
end Go.Proofs.YtnikgjgjmpoglaaGreatFmt
