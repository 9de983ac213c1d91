/-
  FnNamespaceClosureCaseTable's first call of the generator: its two rows of statements made in either order. Conditions: as listed.
-/
import Derived.Test.YtnikgjgjmpoglaaGreatFmtQ
import Derived.Deep.RegionHeld3
namespace Go.Proofs.YtnikgjgjmpoglaaGreatFmt
open Go Go.RowKit
set_option maxRecDepth 100000

noncomputable def law4at (k : Nat) : Code := seqHead (seqTail k (Tryz.f4.body.getD .skip))

set_option maxHeartbeats 8000000 in
theorem law4_r21 (w0 W : World) (b bs bm cs ms cap n m p22 p23 p24 p25 : Nat) (pc cur : Array Value) (mf na ex ex' : Bool) (s0 s1 : Sym) (sl nl kind per : Int) (s3 s4 s5 s6 s7 s8 s9 s10 s11 s12 s13 s14 s15 s16 s17 s18 s19 s21 s26 s27 s28 s29 s30 s31 s32 s33 s34 s35 s36 s37 s38 s39 s40 s41 s42 s43 s44 s45 s46 s47 s48 s49 s50 s51 s52 s53 s54 s55 s56 s57 s58 s59 s60 s61 s62 s63 s64 s65 s66 s67 s68 s69 s70 s71 s72 s73 s74 s75 s76 s77 s78 s79 s80 s81 s82 s83 s84 s85 s86 s87 s88 s89 s90 s91 s92 s93 s94 s95 s96 s97 s98 s99 s100 s101 s102 s103 s104 s105 s106 s107 s108 s109 s110 s111 s112 s113 s114 s115 s116 s117 s118 s119 s120 s121 s122 s123 s124 s125 s126 s127 s128 s129 s130 s131 s132 s133 s134 s135 s136 s137 s138 s139 s140 s141 s142 s143 s144 s145 s146 s147 s148 s149 s150 s151 s152 s153 s154 s155 s156 s157 s158 s159 s160 s161 s162 s163 s164 s165 s166 s167 s168 s169 s170 s171 s172 s173 s174 s175 s176 s177 s178 s179 s180 s181 s182 s183 s184 s185 s186 s187 s188 s189 s190 s191 s192 s193 s194 s195 s196 s197 s198 s199 s200 s201 s202 s203 s204 s205 s206 s207 s208 s209 s210 s211 s212 s213 s214 s215 s216 s217 s218 s219 s220 s221 s222 s223 s224 s225 s226 s227 s228 s229 s230 s231 s232 s233 s234 : Value)
    {K : Act → World → Prop} {Q' : Exit → Act → World → Prop}
    (R : Ready w0 W b bs bm cs ms 2 cap pc cur mf na .nil [s0, s1]) (hl0 : s0.l0 = 4294967295 ∧ s0.l1 = 4294967295) (hk0 : (s0.kind == 20 || s0.kind == 19) = true) (hu : s0.uc = 0) (hn : n ≤ 4096) (hm : m ≤ 4096)
    (HB : Boxes p22 p23 p24 p25 0 1 sl nl W) (hper : per = if mf then 1 else 2) (hkind : kind = if cs = ms then 0 else 1) (hex : ex' = if cs = ms then ex else false)
    (hK : ∀ (u67 u68 u69 u70 u71 u72 u73 u74 u75 u76 u77 : Value) (g c : Nat) (w' : World), Gen4Post w0 b bs bm cs ms 2 cap pc mf na [s0.used per, s1] n m sl nl kind ex' p22 p23 p24 p25 (.returned (.slice (some ⟨g, 0, none⟩) (n + 2) c)) w' → K ⟨(List.toArray (.int .i64 n :: .int .i64 m :: .bool ex :: s3 :: s4 :: s5 :: s6 :: s7 :: s8 :: s9 :: s10 :: s11 :: s12 :: s13 :: s14 :: s15 :: s16 :: s17 :: s18 :: s19 :: .pointer (some ⟨b, 0, none⟩) :: s21 :: .pointer (some ⟨p22, 0, none⟩) :: .pointer (some ⟨p23, 0, none⟩) :: .pointer (some ⟨p24, 0, none⟩) :: .pointer (some ⟨p25, 0, none⟩) :: s26 :: (.slice (some ⟨g, 0, none⟩) (n + 2) c) :: s28 :: s29 :: s30 :: s31 :: s32 :: s33 :: s34 :: s35 :: s36 :: s37 :: s38 :: s39 :: s40 :: s41 :: s42 :: s43 :: s44 :: s45 :: s46 :: s47 :: s48 :: s49 :: s50 :: s51 :: s52 :: s53 :: s54 :: s55 :: s56 :: s57 :: s58 :: s59 :: s60 :: s61 :: s62 :: s63 :: s64 :: s65 :: s66 :: u67 :: u68 :: u69 :: u70 :: u71 :: u72 :: u73 :: u74 :: u75 :: u76 :: u77 :: s78 :: s79 :: s80 :: s81 :: s82 :: s83 :: s84 :: s85 :: s86 :: s87 :: s88 :: s89 :: s90 :: s91 :: s92 :: s93 :: s94 :: s95 :: s96 :: s97 :: s98 :: s99 :: s100 :: s101 :: s102 :: s103 :: s104 :: s105 :: s106 :: s107 :: s108 :: s109 :: s110 :: s111 :: s112 :: s113 :: s114 :: s115 :: s116 :: s117 :: s118 :: s119 :: s120 :: s121 :: s122 :: s123 :: s124 :: s125 :: s126 :: s127 :: s128 :: s129 :: s130 :: s131 :: s132 :: s133 :: s134 :: s135 :: s136 :: s137 :: s138 :: s139 :: s140 :: s141 :: s142 :: s143 :: s144 :: s145 :: s146 :: s147 :: s148 :: s149 :: s150 :: s151 :: s152 :: s153 :: s154 :: s155 :: s156 :: s157 :: s158 :: s159 :: s160 :: s161 :: s162 :: s163 :: s164 :: s165 :: s166 :: s167 :: s168 :: s169 :: s170 :: s171 :: s172 :: s173 :: s174 :: s175 :: s176 :: s177 :: s178 :: s179 :: s180 :: s181 :: s182 :: s183 :: s184 :: s185 :: s186 :: s187 :: s188 :: s189 :: s190 :: s191 :: s192 :: s193 :: s194 :: s195 :: s196 :: s197 :: s198 :: s199 :: s200 :: s201 :: s202 :: s203 :: s204 :: s205 :: s206 :: s207 :: s208 :: s209 :: s210 :: s211 :: s212 :: s213 :: s214 :: s215 :: s216 :: s217 :: s218 :: s219 :: s220 :: s221 :: s222 :: s223 :: s224 :: s225 :: s226 :: s227 :: s228 :: s229 :: s230 :: s231 :: s232 :: s233 :: s234 :: [])), []⟩ w') :
    (law4at 16).wp Tryz.prog (Exit.then K Q') ⟨(List.toArray (.int .i64 n :: .int .i64 m :: .bool ex :: s3 :: s4 :: s5 :: s6 :: s7 :: s8 :: s9 :: s10 :: s11 :: s12 :: s13 :: s14 :: s15 :: s16 :: s17 :: s18 :: s19 :: .pointer (some ⟨b, 0, none⟩) :: s21 :: .pointer (some ⟨p22, 0, none⟩) :: .pointer (some ⟨p23, 0, none⟩) :: .pointer (some ⟨p24, 0, none⟩) :: .pointer (some ⟨p25, 0, none⟩) :: s26 :: s27 :: s28 :: s29 :: s30 :: s31 :: s32 :: s33 :: s34 :: s35 :: s36 :: s37 :: s38 :: s39 :: s40 :: s41 :: s42 :: s43 :: s44 :: s45 :: s46 :: s47 :: s48 :: s49 :: s50 :: s51 :: s52 :: s53 :: s54 :: s55 :: s56 :: s57 :: s58 :: s59 :: s60 :: s61 :: s62 :: s63 :: s64 :: s65 :: s66 :: s67 :: s68 :: s69 :: s70 :: s71 :: s72 :: s73 :: s74 :: s75 :: s76 :: s77 :: s78 :: s79 :: s80 :: s81 :: s82 :: s83 :: s84 :: s85 :: s86 :: s87 :: s88 :: s89 :: s90 :: s91 :: s92 :: s93 :: s94 :: s95 :: s96 :: s97 :: s98 :: s99 :: s100 :: s101 :: s102 :: s103 :: s104 :: s105 :: s106 :: s107 :: s108 :: s109 :: s110 :: s111 :: s112 :: s113 :: s114 :: s115 :: s116 :: s117 :: s118 :: s119 :: s120 :: s121 :: s122 :: s123 :: s124 :: s125 :: s126 :: s127 :: s128 :: s129 :: s130 :: s131 :: s132 :: s133 :: s134 :: s135 :: s136 :: s137 :: s138 :: s139 :: s140 :: s141 :: s142 :: s143 :: s144 :: s145 :: s146 :: s147 :: s148 :: s149 :: s150 :: s151 :: s152 :: s153 :: s154 :: s155 :: s156 :: s157 :: s158 :: s159 :: s160 :: s161 :: s162 :: s163 :: s164 :: s165 :: s166 :: s167 :: s168 :: s169 :: s170 :: s171 :: s172 :: s173 :: s174 :: s175 :: s176 :: s177 :: s178 :: s179 :: s180 :: s181 :: s182 :: s183 :: s184 :: s185 :: s186 :: s187 :: s188 :: s189 :: s190 :: s191 :: s192 :: s193 :: s194 :: s195 :: s196 :: s197 :: s198 :: s199 :: s200 :: s201 :: s202 :: s203 :: s204 :: s205 :: s206 :: s207 :: s208 :: s209 :: s210 :: s211 :: s212 :: s213 :: s214 :: s215 :: s216 :: s217 :: s218 :: s219 :: s220 :: s221 :: s222 :: s223 :: s224 :: s225 :: s226 :: s227 :: s228 :: s229 :: s230 :: s231 :: s232 :: s233 :: s234 :: [])), []⟩ W := by
  have HK := Lib.hid hK
  have hgen : ∀ (W' : World) (xs ys : List Value) (rn rm : Nat), Grew (fun _ => False) W W' → MkAt n rn xs W' → MkAt m rm ys W' → W.heap.size ≤ rn → W.heap.size ≤ rm → rn ≠ rm →
      Calls Tryz.prog 16 #[.pointer (some ⟨b, 0, none⟩), .slice (some ⟨rn, 0, none⟩) n n, .agg #[.int .i32 sl], .bool ex, .agg #[.int .i32 nl], .agg #[.int .u32 0, .int .u32 0], .agg #[.int .u32 0, .int .u32 1], .slice (some ⟨rm, 0, none⟩) m m] W'
        (fun e w' => ∃ g c, e = .returned (.slice (some ⟨g, 0, none⟩) (n + 2) c) ∧ Gen4Post w0 b bs bm cs ms 2 cap pc mf na [s0.used per, s1] n m sl nl kind ex' p22 p23 p24 p25 e w' ∧
          w'.cell? ⟨p22, 0, none⟩ = some (.int .u32 0) ∧ w'.cell? ⟨p22, 1, none⟩ = some (.int .u32 0) ∧ w'.cell? ⟨p23, 0, none⟩ = some (.int .u32 0) ∧ w'.cell? ⟨p23, 1, none⟩ = some (.int .u32 1) ∧ w'.cell? ⟨p24, 0, none⟩ = some (.int .i32 sl) ∧ w'.cell? ⟨p25, 0, none⟩ = some (.int .i32 nl)) := by
    intro W' xs ys rn rm hg h1 h2 h3 h4 h5
    refine (gen4 w0 W' b bs bm cs ms 2 cap pc cur mf na [s0, s1] (R.grew hg) s0 rfl hl0 hk0 hu n m rn rm xs ys h1 h2 hn hm (by have := R.gr.size; omega) (by have := R.gr.size; omega) h5 sl nl ex p22 p23 p24 p25 (HB.grew hg)).mono ?_
    rintro e w' ⟨g, c, xs', d0, d, cur', rfl, q1, q2, q3, q4, q5, q6, q7⟩
    subst hper hkind hex
    exact ⟨g, c, rfl, ⟨g, c, xs', d0, d, cur', rfl, q1, q2, q3, q4, q5, q6, q7⟩, q7.cells⟩
  have HGEN := Lib.hid hgen
  have hmkn := fun (W : World) => mk_law n W hn
  have hmkm := fun (W : World) => mk_law m W hm
  have HN := Lib.hid hmkn
  have HM := Lib.hid hmkm
  obtain ⟨y1, y2, y3, y4, y5, y6⟩ := HB.cells
  have l22 := blk_lt HB.b22
  have l23 := blk_lt HB.b23
  have l24 := blk_lt HB.b24
  have l25 := blk_lt HB.b25
  clear hK hgen hmkn hmkm R hl0 hk0 hu HB hper hkind hex
  conv => arg 2; whnf
  go_region_held3 (fun w' => w'.cell? ⟨p22, 0, none⟩ = some (.int .u32 0) ∧ w'.cell? ⟨p22, 1, none⟩ = some (.int .u32 0) ∧ w'.cell? ⟨p23, 0, none⟩ = some (.int .u32 0) ∧ w'.cell? ⟨p23, 1, none⟩ = some (.int .u32 1) ∧ w'.cell? ⟨p24, 0, none⟩ = some (.int .i32 sl) ∧ w'.cell? ⟨p25, 0, none⟩ = some (.int .i32 nl))
    (first | (refine ⟨?_, ?_, ?_, ?_, ?_, ?_⟩ <;> with_reducible assumption) | (refine ⟨?_, ?_, ?_, ?_, ?_, ?_⟩ <;> repeat (first | assumption | (with_reducible refine hgm.cell ?_ (fun h => h)) | (with_reducible refine hgn.cell ?_ (fun h => h)))))
    (first
      | (go_at_call 16; have hA := HGEN.out wm xsn xsm W.heap.size wn.heap.size (Grew.trans (Grew.trans (Grew.refl _ W).drew hgn) hgm) (mkn.grew hgm) mkm (Nat.le_refl _) (Nat.le_of_lt hln) (Nat.ne_of_lt hln); (with_reducible refine hA.mono ?_); clear hA; rintro e w' ⟨g, c, rfl, hpost, c1, c2, c3, c4, c5, c6⟩)
      | (go_at_call 16; have hA := HGEN.out wn xsn xsm wm.heap.size W.heap.size (Grew.trans (Grew.trans (Grew.refl _ W).drew hgm) hgn) mkn (mkm.grew hgn) (Nat.le_of_lt hlm) (Nat.le_refl _) (Nat.ne_of_gt hlm); (with_reducible refine hA.mono ?_); clear hA; rintro e w' ⟨g, c, rfl, hpost, c1, c2, c3, c4, c5, c6⟩)
      | (go_at_call 17; (with_reducible refine (HN.out _).mono ?_); rintro e wn ⟨rfl, ⟨xsn, mkn⟩, hln, hgn⟩)
      | (go_at_call 17; (with_reducible refine (HM.out _).mono ?_); rintro e wm ⟨rfl, ⟨xsm, mkm⟩, hlm, hgm⟩))
  all_goals exact HK.out _ _ _ _ _ _ _ _ _ _ _ _ _ _ hpost
end Go.Proofs.YtnikgjgjmpoglaaGreatFmt
