/-
  FnNamespaceClosureCaseTable's look at its first call statement. Conditions: as listed.
-/
import Derived.Test.YtnikgjgjmpoglaaGreatFmtR21
import Derived.Deep.DeepCutAuto
import Derived.Deep.CutRange
import Derived.IntWalk
import Derived.StillTailTactics
namespace Go.Proofs.YtnikgjgjmpoglaaGreatFmt
open Go Go.RowKit
set_option maxRecDepth 100000

set_option maxHeartbeats 8000000 in
theorem law4_r32 (W : World) (n m g c qs p22 p23 : Nat) (mf na : Bool) (sl nl : Int) (s2 s3 s4 s9 s10 s11 s12 s13 s14 s15 s16 s17 s18 s19 s20 s21 s24 s25 s26 s28 s29 s30 s31 s32 s33 s34 s35 s36 s37 s38 s39 s40 s41 s42 s43 s44 s45 s46 s47 s48 s49 s50 s51 s52 s53 s54 s55 s56 s57 s58 s59 s60 s61 s62 s63 s64 s65 s66 s67 s68 s69 s70 s71 s72 s73 s74 s75 s76 s77 s78 s79 s80 s81 s82 s83 s84 s85 s86 s87 s88 s89 s90 s91 s92 s93 s94 s95 s96 s97 s98 s99 s100 s101 s102 s103 s104 s105 s106 s107 s108 s109 s110 s111 s112 s113 s114 s115 s116 s117 s118 s119 s120 s121 s122 s123 s124 s125 s126 s127 s128 s129 s130 s131 s132 s133 s134 s135 s136 s137 s138 s139 s140 s141 s142 s143 s144 s145 s146 s147 s148 s149 s150 s151 s152 s153 s154 s155 s156 s157 s158 s159 s160 s161 s162 s163 s164 s165 s166 s167 s168 s169 s170 s171 s172 s173 s174 s175 s176 s177 s178 s179 s180 s181 s182 s183 s184 s185 s186 s187 s188 s189 s190 s191 s192 s193 s194 s195 s196 s197 s198 s199 s200 s201 s202 s203 s204 s205 s206 s207 s208 s209 s210 s211 s212 s213 s214 s215 s216 s217 s218 s219 s220 s221 s222 s223 s224 s225 s226 s227 s228 s229 s230 s231 s232 s233 s234 : Value) {K : Act → World → Prop} {Q' : Exit → Act → World → Prop} (hn : n ≤ 4096) (hm : m ≤ 4096)
    (r0 : W.cell? ⟨g, (n + 1) * 2, none⟩ = some (.iface 199 (.pointer (some ⟨qs, 0, none⟩)))) (r1 : W.cell? ⟨g, (n + 1) * 2 + 1, none⟩ = some (.int .i32 sl))
    (hs : ShapeAt W sl nl 0 1 m mf na (rets mf na m) (.iface 199 (.pointer (some ⟨qs, 0, none⟩)))) (y1 : W.cell? ⟨p22, 0, none⟩ = some (.int .u32 0)) (y2 : W.cell? ⟨p22, 1, none⟩ = some (.int .u32 0)) (y3 : W.cell? ⟨p23, 0, none⟩ = some (.int .u32 0)) (y4 : W.cell? ⟨p23, 1, none⟩ = some (.int .u32 1))
    (hK : ∀ (u178 u179 u180 u181 u182 u183 u184 u185 u186 u187 u188 u189 u190 u191 u192 u193 u194 u195 u196 u197 u198 u199 : Value) (w' : World), Grew (fun _ => False) W w' → K ⟨(List.toArray (.int .i64 n :: .int .i64 m :: s2 :: s3 :: s4 :: .bool mf :: .bool na :: .int .i32 sl :: .int .i32 nl :: s9 :: s10 :: s11 :: s12 :: s13 :: s14 :: s15 :: s16 :: s17 :: s18 :: s19 :: s20 :: s21 :: .pointer (some ⟨p22, 0, none⟩) :: .pointer (some ⟨p23, 0, none⟩) :: s24 :: s25 :: s26 :: .slice (some ⟨g, 0, none⟩) (n + 2) c :: s28 :: s29 :: s30 :: s31 :: s32 :: s33 :: s34 :: s35 :: s36 :: s37 :: s38 :: s39 :: s40 :: s41 :: s42 :: s43 :: s44 :: s45 :: s46 :: s47 :: s48 :: s49 :: s50 :: s51 :: s52 :: s53 :: s54 :: s55 :: s56 :: s57 :: s58 :: s59 :: s60 :: s61 :: s62 :: s63 :: s64 :: s65 :: s66 :: s67 :: s68 :: s69 :: s70 :: s71 :: s72 :: s73 :: s74 :: s75 :: s76 :: s77 :: s78 :: s79 :: s80 :: s81 :: s82 :: s83 :: s84 :: s85 :: s86 :: s87 :: s88 :: s89 :: s90 :: s91 :: s92 :: s93 :: s94 :: s95 :: s96 :: s97 :: s98 :: s99 :: s100 :: s101 :: s102 :: s103 :: s104 :: s105 :: s106 :: s107 :: s108 :: s109 :: s110 :: s111 :: s112 :: s113 :: s114 :: s115 :: s116 :: s117 :: s118 :: s119 :: s120 :: s121 :: s122 :: s123 :: s124 :: s125 :: s126 :: s127 :: s128 :: s129 :: s130 :: s131 :: s132 :: s133 :: s134 :: s135 :: s136 :: s137 :: s138 :: s139 :: s140 :: s141 :: s142 :: s143 :: s144 :: s145 :: s146 :: s147 :: s148 :: s149 :: s150 :: s151 :: s152 :: s153 :: s154 :: s155 :: s156 :: s157 :: s158 :: s159 :: s160 :: s161 :: s162 :: s163 :: s164 :: s165 :: s166 :: s167 :: s168 :: s169 :: s170 :: s171 :: s172 :: s173 :: s174 :: s175 :: s176 :: s177 :: u178 :: u179 :: u180 :: u181 :: u182 :: u183 :: u184 :: u185 :: u186 :: u187 :: u188 :: u189 :: u190 :: u191 :: u192 :: u193 :: u194 :: u195 :: u196 :: u197 :: u198 :: u199 :: (.bool false) :: s201 :: s202 :: s203 :: s204 :: s205 :: s206 :: s207 :: s208 :: s209 :: s210 :: s211 :: s212 :: s213 :: s214 :: s215 :: s216 :: s217 :: s218 :: s219 :: s220 :: s221 :: s222 :: s223 :: s224 :: s225 :: s226 :: s227 :: s228 :: s229 :: s230 :: s231 :: s232 :: s233 :: s234 :: [])), []⟩ w') :
    (seqHead (law4at 21)).wp Tryz.prog (Exit.then K Q') ⟨(List.toArray (.int .i64 n :: .int .i64 m :: s2 :: s3 :: s4 :: .bool mf :: .bool na :: .int .i32 sl :: .int .i32 nl :: s9 :: s10 :: s11 :: s12 :: s13 :: s14 :: s15 :: s16 :: s17 :: s18 :: s19 :: s20 :: s21 :: .pointer (some ⟨p22, 0, none⟩) :: .pointer (some ⟨p23, 0, none⟩) :: s24 :: s25 :: s26 :: .slice (some ⟨g, 0, none⟩) (n + 2) c :: s28 :: s29 :: s30 :: s31 :: s32 :: s33 :: s34 :: s35 :: s36 :: s37 :: s38 :: s39 :: s40 :: s41 :: s42 :: s43 :: s44 :: s45 :: s46 :: s47 :: s48 :: s49 :: s50 :: s51 :: s52 :: s53 :: s54 :: s55 :: s56 :: s57 :: s58 :: s59 :: s60 :: s61 :: s62 :: s63 :: s64 :: s65 :: s66 :: s67 :: s68 :: s69 :: s70 :: s71 :: s72 :: s73 :: s74 :: s75 :: s76 :: s77 :: s78 :: s79 :: s80 :: s81 :: s82 :: s83 :: s84 :: s85 :: s86 :: s87 :: s88 :: s89 :: s90 :: s91 :: s92 :: s93 :: s94 :: s95 :: s96 :: s97 :: s98 :: s99 :: s100 :: s101 :: s102 :: s103 :: s104 :: s105 :: s106 :: s107 :: s108 :: s109 :: s110 :: s111 :: s112 :: s113 :: s114 :: s115 :: s116 :: s117 :: s118 :: s119 :: s120 :: s121 :: s122 :: s123 :: s124 :: s125 :: s126 :: s127 :: s128 :: s129 :: s130 :: s131 :: s132 :: s133 :: s134 :: s135 :: s136 :: s137 :: s138 :: s139 :: s140 :: s141 :: s142 :: s143 :: s144 :: s145 :: s146 :: s147 :: s148 :: s149 :: s150 :: s151 :: s152 :: s153 :: s154 :: s155 :: s156 :: s157 :: s158 :: s159 :: s160 :: s161 :: s162 :: s163 :: s164 :: s165 :: s166 :: s167 :: s168 :: s169 :: s170 :: s171 :: s172 :: s173 :: s174 :: s175 :: s176 :: s177 :: s178 :: s179 :: s180 :: s181 :: s182 :: s183 :: s184 :: s185 :: s186 :: s187 :: s188 :: s189 :: s190 :: s191 :: s192 :: s193 :: s194 :: s195 :: s196 :: s197 :: s198 :: s199 :: s200 :: s201 :: s202 :: s203 :: s204 :: s205 :: s206 :: s207 :: s208 :: s209 :: s210 :: s211 :: s212 :: s213 :: s214 :: s215 :: s216 :: s217 :: s218 :: s219 :: s220 :: s221 :: s222 :: s223 :: s224 :: s225 :: s226 :: s227 :: s228 :: s229 :: s230 :: s231 :: s232 :: s233 :: s234 :: [])), []⟩ W := by
  have HK := Lib.hid hK
  have hcs : Calls Tryz.prog 14 #[.agg #[.iface 199 (.pointer (some ⟨qs, 0, none⟩)), .int .i32 sl], .int .i32 sl, .int .i32 nl, .agg #[.int .u32 0, .int .u32 0], .agg #[.int .u32 0, .int .u32 1], .bool mf, .int .i64 m, .bool (rets mf na m), .bool na] W.drew (BoolPost true W.drew) := callShape_yes (hs.grew (Grew.refl _ W).drew) hm
  have i0 : (0 : Int) ≤ (n : Int) + 1 := by omega
  have i1 : (n : Int) + 1 < (n : Int) + 2 := by omega
  have i2 : ((n : Int) + 1).toNat = n + 1 := by omega
  have i3 : IntKind.i64.wrap ((n : Int) + 1) = (n : Int) + 1 := by rw [IntWalk.i64_in _ (by omega)]
  clear hK hs
  conv => arg 2; whnf
  cases mf
  · rw [show rets false na m = false from rfl] at hcs
    have HS := Lib.hid hcs
    clear hcs
    go_still_tail 21, (by kernel_rfl)
    go_wp2_with (go_at_call 14; (with_reducible refine HS.out.mono ?_); rintro e w' ⟨rfl, hg⟩)
    all_goals exact HK.out _ _ _ _ _ _ _ _ _ _ _ _ _ _ _ _ _ _ _ _ _ _ _ (Grew.trans (Grew.refl _ W).drew hg)
  cases na
  rotate_left
  · rw [show rets true true m = false from rfl] at hcs
    have HS := Lib.hid hcs
    clear hcs
    go_still_tail 21, (by kernel_rfl)
    go_wp2_with (go_at_call 14; (with_reducible refine HS.out.mono ?_); rintro e w' ⟨rfl, hg⟩)
    all_goals exact HK.out _ _ _ _ _ _ _ _ _ _ _ _ _ _ _ _ _ _ _ _ _ _ _ (Grew.trans (Grew.refl _ W).drew hg)
  by_cases h1 : m = 1
  · subst h1
    rw [show rets true false 1 = true from rfl] at hcs
    replace hcs : Calls Tryz.prog 14 #[.agg #[.iface 199 (.pointer (some ⟨qs, 0, none⟩)), .int .i32 sl], .int .i32 sl, .int .i32 nl, .agg #[.int .u32 0, .int .u32 0], .agg #[.int .u32 0, .int .u32 1], .bool true, .int .i64 1, .bool true, .bool false] W.drew (BoolPost true W.drew) := hcs
    have HS := Lib.hid hcs
    clear hcs
    go_still_tail 21, (by kernel_rfl)
    go_wp2_with (go_at_call 14; (with_reducible refine HS.out.mono ?_); rintro e w' ⟨rfl, hg⟩)
    all_goals exact HK.out _ _ _ _ _ _ _ _ _ _ _ _ _ _ _ _ _ _ _ _ _ _ _ (Grew.trans (Grew.refl _ W).drew hg)
  · have hr : rets true false m = false := by simp [rets, h1]
    rw [hr] at hcs
    have hb1 : ((m : Int) == 1) = false := by simp; omega
    have HS := Lib.hid hcs
    clear hcs hr h1
    go_still_tail 21, (by kernel_rfl)
    go_wp2_with (go_at_call 14; (with_reducible refine HS.out.mono ?_); rintro e w' ⟨rfl, hg⟩)
    all_goals exact HK.out _ _ _ _ _ _ _ _ _ _ _ _ _ _ _ _ _ _ _ _ _ _ _ (Grew.trans (Grew.refl _ W).drew hg)
end Go.Proofs.YtnikgjgjmpoglaaGreatFmt
