/-
  The closure's argument, made and its name's uses counted (the branch of generateClosureForTypeScriptNamespaceOrEnum that lays argExpr). Conditions: no enclosing namespace; as listed.
-/
import Derived.Test.YtnikgjgjmpoglaaGreatFmtH2a
namespace Go.Proofs.YtnikgjgjmpoglaaGreatFmt
open Go Go.RowKit
set_option maxRecDepth 100000

def UsedPost (W : World) (bs j : Nat) (uc : Int) (cur : Array Value) (e : Ending) (w' : World) : Prop :=
  e = .returned (.tuple #[]) ∧ Grew (fun k => k = bs) W w' ∧ w'.heap[bs]? = some (.cells (cur.setIfInBounds (j * 10 + 4) (.int .u32 (uc + 1))) 232 (0, 0))

theorem used_any (b bs bm n cap cs ms j : Nat) (pc cur : Array Value) (mf : Bool) (f uc : Int) (W : World) (P : PFacts W b pc bs n cap bm mf f cs ms) (hj : j < n) (hn : n ≤ 10) (hbs : b ≠ bs)
    (hc : W.heap[bs]? = some (.cells cur 232 (0, 0))) (hu : cur[j * 10 + 4]? = some (.int .u32 uc)) (hu0 : 0 ≤ uc) (hu1 : uc ≤ 100000) :
    Calls Tryz.prog 37 #[.pointer (some ⟨b, 0, none⟩), .agg #[.int .u32 0, .int .u32 j]] W (UsedPost W bs j uc cur) := by
  refine (recordUsage_any b bs j n cap uc W ((blk_cell P.hp 350).trans P.c350) ((blk_cell P.hp 106).trans P.c106) ((blk_cell P.hp 105).trans P.c105) ((blk_cell P.hp 32).trans P.c32) hj hn hbs ((blk_cell hc _).trans hu) (blk_free hc _) hu0 hu1).mono ?_
  rintro e w' ⟨he, rfl⟩
  exact ⟨he, (((Grew.refl (fun k => k = bs) W).setCell (p := ⟨bs, j * 10 + 4, none⟩) (.inl rfl) _).alloc _).drew, blk_drew (blk_alloc (blk_set hc _ _) _)⟩

def ArgPost (W W' : World) (p19 bs j : Nat) (nl uc : Int) (mf : Bool) (cur : Array Value) : Prop :=
  Grew (fun k => k = p19 ∨ k = bs) W W' ∧ (∃ e, W'.heap[p19]? = some (.cells #[e, .int .i32 nl] 58 (0, 0)) ∧ ArgIs W.heap.size W' nl j mf e) ∧
    W'.heap[bs]? = some (.cells (cur.setIfInBounds (j * 10 + 4) (.int .u32 (uc + if mf then 1 else 2))) 232 (0, 0))

theorem ArgPost.of1 {W W1 W2 : World} {p19 bs j : Nat} {nl uc : Int} {cur : Array Value} (hm : ArgMid W W1 p19 j nl true) (hb : bs < W.heap.size) (hne : p19 ≠ bs)
    (g : Grew (fun k => k = bs) W1 W2) (hc : W2.heap[bs]? = some (.cells (cur.setIfInBounds (j * 10 + 4) (.int .u32 (uc + 1))) 232 (0, 0))) : ArgPost W W2 p19 bs j nl uc true cur := by
  obtain ⟨h1, e, h2, h3⟩ := hm
  exact ⟨Grew.trans (h1.mono fun _ _ h => .inl h) (g.mono fun _ _ h => .inr h), ⟨e, g.obj h2 (fun h => hne h), h3.grew g (fun k h => h ▸ hb)⟩, hc⟩

theorem ArgPost.of2 {W W1 W2 W3 : World} {p19 bs j : Nat} {nl uc : Int} {cur : Array Value} (hm : ArgMid W W1 p19 j nl false) (hb : bs < W.heap.size) (hne : p19 ≠ bs)
    (g : Grew (fun k => k = bs) W1 W2) (g2 : Grew (fun k => k = bs) W2 W3) (hc : W3.heap[bs]? = some (.cells ((cur.setIfInBounds (j * 10 + 4) (.int .u32 (uc + 1))).setIfInBounds (j * 10 + 4) (.int .u32 (uc + 1 + 1))) 232 (0, 0))) : ArgPost W W3 p19 bs j nl uc false cur := by
  obtain ⟨h1, e, h2, h3⟩ := hm
  have gg := Grew.trans g g2
  refine ⟨Grew.trans (h1.mono fun _ _ h => .inl h) (gg.mono fun _ _ h => .inr h), ⟨e, gg.obj h2 (fun h => hne h), h3.grew gg (fun k h => h ▸ hb)⟩, ?_⟩
  rw [hc]
  have e1 : uc + 1 + 1 = uc + 2 := by omega
  simp [e1]

set_option maxHeartbeats 4000000 in
theorem argArm (b bs bm n cap cs ms j p12 p13 p19 : Nat) (pc cur : Array Value) (mf ex : Bool) (f nl uc : Int) (x19 y19 : Value) (W : World) (s1 s2 s4 s5 s6 s7 s8 s9 s10 s11 s14 s15 s16 s17 s18 s20 s21 s22 s23 s24 s25 s26 s27 s28 s29 s30 s31 s32 s33 s34 s35 s36 s37 s38 s39 s40 s41 s42 s43 s44 s45 s46 s47 s48 s49 s50 s51 s52 s53 s54 s55 s56 s57 s58 s59 s60 s61 s62 s63 s64 s65 s66 s67 s68 s69 s70 s71 s72 s73 s74 s75 s76 s77 s78 s79 s80 s81 s82 s83 s84 s85 s86 s87 s88 s89 s90 s91 s92 s93 s94 s95 s96 s97 s98 s99 s100 s101 s102 s103 s104 s105 s106 s107 s108 s109 s110 s111 s112 s113 s114 s115 s116 s117 s118 s119 s121 s122 s123 s124 s125 s126 s127 s128 s129 s130 s131 s132 s133 s134 s135 s136 s137 s138 s139 s140 s141 s142 s143 s144 s145 s146 s147 s148 s149 s150 s151 s152 s153 s154 s155 s156 s157 s158 s159 s160 s161 s162 s163 s164 s165 s166 s167 s168 s169 s170 s171 s172 s173 s174 s175 s176 s177 s178 s179 s180 s181 s182 s183 s184 s185 s186 s187 s188 s189 s190 s191 s192 s193 s194 s195 s196 s197 s198 s199 s200 s201 s202 s203 s204 s205 s206 s207 s208 s209 s210 s211 s212 s213 s214 s215 s216 s217 s218 s219 s220 s221 s222 s223 s224 s225 s226 s227 s228 s229 s230 s231 s232 s233 s234 s235 s236 s237 s238 s239 s240 s241 s242 s243 s244 s245 s246 s247 s248 s249 s250 s251 s252 s253 s254 s255 s256 s257 s258 s259 s260 s261 s262 s263 s264 s265 s266 s267 s268 s269 s270 s271 s272 s273 s274 s275 s276 s277 s278 s279 s280 s281 s282 s283 s284 s285 s286 s287 s288 s289 s290 s291 s292 s293 s294 s295 s296 s297 s298 s299 s300 s301 s302 s303 s304 s305 s306 s307 s308 s309 s310 s311 s312 s313 s314 s315 s316 s317 s318 s319 s320 s321 s322 s323 s324 s325 s326 s327 s328 s329 s330 s331 s332 s333 s334 s335 s336 s337 s338 s339 s340 s341 s342 s343 s344 s345 s346 s347 s348 s349 s350 s351 s352 s353 s354 s355 s356 s357 s358 s359 s360 s361 s362 s363 s364 s365 s366 s367 s368 s369 s370 s371 s372 s373 s374 s375 s376 s377 s378 s379 s380 s381 s382 s383 s384 s385 s386 s387 s388 s389 s390 s391 s392 s393 s394 s395 s396 s397 s398 s399 s400 : Value)
    {K : Act → World → Prop} {Q' : Exit → Act → World → Prop}
    (P : PFacts W b pc bs n cap bm mf f cs ms) (hj : j < n) (hn : n ≤ 10)
    (h12 : W.heap[p12]? = some (.cells #[.int .i32 nl] 36 (0, 0))) (h13 : W.heap[p13]? = some (.cells #[.int .u32 0, .int .u32 j] 30 (0, 0))) (h19 : W.heap[p19]? = some (.cells #[x19, y19] 58 (0, 0)))
    (hc : W.heap[bs]? = some (.cells cur 232 (0, 0))) (hu : cur[j * 10 + 4]? = some (.int .u32 uc)) (hu0 : 0 ≤ uc) (hu1 : uc ≤ 90000)
    (hd : p19 ≠ b ∧ p19 ≠ bs ∧ p19 ≠ p12 ∧ p19 ≠ p13 ∧ b ≠ bs ∧ bs ≠ p12 ∧ bs ≠ p13)
    (hK : ∀ (u20 u121 u122 u123 u124 u125 u126 u127 u128 u129 u130 u131 u132 u133 u134 u135 u136 u137 u138 u139 u140 u141 u142 u143 u144 u145 u146 u147 u148 u149 u150 u151 u152 u153 u154 u155 u156 u157 u158 u159 u160 u161 u162 u163 u164 u165 u166 u167 u168 u169 u170 u171 u172 u173 u174 u175 u176 u177 u178 u179 u180 u181 u182 u183 u184 u185 u186 u187 u188 u189 u190 u191 u192 u193 u194 u195 u196 u197 u198 u199 u200 u201 u202 u203 u204 u205 u206 u207 u208 u209 u210 u211 u212 u213 u214 u215 u216 u217 u218 u219 u220 u221 u222 u223 u224 u225 u226 u227 u228 u229 u230 u231 u232 u233 u234 u235 u236 u237 u238 u239 u240 u241 u242 u243 u244 u245 u246 u247 u248 u249 u250 u251 u252 u253 u254 u255 u256 u257 u258 u259 u260 u261 u262 u263 u264 u265 u266 u267 u268 u269 u270 u271 u272 u273 u274 u275 u276 u277 u278 u279 u280 u281 u282 u283 u284 u285 u286 u287 u288 u289 u290 u291 u292 u293 u294 u295 u296 u297 u298 u299 u300 u301 u302 u303 u304 u305 u306 u307 u308 u309 u310 u311 u312 u313 u314 u315 u316 u317 : Value) (W' : World), ArgPost W W' p19 bs j nl uc mf cur → K ⟨(List.toArray (.pointer (some ⟨b, 0, none⟩) :: s1 :: s2 :: .bool ex :: s4 :: s5 :: s6 :: s7 :: s8 :: s9 :: s10 :: s11 :: .pointer (some ⟨p12, 0, none⟩) :: .pointer (some ⟨p13, 0, none⟩) :: s14 :: s15 :: s16 :: s17 :: s18 :: .pointer (some ⟨p19, 0, none⟩) :: u20 :: s21 :: s22 :: s23 :: s24 :: s25 :: s26 :: s27 :: s28 :: s29 :: s30 :: s31 :: s32 :: s33 :: s34 :: s35 :: s36 :: s37 :: s38 :: s39 :: s40 :: s41 :: s42 :: s43 :: s44 :: s45 :: s46 :: s47 :: s48 :: s49 :: s50 :: s51 :: s52 :: s53 :: s54 :: s55 :: s56 :: s57 :: s58 :: s59 :: s60 :: s61 :: s62 :: s63 :: s64 :: s65 :: s66 :: s67 :: s68 :: s69 :: s70 :: s71 :: s72 :: s73 :: s74 :: s75 :: s76 :: s77 :: s78 :: s79 :: s80 :: s81 :: s82 :: s83 :: s84 :: s85 :: s86 :: s87 :: s88 :: s89 :: s90 :: s91 :: s92 :: s93 :: s94 :: s95 :: s96 :: s97 :: s98 :: s99 :: s100 :: s101 :: s102 :: s103 :: s104 :: s105 :: s106 :: s107 :: s108 :: s109 :: s110 :: s111 :: s112 :: s113 :: s114 :: s115 :: s116 :: s117 :: s118 :: s119 :: .bool mf :: u121 :: u122 :: u123 :: u124 :: u125 :: u126 :: u127 :: u128 :: u129 :: u130 :: u131 :: u132 :: u133 :: u134 :: u135 :: u136 :: u137 :: u138 :: u139 :: u140 :: u141 :: u142 :: u143 :: u144 :: u145 :: u146 :: u147 :: u148 :: u149 :: u150 :: u151 :: u152 :: u153 :: u154 :: u155 :: u156 :: u157 :: u158 :: u159 :: u160 :: u161 :: u162 :: u163 :: u164 :: u165 :: u166 :: u167 :: u168 :: u169 :: u170 :: u171 :: u172 :: u173 :: u174 :: u175 :: u176 :: u177 :: u178 :: u179 :: u180 :: u181 :: u182 :: u183 :: u184 :: u185 :: u186 :: u187 :: u188 :: u189 :: u190 :: u191 :: u192 :: u193 :: u194 :: u195 :: u196 :: u197 :: u198 :: u199 :: u200 :: u201 :: u202 :: u203 :: u204 :: u205 :: u206 :: u207 :: u208 :: u209 :: u210 :: u211 :: u212 :: u213 :: u214 :: u215 :: u216 :: u217 :: u218 :: u219 :: u220 :: u221 :: u222 :: u223 :: u224 :: u225 :: u226 :: u227 :: u228 :: u229 :: u230 :: u231 :: u232 :: u233 :: u234 :: u235 :: u236 :: u237 :: u238 :: u239 :: u240 :: u241 :: u242 :: u243 :: u244 :: u245 :: u246 :: u247 :: u248 :: u249 :: u250 :: u251 :: u252 :: u253 :: u254 :: u255 :: u256 :: u257 :: u258 :: u259 :: u260 :: u261 :: u262 :: u263 :: u264 :: u265 :: u266 :: u267 :: u268 :: u269 :: u270 :: u271 :: u272 :: u273 :: u274 :: u275 :: u276 :: u277 :: u278 :: u279 :: u280 :: u281 :: u282 :: u283 :: u284 :: u285 :: u286 :: u287 :: u288 :: u289 :: u290 :: u291 :: u292 :: u293 :: u294 :: u295 :: u296 :: u297 :: u298 :: u299 :: u300 :: u301 :: u302 :: u303 :: u304 :: u305 :: u306 :: u307 :: u308 :: u309 :: u310 :: u311 :: u312 :: u313 :: u314 :: u315 :: u316 :: u317 :: s318 :: s319 :: s320 :: s321 :: s322 :: s323 :: s324 :: s325 :: s326 :: s327 :: s328 :: s329 :: s330 :: s331 :: s332 :: s333 :: s334 :: s335 :: s336 :: s337 :: s338 :: s339 :: s340 :: s341 :: s342 :: s343 :: s344 :: s345 :: s346 :: s347 :: s348 :: s349 :: s350 :: s351 :: s352 :: s353 :: s354 :: s355 :: s356 :: s357 :: s358 :: s359 :: s360 :: s361 :: s362 :: s363 :: s364 :: s365 :: s366 :: s367 :: s368 :: s369 :: s370 :: s371 :: s372 :: s373 :: s374 :: s375 :: s376 :: s377 :: s378 :: s379 :: s380 :: s381 :: s382 :: s383 :: s384 :: s385 :: s386 :: s387 :: s388 :: s389 :: s390 :: s391 :: s392 :: s393 :: s394 :: s395 :: s396 :: s397 :: s398 :: s399 :: s400 :: [])), []⟩ W') :
    genArg.wp Tryz.prog (Exit.then K Q') ⟨(List.toArray (.pointer (some ⟨b, 0, none⟩) :: s1 :: s2 :: .bool ex :: s4 :: s5 :: s6 :: s7 :: s8 :: s9 :: s10 :: s11 :: .pointer (some ⟨p12, 0, none⟩) :: .pointer (some ⟨p13, 0, none⟩) :: s14 :: s15 :: s16 :: s17 :: s18 :: .pointer (some ⟨p19, 0, none⟩) :: s20 :: s21 :: s22 :: s23 :: s24 :: s25 :: s26 :: s27 :: s28 :: s29 :: s30 :: s31 :: s32 :: s33 :: s34 :: s35 :: s36 :: s37 :: s38 :: s39 :: s40 :: s41 :: s42 :: s43 :: s44 :: s45 :: s46 :: s47 :: s48 :: s49 :: s50 :: s51 :: s52 :: s53 :: s54 :: s55 :: s56 :: s57 :: s58 :: s59 :: s60 :: s61 :: s62 :: s63 :: s64 :: s65 :: s66 :: s67 :: s68 :: s69 :: s70 :: s71 :: s72 :: s73 :: s74 :: s75 :: s76 :: s77 :: s78 :: s79 :: s80 :: s81 :: s82 :: s83 :: s84 :: s85 :: s86 :: s87 :: s88 :: s89 :: s90 :: s91 :: s92 :: s93 :: s94 :: s95 :: s96 :: s97 :: s98 :: s99 :: s100 :: s101 :: s102 :: s103 :: s104 :: s105 :: s106 :: s107 :: s108 :: s109 :: s110 :: s111 :: s112 :: s113 :: s114 :: s115 :: s116 :: s117 :: s118 :: s119 :: .bool mf :: s121 :: s122 :: s123 :: s124 :: s125 :: s126 :: s127 :: s128 :: s129 :: s130 :: s131 :: s132 :: s133 :: s134 :: s135 :: s136 :: s137 :: s138 :: s139 :: s140 :: s141 :: s142 :: s143 :: s144 :: s145 :: s146 :: s147 :: s148 :: s149 :: s150 :: s151 :: s152 :: s153 :: s154 :: s155 :: s156 :: s157 :: s158 :: s159 :: s160 :: s161 :: s162 :: s163 :: s164 :: s165 :: s166 :: s167 :: s168 :: s169 :: s170 :: s171 :: s172 :: s173 :: s174 :: s175 :: s176 :: s177 :: s178 :: s179 :: s180 :: s181 :: s182 :: s183 :: s184 :: s185 :: s186 :: s187 :: s188 :: s189 :: s190 :: s191 :: s192 :: s193 :: s194 :: s195 :: s196 :: s197 :: s198 :: s199 :: s200 :: s201 :: s202 :: s203 :: s204 :: s205 :: s206 :: s207 :: s208 :: s209 :: s210 :: s211 :: s212 :: s213 :: s214 :: s215 :: s216 :: s217 :: s218 :: s219 :: s220 :: s221 :: s222 :: s223 :: s224 :: s225 :: s226 :: s227 :: s228 :: s229 :: s230 :: s231 :: s232 :: s233 :: s234 :: s235 :: s236 :: s237 :: s238 :: s239 :: s240 :: s241 :: s242 :: s243 :: s244 :: s245 :: s246 :: s247 :: s248 :: s249 :: s250 :: s251 :: s252 :: s253 :: s254 :: s255 :: s256 :: s257 :: s258 :: s259 :: s260 :: s261 :: s262 :: s263 :: s264 :: s265 :: s266 :: s267 :: s268 :: s269 :: s270 :: s271 :: s272 :: s273 :: s274 :: s275 :: s276 :: s277 :: s278 :: s279 :: s280 :: s281 :: s282 :: s283 :: s284 :: s285 :: s286 :: s287 :: s288 :: s289 :: s290 :: s291 :: s292 :: s293 :: s294 :: s295 :: s296 :: s297 :: s298 :: s299 :: s300 :: s301 :: s302 :: s303 :: s304 :: s305 :: s306 :: s307 :: s308 :: s309 :: s310 :: s311 :: s312 :: s313 :: s314 :: s315 :: s316 :: s317 :: s318 :: s319 :: s320 :: s321 :: s322 :: s323 :: s324 :: s325 :: s326 :: s327 :: s328 :: s329 :: s330 :: s331 :: s332 :: s333 :: s334 :: s335 :: s336 :: s337 :: s338 :: s339 :: s340 :: s341 :: s342 :: s343 :: s344 :: s345 :: s346 :: s347 :: s348 :: s349 :: s350 :: s351 :: s352 :: s353 :: s354 :: s355 :: s356 :: s357 :: s358 :: s359 :: s360 :: s361 :: s362 :: s363 :: s364 :: s365 :: s366 :: s367 :: s368 :: s369 :: s370 :: s371 :: s372 :: s373 :: s374 :: s375 :: s376 :: s377 :: s378 :: s379 :: s380 :: s381 :: s382 :: s383 :: s384 :: s385 :: s386 :: s387 :: s388 :: s389 :: s390 :: s391 :: s392 :: s393 :: s394 :: s395 :: s396 :: s397 :: s398 :: s399 :: s400 :: [])), []⟩ W := by
  have HK := Lib.hid hK
  clear hK
  have HP := Lib.hid P
  have H12 := Lib.hid h12
  have H13 := Lib.hid h13
  have H19 := Lib.hid h19
  have HC := Lib.hid hc
  have HU := Lib.hid hu
  have HD := Lib.hid hd
  have hbs := blk_lt hc
  clear P h12 h13 h19 hc hu hd
  conv => arg 2; whnf
  go_cut [] from 121 to 317 (fun wx => ArgPost W wx p19 bs j nl uc mf cur)
  case rest => exact HK.out _ _ _ _ _ _ _ _ _ _ _ _ _ _ _ _ _ _ _ _ _ _ _ _ _ _ _ _ _ _ _ _ _ _ _ _ _ _ _ _ _ _ _ _ _ _ _ _ _ _ _ _ _ _ _ _ _ _ _ _ _ _ _ _ _ _ _ _ _ _ _ _ _ _ _ _ _ _ _ _ _ _ _ _ _ _ _ _ _ _ _ _ _ _ _ _ _ _ _ _ _ _ _ _ _ _ _ _ _ _ _ _ _ _ _ _ _ _ _ _ _ _ _ _ _ _ _ _ _ _ _ _ _ _ _ _ _ _ _ _ _ _ _ _ _ _ _ _ _ _ _ _ _ _ _ _ _ _ _ _ _ _ _ _ _ _ _ _ _ _ _ _ _ _ _ _ _ _ _ _ _ _ _ _ _ _ _ _ _ _ _ _ _ _ _ _ _ _ _ hcut
  case first =>
    have k168 : W.cell? ⟨b, 168, none⟩ = some (.pointer none) := (blk_cell HP.out.hp 168).trans HP.out.c168
    have y0 : W.cell? ⟨p12, 0, none⟩ = some (.int .i32 nl) := (blk_cell H12.out 0).trans rfl
    have x0 : W.cell? ⟨p13, 0, none⟩ = some (.int .u32 0) := (blk_cell H13.out 0).trans rfl
    have x1 : W.cell? ⟨p13, 1, none⟩ = some (.int .u32 j) := (blk_cell H13.out 1).trans rfl
    have z0 : W.cell? ⟨p19, 0, none⟩ = some x19 := (blk_cell H19.out 0).trans rfl
    have z1 : W.cell? ⟨p19, 1, none⟩ = some y19 := (blk_cell H19.out 1).trans rfl
    have zf0 : W.frozen? ⟨p19, 0, none⟩ = false := blk_free H19.out 0
    have zf1 : W.frozen? ⟨p19, 1, none⟩ = false := blk_free H19.out 1
    have l12 := blk_lt H12.out
    have l13 := blk_lt H13.out
    have l19 := blk_lt H19.out
    have l12_1 : p12 < W.heap.size + 1 := by omega
    have l12_2 : p12 < W.heap.size + 1 + 1 := by omega
    have l12_3 : p12 < W.heap.size + 1 + 1 + 1 := by omega
    have l12_4 : p12 < W.heap.size + 1 + 1 + 1 + 1 := by omega
    have l13_1 : p13 < W.heap.size + 1 := by omega
    have l13_2 : p13 < W.heap.size + 1 + 1 := by omega
    have l13_3 : p13 < W.heap.size + 1 + 1 + 1 := by omega
    have l13_4 : p13 < W.heap.size + 1 + 1 + 1 + 1 := by omega
    have l19_1 : p19 < W.heap.size + 1 := by omega
    have l19_2 : p19 < W.heap.size + 1 + 1 := by omega
    have l19_3 : p19 < W.heap.size + 1 + 1 + 1 := by omega
    have l19_4 : p19 < W.heap.size + 1 + 1 + 1 + 1 := by omega
    cases mf
    · go_upto_region 19 with fail
      go_cut [208] from 201 to 208 (fun s wx => s = .bool false ∧ W = wx)
      case first =>
        cases ex
        · go_wp2
          go_meet
          exact ⟨rfl, rfl⟩
        · go_wp2
          go_meet
          exact ⟨rfl, rfl⟩
      case rest =>
        obtain ⟨rfl, rfl⟩ := hcut
        clear k168 y0 x0 x1 z0 z1 zf0 zf1
        go_upto_region 25 with fail
        refine argRegion b j p12 p13 p19 ex nl x19 y19 W _ _ _ _ _ _ _ _ _ _ _ _ _ _ _ _ _ _ _ _ _ _ _ _ _ _ _ _ _ _ _ _ _ _ _ _ _ _ _ _ _ _ _ _ _ _ _ _ _ _ _ _ _ _ _ _ _ _ _ _ _ _ _ _ _ _ _ _ _ _ _ _ _ _ _ _ _ _ _ _ _ _ _ _ _ _ _ _ _ _ _ _ _ _ _ _ _ _ _ _ _ _ _ _ _ _ _ _ _ _ _ _ _ _ _ _ _ _ _ _ _ _ _ _ _ _ _ _ _ _ _ _ _ _ _ _ _ _ _ _ _ _ _ _ _ _ _ _ _ _ _ _ _ _ _ _ _ _ _ _ _ _ _ _ _ _ _ _ _ _ _ _ _ _ _ _ _ _ _ _ _ _ _ _ _ _ _ _ _ _ _ _ _ _ _ _ _ _ _ _ _ _ _ _ _ _ _ _ _ _ _ _ _ _ _ _ _ _ _ _ _ _ _ _ _ _ _ _ _ _ _ _ _ _ _ _ _ _ _ _ _ _ _ _ _ _ _ _ _ _ _ _ _ _ _ _ _ _ _ _ _ _ _ _ _ _ _ _ _ _ _ _ _ _ _ _ _ _ _ _ _ _ _ _ _ _ _ _ _ _ _ _ _ _ _ _ _ _ _ _ _ _ _ _ _ _ _ _ _ _ _ _ _ _ _ _ _ _ _ _ _ _ _ _ _ _ _ _ _ _ _ _ _ _ _ _ _ _ _ _ _ _ _ _ _ _ _ _ _ _ _ _ _ _ _ _ _ _ _ _ _ _ _ _ _ _ _ _ _ _ _ _ _ _ _ _ _ _ _ _ _ _ _ _ _ _ _ _ _ _ _ _ _ _ _ _ H12.out H13.out H19.out ⟨HD.out.2.2.1, HD.out.2.2.2.1⟩ ?_
        intros
        rename_i W1 hM
        have P1 := HP.out.grew hM.1 (fun e => HD.out.1 e.symm)
        have hc1 := hM.1.obj HC.out (fun e => HD.out.2.1 e.symm)
        have x13 := hM.1.obj H13.out (fun e => HD.out.2.2.2.1 e.symm)
        have x0 : W1.cell? ⟨p13, 0, none⟩ = some (.int .u32 0) := (blk_cell x13 0).trans rfl
        have x1 : W1.cell? ⟨p13, 1, none⟩ = some (.int .u32 j) := (blk_cell x13 1).trans rfl
        have call1 := used_any b bs bm n cap cs ms j pc cur false f uc W1 P1 hj hn HD.out.2.2.2.2.1 hc1 HU.out hu0 (by omega)
        have X13 := Lib.hid x13
        have HP1 := Lib.hid P1
        have HM := Lib.hid hM
        have HL1 := Lib.hid call1
        clear call1 hc1 x13 P1 hM
        go_upto_region 27 with (go_at_call 37; refine HL1.out.mono ?_; rintro e W2 ⟨rfl, hg2, hc2⟩)
        have x13 := hg2.obj X13.out (fun e => HD.out.2.2.2.2.2.2 e.symm)
        have HG2 := Lib.hid hg2
        have HC2 := Lib.hid hc2
        clear hg2 hc2 x0 x1
        have x0 : W2.cell? ⟨p13, 0, none⟩ = some (.int .u32 0) := (blk_cell x13 0).trans rfl
        have x1 : W2.cell? ⟨p13, 1, none⟩ = some (.int .u32 j) := (blk_cell x13 1).trans rfl
        have hlu := (Array.getElem?_eq_some_iff.1 HU.out).1
        have call2 := used_any b bs bm n cap cs ms j pc _ false f (uc + 1) W2 (HP1.out.grew HG2.out (fun e => HD.out.2.2.2.2.1 e)) hj hn HD.out.2.2.2.2.1 HC2.out (by rw [Array.getElem?_setIfInBounds_self_of_lt hlu]) (by omega) (by omega)
        have HL2 := Lib.hid call2
        clear call2 x13 hlu
        go_wp2_with (go_at_call 37; refine HL2.out.mono ?_; rintro e W3 ⟨rfl, hg3, hc3⟩)
        go_meet
        exact ArgPost.of2 HM.out hbs HD.out.2.1 HG2.out hg3 hc3
    · go_upto_region 13 with fail
      go_cut [128] from 121 to 128 (fun s wx => s = .bool false ∧ W = wx)
      case first =>
        cases ex
        · go_wp2
          go_meet
          exact ⟨rfl, rfl⟩
        · go_wp2
          go_meet
          exact ⟨rfl, rfl⟩
      case rest =>
        obtain ⟨rfl, rfl⟩ := hcut
        go_upto_region 18 with fail
        refine wp_named (fun W1 => ArgMid W W1 p19 j nl true) ?_ ?_
        · refine ⟨?_, ?_, ?_, ?_⟩
          · repeat (first | (with_reducible exact Grew.refl _ _) | (with_reducible refine Grew.drew ?_) | (with_reducible refine Grew.alloc ?_ _) | refine Grew.setCell (S := fun k => k = p19) (p := ⟨p19, _, none⟩) ?_ (.inl rfl) _)
          rotate_left
          · repeat (first | (with_reducible refine blk_drew ?_) | (with_reducible refine blk_alloc ?_ _) | exact blk_set (blk_set H19.out 0 _) 1 _)
          apply ArgIs.mk_true
          · repeat (first | (with_reducible refine blk_drew ?_) | ((with_reducible refine blk_at _ _ _ ?_); simp; done) | (with_reducible refine blk_alloc ?_ _))
          · repeat (first | (with_reducible refine blk_drew ?_) | ((with_reducible refine blk_at _ _ _ ?_); simp; done) | (with_reducible refine blk_alloc ?_ _))
          · repeat (first | (with_reducible refine blk_drew ?_) | ((with_reducible refine blk_at _ _ _ ?_); simp; done) | (with_reducible refine blk_alloc ?_ _))
          · simp; try omega
        intro W1 hM
        clear k168 y0 x0 x1 z0 z1 zf0 zf1
        have P1 := HP.out.grew hM.1 (fun e => HD.out.1 e.symm)
        have hc1 := hM.1.obj HC.out (fun e => HD.out.2.1 e.symm)
        have x13 := hM.1.obj H13.out (fun e => HD.out.2.2.2.1 e.symm)
        have x0 : W1.cell? ⟨p13, 0, none⟩ = some (.int .u32 0) := (blk_cell x13 0).trans rfl
        have x1 : W1.cell? ⟨p13, 1, none⟩ = some (.int .u32 j) := (blk_cell x13 1).trans rfl
        have call1 := used_any b bs bm n cap cs ms j pc cur true f uc W1 P1 hj hn HD.out.2.2.2.2.1 hc1 HU.out hu0 (by omega)
        have HM := Lib.hid hM
        have HL1 := Lib.hid call1
        clear call1 hc1 x13 P1 hM
        go_wp2_with (go_at_call 37; refine HL1.out.mono ?_; rintro e W2 ⟨rfl, hg2, hc2⟩)
        go_meet
        exact ArgPost.of1 HM.out hbs HD.out.2.1 hg2 hc2
end Go.Proofs.YtnikgjgjmpoglaaGreatFmt
