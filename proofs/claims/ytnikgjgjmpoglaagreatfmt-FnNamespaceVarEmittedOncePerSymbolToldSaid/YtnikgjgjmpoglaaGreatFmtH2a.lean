/-
  js_ast.Assign; the closure's argument 'name || (name = {})', made in whatever order Go takes. No conditions but those listed.
-/
import Derived.Test.YtnikgjgjmpoglaaGreatFmtH1
import Derived.Deep.DeepCutAuto
import Derived.Deep.CutRange
import Derived.Deep.RegionHeld3
namespace Go.Proofs.YtnikgjgjmpoglaaGreatFmt
open Go Go.RowKit
set_option maxRecDepth 100000

theorem assign_any (l r : Value) (ll rl : Int) (w : World) :
    Calls Tryz.prog 41 #[.agg #[l, .int .i32 ll], .agg #[r, .int .i32 rl]] w fun e w' => e = .returned (.agg #[.iface 211 (.pointer (some ⟨w.heap.size + 1 + 1 + 1, 0, none⟩)), .int .i32 ll]) ∧
      w' = (((w.alloc (.cells #[l, .int .i32 ll] 58)).alloc (.cells #[r, .int .i32 rl] 58)).alloc (.cells #[.iface 211 (.pointer (some ⟨w.heap.size + 1 + 1 + 1, 0, none⟩)), .int .i32 ll] 58)).alloc (.cells #[l, .int .i32 ll, r, .int .i32 rl, .int .u8 37, .bool false] 217) := by
  go_enter Tryz.func41, Tryz.ntmps41
  go_wp2
  refine bodyPost_ret (v := .agg #[.iface 211 (.pointer (some ⟨w.heap.size + 1 + 1 + 1, 0, none⟩)), .int .i32 ll]) (by simp [results, Tryz.results41, go_sem]) rfl ?_
  exact ⟨rfl, rfl⟩

theorem cell_drew {w : World} {a : Addr} {v : Value} (h : w.cell? a = some v) : w.drew.cell? a = some v := h
theorem cell_new {w : World} {a : Addr} {v : Value} (o : Obj) (h : w.cell? a = some v) : (w.alloc o).cell? a = some v := by
  rw [World.cell?_alloc_some w a o (by rw [h]; rfl)]; exact h
theorem cell_set {w : World} {a : Addr} {v : Value} (b k : Nat) {u : Value} (h : w.cell? a = some v) (hn : b ≠ a.block) : (w.setCell ⟨b, k, none⟩ u).cell? a = some v := by
  rw [World.cell?_setCell_far]; exact h; exact hn

theorem ArgIs.mk_false {lo j : Nat} {W : World} {nl : Int} (bb : Nat) {bi bo b2 i2 : Nat}
    (h5 : W.heap[bb]? = some (bin (.iface 249 (ptr bi)) (.iface 211 (ptr b2)) nl 31)) (h6 : W.heap[b2]? = some (bin (.iface 249 (ptr i2)) (.iface 190 (ptr bo)) nl 37))
    (h7 : W.heap[bi]? = some (ident j)) (h8 : W.heap[bo]? = some eobj) (h9 : W.heap[i2]? = some (ident j))
    (h10 : lo ≤ bb ∧ lo ≤ bi ∧ lo ≤ bo ∧ lo ≤ b2 ∧ lo ≤ i2) : ArgIs lo W nl j false (.iface 211 (.pointer (some ⟨bb, 0, none⟩))) :=
  ⟨bb, bi, bo, h10.1, h10.2.1, h10.2.2.1, rfl, h7, h8, .inr ⟨rfl, b2, i2, h10.2.2.2.1, h10.2.2.2.2, h5, h6, h9⟩⟩

theorem ArgIs.mk_true {lo j : Nat} {W : World} {nl : Int} (bb : Nat) {bi bo : Nat}
    (h5 : W.heap[bb]? = some (bin (.iface 249 (ptr bi)) (.iface 190 (ptr bo)) nl 51))
    (h7 : W.heap[bi]? = some (ident j)) (h8 : W.heap[bo]? = some eobj)
    (h10 : lo ≤ bb ∧ lo ≤ bi ∧ lo ≤ bo) : ArgIs lo W nl j true (.iface 211 (.pointer (some ⟨bb, 0, none⟩))) :=
  ⟨bb, bi, bo, h10.1, h10.2.1, h10.2.2, rfl, h7, h8, .inl ⟨rfl, h5⟩⟩

def ArgMid (W W' : World) (p19 j : Nat) (nl : Int) (mf : Bool) : Prop :=
  Grew (fun k => k = p19) W W' ∧ ∃ e, W'.heap[p19]? = some (.cells #[e, .int .i32 nl] 58 (0, 0)) ∧ ArgIs W.heap.size W' nl j mf e

def condF : Code → Code
  | .cond _ _ b => b
  | c => c
noncomputable def genArg25 : Code := seqHead (condF (seqTail 1 (condF genArg)))

set_option maxHeartbeats 8000000 in
theorem argRegion (b j p12 p13 p19 : Nat) (ex : Bool) (nl : Int) (x19 y19 : Value) (W : World) (s1 s2 s4 s5 s6 s7 s8 s9 s10 s11 s14 s15 s16 s17 s18 s20 s21 s22 s23 s24 s25 s26 s27 s28 s29 s30 s31 s32 s33 s34 s35 s36 s37 s38 s39 s40 s41 s42 s43 s44 s45 s46 s47 s48 s49 s50 s51 s52 s53 s54 s55 s56 s57 s58 s59 s60 s61 s62 s63 s64 s65 s66 s67 s68 s69 s70 s71 s72 s73 s74 s75 s76 s77 s78 s79 s80 s81 s82 s83 s84 s85 s86 s87 s88 s89 s90 s91 s92 s93 s94 s95 s96 s97 s98 s99 s100 s101 s102 s103 s104 s105 s106 s107 s108 s109 s110 s111 s112 s113 s114 s115 s116 s117 s118 s119 s120 s121 s122 s123 s124 s125 s126 s127 s128 s129 s130 s131 s132 s133 s134 s135 s136 s137 s138 s139 s140 s141 s142 s143 s144 s145 s146 s147 s148 s149 s150 s151 s152 s153 s154 s155 s156 s157 s158 s159 s160 s161 s162 s163 s164 s165 s166 s167 s168 s169 s170 s171 s172 s173 s174 s175 s176 s177 s178 s179 s180 s181 s182 s183 s184 s185 s186 s187 s188 s189 s190 s191 s192 s193 s194 s195 s196 s197 s198 s199 s200 s201 s202 s203 s204 s205 s206 s207 s208 s209 s210 s211 s212 s213 s214 s215 s216 s217 s218 s219 s220 s221 s222 s223 s224 s225 s226 s227 s228 s229 s230 s231 s232 s233 s234 s235 s236 s237 s238 s239 s240 s241 s242 s243 s244 s245 s246 s247 s248 s249 s250 s251 s252 s253 s254 s255 s256 s257 s258 s259 s260 s261 s262 s263 s264 s265 s266 s267 s268 s269 s270 s271 s272 s273 s274 s275 s276 s277 s278 s279 s280 s281 s282 s283 s284 s285 s286 s287 s288 s289 s290 s291 s292 s293 s294 s295 s296 s297 s298 s299 s300 s301 s302 s303 s304 s305 s306 s307 s308 s309 s310 s311 s312 s313 s314 s315 s316 s317 s318 s319 s320 s321 s322 s323 s324 s325 s326 s327 s328 s329 s330 s331 s332 s333 s334 s335 s336 s337 s338 s339 s340 s341 s342 s343 s344 s345 s346 s347 s348 s349 s350 s351 s352 s353 s354 s355 s356 s357 s358 s359 s360 s361 s362 s363 s364 s365 s366 s367 s368 s369 s370 s371 s372 s373 s374 s375 s376 s377 s378 s379 s380 s381 s382 s383 s384 s385 s386 s387 s388 s389 s390 s391 s392 s393 s394 s395 s396 s397 s398 s399 s400 : Value)
    {K : Act → World → Prop} {Q' : Exit → Act → World → Prop}
    (h12 : W.heap[p12]? = some (.cells #[.int .i32 nl] 36 (0, 0))) (h13 : W.heap[p13]? = some (.cells #[.int .u32 0, .int .u32 j] 30 (0, 0))) (h19 : W.heap[p19]? = some (.cells #[x19, y19] 58 (0, 0)))
    (hd : p19 ≠ p12 ∧ p19 ≠ p13)
    (hK : ∀ (u289 u290 u291 u292 u293 u294 u295 u296 u297 u298 u299 u300 u301 u302 u303 u304 u305 u306 u307 u308 u309 u310 u311 : Value) (W' : World), ArgMid W W' p19 j nl false → K ⟨(List.toArray (.pointer (some ⟨b, 0, none⟩) :: s1 :: s2 :: .bool ex :: s4 :: s5 :: s6 :: s7 :: s8 :: s9 :: s10 :: s11 :: .pointer (some ⟨p12, 0, none⟩) :: .pointer (some ⟨p13, 0, none⟩) :: s14 :: s15 :: s16 :: s17 :: s18 :: .pointer (some ⟨p19, 0, none⟩) :: s20 :: s21 :: s22 :: s23 :: s24 :: s25 :: s26 :: s27 :: s28 :: s29 :: s30 :: s31 :: s32 :: s33 :: s34 :: s35 :: s36 :: s37 :: s38 :: s39 :: s40 :: s41 :: s42 :: s43 :: s44 :: s45 :: s46 :: s47 :: s48 :: s49 :: s50 :: s51 :: s52 :: s53 :: s54 :: s55 :: s56 :: s57 :: s58 :: s59 :: s60 :: s61 :: s62 :: s63 :: s64 :: s65 :: s66 :: s67 :: s68 :: s69 :: s70 :: s71 :: s72 :: s73 :: s74 :: s75 :: s76 :: s77 :: s78 :: s79 :: s80 :: s81 :: s82 :: s83 :: s84 :: s85 :: s86 :: s87 :: s88 :: s89 :: s90 :: s91 :: s92 :: s93 :: s94 :: s95 :: s96 :: s97 :: s98 :: s99 :: s100 :: s101 :: s102 :: s103 :: s104 :: s105 :: s106 :: s107 :: s108 :: s109 :: s110 :: s111 :: s112 :: s113 :: s114 :: s115 :: s116 :: s117 :: s118 :: s119 :: s120 :: s121 :: s122 :: s123 :: s124 :: s125 :: s126 :: s127 :: s128 :: s129 :: s130 :: s131 :: s132 :: s133 :: s134 :: s135 :: s136 :: s137 :: s138 :: s139 :: s140 :: s141 :: s142 :: s143 :: s144 :: s145 :: s146 :: s147 :: s148 :: s149 :: s150 :: s151 :: s152 :: s153 :: s154 :: s155 :: s156 :: s157 :: s158 :: s159 :: s160 :: s161 :: s162 :: s163 :: s164 :: s165 :: s166 :: s167 :: s168 :: s169 :: s170 :: s171 :: s172 :: s173 :: s174 :: s175 :: s176 :: s177 :: s178 :: s179 :: s180 :: s181 :: s182 :: s183 :: s184 :: s185 :: s186 :: s187 :: s188 :: s189 :: s190 :: s191 :: s192 :: s193 :: s194 :: s195 :: s196 :: s197 :: s198 :: s199 :: s200 :: s201 :: s202 :: s203 :: s204 :: s205 :: s206 :: s207 :: s208 :: s209 :: s210 :: s211 :: s212 :: s213 :: s214 :: s215 :: s216 :: s217 :: s218 :: s219 :: s220 :: s221 :: s222 :: s223 :: s224 :: s225 :: s226 :: s227 :: s228 :: s229 :: s230 :: s231 :: s232 :: s233 :: s234 :: s235 :: s236 :: s237 :: s238 :: s239 :: s240 :: s241 :: s242 :: s243 :: s244 :: s245 :: s246 :: s247 :: s248 :: s249 :: s250 :: s251 :: s252 :: s253 :: s254 :: s255 :: s256 :: s257 :: s258 :: s259 :: s260 :: s261 :: s262 :: s263 :: s264 :: s265 :: s266 :: s267 :: s268 :: s269 :: s270 :: s271 :: s272 :: s273 :: s274 :: s275 :: s276 :: s277 :: s278 :: s279 :: s280 :: s281 :: s282 :: s283 :: s284 :: s285 :: s286 :: s287 :: s288 :: u289 :: u290 :: u291 :: u292 :: u293 :: u294 :: u295 :: u296 :: u297 :: u298 :: u299 :: u300 :: u301 :: u302 :: u303 :: u304 :: u305 :: u306 :: u307 :: u308 :: u309 :: u310 :: u311 :: s312 :: s313 :: s314 :: s315 :: s316 :: s317 :: s318 :: s319 :: s320 :: s321 :: s322 :: s323 :: s324 :: s325 :: s326 :: s327 :: s328 :: s329 :: s330 :: s331 :: s332 :: s333 :: s334 :: s335 :: s336 :: s337 :: s338 :: s339 :: s340 :: s341 :: s342 :: s343 :: s344 :: s345 :: s346 :: s347 :: s348 :: s349 :: s350 :: s351 :: s352 :: s353 :: s354 :: s355 :: s356 :: s357 :: s358 :: s359 :: s360 :: s361 :: s362 :: s363 :: s364 :: s365 :: s366 :: s367 :: s368 :: s369 :: s370 :: s371 :: s372 :: s373 :: s374 :: s375 :: s376 :: s377 :: s378 :: s379 :: s380 :: s381 :: s382 :: s383 :: s384 :: s385 :: s386 :: s387 :: s388 :: s389 :: s390 :: s391 :: s392 :: s393 :: s394 :: s395 :: s396 :: s397 :: s398 :: s399 :: s400 :: [])), []⟩ W') :
    genArg25.wp Tryz.prog (Exit.then K Q') ⟨(List.toArray (.pointer (some ⟨b, 0, none⟩) :: s1 :: s2 :: .bool ex :: s4 :: s5 :: s6 :: s7 :: s8 :: s9 :: s10 :: s11 :: .pointer (some ⟨p12, 0, none⟩) :: .pointer (some ⟨p13, 0, none⟩) :: s14 :: s15 :: s16 :: s17 :: s18 :: .pointer (some ⟨p19, 0, none⟩) :: s20 :: s21 :: s22 :: s23 :: s24 :: s25 :: s26 :: s27 :: s28 :: s29 :: s30 :: s31 :: s32 :: s33 :: s34 :: s35 :: s36 :: s37 :: s38 :: s39 :: s40 :: s41 :: s42 :: s43 :: s44 :: s45 :: s46 :: s47 :: s48 :: s49 :: s50 :: s51 :: s52 :: s53 :: s54 :: s55 :: s56 :: s57 :: s58 :: s59 :: s60 :: s61 :: s62 :: s63 :: s64 :: s65 :: s66 :: s67 :: s68 :: s69 :: s70 :: s71 :: s72 :: s73 :: s74 :: s75 :: s76 :: s77 :: s78 :: s79 :: s80 :: s81 :: s82 :: s83 :: s84 :: s85 :: s86 :: s87 :: s88 :: s89 :: s90 :: s91 :: s92 :: s93 :: s94 :: s95 :: s96 :: s97 :: s98 :: s99 :: s100 :: s101 :: s102 :: s103 :: s104 :: s105 :: s106 :: s107 :: s108 :: s109 :: s110 :: s111 :: s112 :: s113 :: s114 :: s115 :: s116 :: s117 :: s118 :: s119 :: s120 :: s121 :: s122 :: s123 :: s124 :: s125 :: s126 :: s127 :: s128 :: s129 :: s130 :: s131 :: s132 :: s133 :: s134 :: s135 :: s136 :: s137 :: s138 :: s139 :: s140 :: s141 :: s142 :: s143 :: s144 :: s145 :: s146 :: s147 :: s148 :: s149 :: s150 :: s151 :: s152 :: s153 :: s154 :: s155 :: s156 :: s157 :: s158 :: s159 :: s160 :: s161 :: s162 :: s163 :: s164 :: s165 :: s166 :: s167 :: s168 :: s169 :: s170 :: s171 :: s172 :: s173 :: s174 :: s175 :: s176 :: s177 :: s178 :: s179 :: s180 :: s181 :: s182 :: s183 :: s184 :: s185 :: s186 :: s187 :: s188 :: s189 :: s190 :: s191 :: s192 :: s193 :: s194 :: s195 :: s196 :: s197 :: s198 :: s199 :: s200 :: s201 :: s202 :: s203 :: s204 :: s205 :: s206 :: s207 :: s208 :: s209 :: s210 :: s211 :: s212 :: s213 :: s214 :: s215 :: s216 :: s217 :: s218 :: s219 :: s220 :: s221 :: s222 :: s223 :: s224 :: s225 :: s226 :: s227 :: s228 :: s229 :: s230 :: s231 :: s232 :: s233 :: s234 :: s235 :: s236 :: s237 :: s238 :: s239 :: s240 :: s241 :: s242 :: s243 :: s244 :: s245 :: s246 :: s247 :: s248 :: s249 :: s250 :: s251 :: s252 :: s253 :: s254 :: s255 :: s256 :: s257 :: s258 :: s259 :: s260 :: s261 :: s262 :: s263 :: s264 :: s265 :: s266 :: s267 :: s268 :: s269 :: s270 :: s271 :: s272 :: s273 :: s274 :: s275 :: s276 :: s277 :: s278 :: s279 :: s280 :: s281 :: s282 :: s283 :: s284 :: s285 :: s286 :: s287 :: s288 :: s289 :: s290 :: s291 :: s292 :: s293 :: s294 :: s295 :: s296 :: s297 :: s298 :: s299 :: s300 :: s301 :: s302 :: s303 :: s304 :: s305 :: s306 :: s307 :: s308 :: s309 :: s310 :: s311 :: s312 :: s313 :: s314 :: s315 :: s316 :: s317 :: s318 :: s319 :: s320 :: s321 :: s322 :: s323 :: s324 :: s325 :: s326 :: s327 :: s328 :: s329 :: s330 :: s331 :: s332 :: s333 :: s334 :: s335 :: s336 :: s337 :: s338 :: s339 :: s340 :: s341 :: s342 :: s343 :: s344 :: s345 :: s346 :: s347 :: s348 :: s349 :: s350 :: s351 :: s352 :: s353 :: s354 :: s355 :: s356 :: s357 :: s358 :: s359 :: s360 :: s361 :: s362 :: s363 :: s364 :: s365 :: s366 :: s367 :: s368 :: s369 :: s370 :: s371 :: s372 :: s373 :: s374 :: s375 :: s376 :: s377 :: s378 :: s379 :: s380 :: s381 :: s382 :: s383 :: s384 :: s385 :: s386 :: s387 :: s388 :: s389 :: s390 :: s391 :: s392 :: s393 :: s394 :: s395 :: s396 :: s397 :: s398 :: s399 :: s400 :: [])), []⟩ W := by
  have HK := Lib.hid hK
  clear hK
  have H12 := Lib.hid h12
  have H13 := Lib.hid h13
  have H19 := Lib.hid h19
  have HD := Lib.hid hd
  clear h12 h13 h19 hd
  conv => arg 2; whnf
  go_cut [] from 289 to 311 (fun wx => ArgMid W wx p19 j nl false)
  case rest => exact HK.out _ _ _ _ _ _ _ _ _ _ _ _ _ _ _ _ _ _ _ _ _ _ _ _ hcut
  case first =>
    have y0 : W.cell? ⟨p12, 0, none⟩ = some (.int .i32 nl) := (blk_cell H12.out 0).trans rfl
    have x0 : W.cell? ⟨p13, 0, none⟩ = some (.int .u32 0) := (blk_cell H13.out 0).trans rfl
    have x1 : W.cell? ⟨p13, 1, none⟩ = some (.int .u32 j) := (blk_cell H13.out 1).trans rfl
    have z0 : W.cell? ⟨p19, 0, none⟩ = some x19 := (blk_cell H19.out 0).trans rfl
    have z1 : W.cell? ⟨p19, 1, none⟩ = some y19 := (blk_cell H19.out 1).trans rfl
    have zf0 : W.frozen? ⟨p19, 0, none⟩ = false := blk_free H19.out 0
    have zf1 : W.frozen? ⟨p19, 1, none⟩ = false := blk_free H19.out 1
    have l12 := blk_lt H12.out
    have l13 := blk_lt H13.out
    have l19 := blk_lt H19.out
    have l12_1 : p12 < W.heap.size + 1 := by omega
    have l12_2 : p12 < W.heap.size + 1 + 1 := by omega
    have l12_3 : p12 < W.heap.size + 1 + 1 + 1 := by omega
    have l12_4 : p12 < W.heap.size + 1 + 1 + 1 + 1 := by omega
    have l12_5 : p12 < W.heap.size + 1 + 1 + 1 + 1 + 1 := by omega
    have l12_6 : p12 < W.heap.size + 1 + 1 + 1 + 1 + 1 + 1 := by omega
    have l12_7 : p12 < W.heap.size + 1 + 1 + 1 + 1 + 1 + 1 + 1 := by omega
    have l12_8 : p12 < W.heap.size + 1 + 1 + 1 + 1 + 1 + 1 + 1 + 1 := by omega
    have l13_1 : p13 < W.heap.size + 1 := by omega
    have l13_2 : p13 < W.heap.size + 1 + 1 := by omega
    have l13_3 : p13 < W.heap.size + 1 + 1 + 1 := by omega
    have l13_4 : p13 < W.heap.size + 1 + 1 + 1 + 1 := by omega
    have l13_5 : p13 < W.heap.size + 1 + 1 + 1 + 1 + 1 := by omega
    have l13_6 : p13 < W.heap.size + 1 + 1 + 1 + 1 + 1 + 1 := by omega
    have l13_7 : p13 < W.heap.size + 1 + 1 + 1 + 1 + 1 + 1 + 1 := by omega
    have l13_8 : p13 < W.heap.size + 1 + 1 + 1 + 1 + 1 + 1 + 1 + 1 := by omega
    have l19_1 : p19 < W.heap.size + 1 := by omega
    have l19_2 : p19 < W.heap.size + 1 + 1 := by omega
    have l19_3 : p19 < W.heap.size + 1 + 1 + 1 := by omega
    have l19_4 : p19 < W.heap.size + 1 + 1 + 1 + 1 := by omega
    have l19_5 : p19 < W.heap.size + 1 + 1 + 1 + 1 + 1 := by omega
    have l19_6 : p19 < W.heap.size + 1 + 1 + 1 + 1 + 1 + 1 := by omega
    have l19_7 : p19 < W.heap.size + 1 + 1 + 1 + 1 + 1 + 1 + 1 := by omega
    have l19_8 : p19 < W.heap.size + 1 + 1 + 1 + 1 + 1 + 1 + 1 + 1 := by omega
    go_region_held3 (fun w' => w'.cell? ⟨p12, 0, none⟩ = some (.int .i32 nl) ∧ w'.cell? ⟨p13, 0, none⟩ = some (.int .u32 0) ∧ w'.cell? ⟨p13, 1, none⟩ = some (.int .u32 j)) (refine ⟨?_, ?_, ?_⟩ <;> repeat (first | (with_reducible refine cell_drew ?_) | (with_reducible refine cell_new _ ?_) | (with_reducible refine cell_set _ _ ?_ (by first | exact HD.out.1 | exact HD.out.2)) | with_reducible assumption)) (first | (go_at_call 41; refine (assign_any _ _ _ _ _).mono ?_; rintro e w' ⟨rfl, rfl⟩))
    all_goals go_wp2_with fail
    all_goals go_meet
    all_goals clear y0 x0 x1 z0 z1 zf0 zf1
    all_goals
      refine ⟨?_, ?_, ?_, ?_⟩
      · repeat (first | (with_reducible exact Grew.refl _ _) | (with_reducible refine Grew.drew ?_) | (with_reducible refine Grew.alloc ?_ _) | refine Grew.setCell (S := fun k => k = p19) (p := ⟨p19, _, none⟩) ?_ (.inl rfl) _)
      rotate_left
      · repeat (first | (with_reducible refine blk_drew ?_) | (with_reducible refine blk_alloc ?_ _) | exact blk_set (blk_set H19.out 0 _) 1 _)
      apply ArgIs.mk_false
      · repeat (first | (with_reducible refine blk_drew ?_) | ((with_reducible refine blk_at _ _ _ ?_); simp; done) | (with_reducible refine blk_alloc ?_ _))
      · repeat (first | (with_reducible refine blk_drew ?_) | ((with_reducible refine blk_at _ _ _ ?_); simp; done) | (with_reducible refine blk_alloc ?_ _))
      · repeat (first | (with_reducible refine blk_drew ?_) | ((with_reducible refine blk_at _ _ _ ?_); simp; done) | (with_reducible refine blk_alloc ?_ _))
      · repeat (first | (with_reducible refine blk_drew ?_) | ((with_reducible refine blk_at _ _ _ ?_); simp; done) | (with_reducible refine blk_alloc ?_ _))
      · repeat (first | (with_reducible refine blk_drew ?_) | ((with_reducible refine blk_at _ _ _ ?_); simp; done) | (with_reducible refine blk_alloc ?_ _))
      · simp; omega
end Go.Proofs.YtnikgjgjmpoglaaGreatFmt
