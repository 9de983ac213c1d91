/-
  The closure itself: a function, or an arrow that prefers an expression (the branch of generateClosureForTypeScriptNamespaceOrEnum that lays targetExpr). Conditions: as listed.
-/
import Derived.Test.YtnikgjgjmpoglaaGreatFmtH1
import Derived.Deep.DeepCutAuto
import Derived.Deep.CutRange
namespace Go.Proofs.YtnikgjgjmpoglaaGreatFmt
open Go Go.RowKit
set_option maxRecDepth 100000

abbrev efun (args stmts : Value) (sl : Int) : Obj := .cells #[.pointer none, args, stmts, .int .i32 0, .int .i32 sl, .int .u32 0, .int .u32 0, .int .i32 0, .bool false, .bool false, .bool false, .bool false, .bool false, .bool false, .bool false] 268
abbrev earrow (args stmts : Value) (sl : Int) : Obj := .cells #[args, stmts, .int .i32 0, .int .i32 sl, .bool false, .bool false, .bool true, .bool false, .bool false] 271

def TgtIs (lo : Nat) (W : World) (sl : Int) (na : Bool) (args stmts : Value) (e : Value) : Prop :=
  ∃ q, lo ≤ q ∧ ((na = true ∧ e = .iface 259 (ptr q) ∧ W.heap[q]? = some (efun args stmts sl)) ∨ (na = false ∧ e = .iface 269 (ptr q) ∧ W.heap[q]? = some (earrow args stmts sl)))

theorem TgtIs.mk_fun {lo : Nat} {W : World} {sl : Int} {args stmts : Value} (q : Nat) (h : W.heap[q]? = some (efun args stmts sl)) (hl : lo ≤ q) : TgtIs lo W sl true args stmts (.iface 259 (.pointer (some ⟨q, 0, none⟩))) := ⟨q, hl, .inl ⟨rfl, rfl, h⟩⟩
theorem TgtIs.mk_arrow {lo : Nat} {W : World} {sl : Int} {args stmts : Value} (q : Nat) (h : W.heap[q]? = some (earrow args stmts sl)) (hl : lo ≤ q) : TgtIs lo W sl false args stmts (.iface 269 (.pointer (some ⟨q, 0, none⟩))) := ⟨q, hl, .inr ⟨rfl, rfl, h⟩⟩
theorem TgtIs.grew {S : Nat → Prop} {lo : Nat} {W W' : World} {sl : Int} {na : Bool} {args stmts e : Value} (h : TgtIs lo W sl na args stmts e) (hg : Grew S W W') (hs : ∀ k, S k → k < lo) : TgtIs lo W' sl na args stmts e := by
  have hn : ∀ {k : Nat}, lo ≤ k → ¬ S k := fun hk hS => by have := hs _ hS; omega
  obtain ⟨q, h1, h2⟩ := h
  refine ⟨q, h1, ?_⟩
  rcases h2 with ⟨h2, h3, h4⟩ | ⟨h2, h3, h4⟩
  · exact .inl ⟨h2, h3, hg.obj h4 (hn h1)⟩
  · exact .inr ⟨h2, h3, hg.obj h4 (hn h1)⟩

/-- Is the body's one expression statement turned into a return? -/
def rets (mf na : Bool) (m : Nat) : Bool := mf && !na && m == 1

def TgtPost (W W' : World) (p21 m : Nat) (sl : Int) (mf na : Bool) (s22 v7 : Value) (ys : List Value) : Prop :=
  Grew (fun k => k = p21 ∨ v7.ownBlock = some k) W W' ∧ (∃ e, W'.heap[p21]? = some (.cells #[e, .int .i32 sl] 58 (0, 0)) ∧ TgtIs W.heap.size W' sl na s22 v7 e) ∧
    ∃ ys', W'.ownsRow 0 45 2 v7 m ys' ∧ (rets mf na m = false → ys' = ys) ∧ (rets mf na m = true → ∃ qr, ys' = ys.set 0 (.iface 224 (ptr qr)))

theorem TgtPost.mk {W W1 W' : World} {p21 m : Nat} {sl : Int} {mf na : Bool} {s22 v7 e : Value} {ys ys' : List Value} (g1 : Grew (fun k => v7.ownBlock = some k) W W1) (g2 : Grew (fun k => k = p21) W1 W')
    (he : W'.heap[p21]? = some (.cells #[e, .int .i32 sl] 58 (0, 0))) (ht : TgtIs W.heap.size W' sl na s22 v7 e) (ho : W1.ownsRow 0 45 2 v7 m ys') (hp : v7.ownBlock ≠ some p21)
    (h1 : rets mf na m = false → ys' = ys) (h2 : rets mf na m = true → ∃ qr, ys' = ys.set 0 (.iface 224 (ptr qr))) : TgtPost W W' p21 m sl mf na s22 v7 ys :=
  ⟨Grew.trans (g1.mono fun _ _ h => .inr h) (g2.mono fun _ _ h => .inl h), ⟨e, he, ht⟩, ys', owns_same ho (fun k hk => g2.block k (ho.lt k hk).2 (fun h => hp (h ▸ hk))), h1, h2⟩

theorem TgtPost.arrow {W W1 : World} {p21 m : Nat} {sl : Int} {mf : Bool} {s22 v7 x y : Value} {ys ys' : List Value} (g1 : Grew (fun k => v7.ownBlock = some k) W W1) (h21 : W1.heap[p21]? = some (.cells #[x, y] 58 (0, 0)))
    (ho : W1.ownsRow 0 45 2 v7 m ys') (hp : v7.ownBlock ≠ some p21) (h1 : rets mf false m = false → ys' = ys) (h2 : rets mf false m = true → ∃ qr, ys' = ys.set 0 (.iface 224 (ptr qr))) :
    TgtPost W (((W1.setCell ⟨p21, 0, none⟩ (.iface 269 (.pointer (some ⟨W1.heap.size, 0, none⟩)))).setCell ⟨p21, 1, none⟩ (.int .i32 sl)).alloc (earrow s22 v7 sl)) p21 m sl mf false s22 v7 ys :=
  TgtPost.mk g1 (Grew.alloc (Grew.setCell (S := fun k => k = p21) (p := ⟨p21, _, none⟩) (Grew.setCell (S := fun k => k = p21) (p := ⟨p21, _, none⟩) (Grew.refl _ _) (.inl rfl) _) (.inl rfl) _) _)
    (blk_alloc (blk_set (blk_set h21 0 _) 1 _) _) (TgtIs.mk_arrow _ (blk_at _ _ _ (by simp)) g1.size) ho hp h1 h2

theorem TgtPost.func {W W1 : World} {p21 m : Nat} {sl : Int} {mf : Bool} {s22 v7 x y : Value} {ys ys' : List Value} (g1 : Grew (fun k => v7.ownBlock = some k) W W1) (h21 : W1.heap[p21]? = some (.cells #[x, y] 58 (0, 0)))
    (ho : W1.ownsRow 0 45 2 v7 m ys') (hp : v7.ownBlock ≠ some p21) (h1 : rets mf true m = false → ys' = ys) (h2 : rets mf true m = true → ∃ qr, ys' = ys.set 0 (.iface 224 (ptr qr))) :
    TgtPost W (((W1.setCell ⟨p21, 0, none⟩ (.iface 259 (.pointer (some ⟨W1.heap.size, 0, none⟩)))).setCell ⟨p21, 1, none⟩ (.int .i32 sl)).alloc (efun s22 v7 sl)) p21 m sl mf true s22 v7 ys :=
  TgtPost.mk g1 (Grew.alloc (Grew.setCell (S := fun k => k = p21) (p := ⟨p21, _, none⟩) (Grew.setCell (S := fun k => k = p21) (p := ⟨p21, _, none⟩) (Grew.refl _ _) (.inl rfl) _) (.inl rfl) _) _)
    (blk_alloc (blk_set (blk_set h21 0 _) 1 _) _) (TgtIs.mk_fun _ (blk_at _ _ _ (by simp)) g1.size) ho hp h1 h2

theorem ta_199 (v : Value) (w : World) : (Instr.typeAssert (.iface 199 v) 43 199 true).run Tryz.prog w = .ok (.tuple #[v, .bool true]) w := by kernel_rfl

set_option maxHeartbeats 4000000 in
theorem tgtArm (b bs bm n cap cs ms p10 p21 qa m : Nat) (pc : Array Value) (mf na : Bool) (f sl : Int) (x21 y21 v7 : Value) (ys : List Value) (W : World) (s1 s2 s3 s4 s5 s6 s8 s9 s11 s12 s13 s14 s15 s16 s17 s18 s19 s20 s23 s24 s25 s26 s27 s28 s29 s30 s31 s32 s33 s34 s35 s36 s37 s38 s39 s40 s41 s42 s43 s44 s45 s46 s47 s48 s49 s50 s51 s52 s53 s54 s55 s56 s57 s58 s59 s60 s61 s62 s63 s64 s65 s66 s67 s68 s69 s70 s71 s72 s73 s74 s75 s76 s77 s78 s79 s80 s81 s82 s83 s84 s85 s86 s87 s88 s89 s90 s91 s92 s93 s94 s95 s96 s97 s98 s99 s100 s101 s102 s103 s104 s105 s106 s107 s108 s109 s110 s111 s112 s113 s114 s115 s116 s117 s118 s119 s120 s121 s122 s123 s124 s125 s126 s127 s128 s129 s130 s131 s132 s133 s134 s135 s136 s137 s138 s139 s140 s141 s142 s143 s144 s145 s146 s147 s148 s149 s150 s151 s152 s153 s154 s155 s156 s157 s158 s159 s160 s161 s162 s163 s164 s165 s166 s167 s168 s169 s170 s171 s172 s173 s174 s175 s176 s177 s178 s179 s180 s181 s182 s183 s184 s185 s186 s187 s188 s189 s190 s191 s192 s193 s194 s195 s196 s197 s198 s199 s200 s201 s202 s203 s204 s205 s206 s207 s208 s209 s210 s211 s212 s213 s214 s215 s216 s217 s218 s219 s220 s221 s222 s223 s224 s225 s226 s227 s228 s229 s230 s231 s232 s233 s234 s235 s236 s237 s238 s239 s240 s241 s242 s243 s244 s245 s246 s247 s248 s249 s250 s251 s252 s253 s254 s255 s256 s257 s258 s259 s260 s261 s262 s263 s264 s265 s266 s267 s268 s269 s270 s271 s272 s273 s274 s275 s276 s277 s278 s279 s280 s281 s282 s283 s284 s285 s286 s287 s288 s289 s290 s291 s292 s293 s294 s295 s296 s297 s298 s299 s300 s301 s302 s303 s304 s305 s306 s307 s308 s309 s310 s311 s312 s313 s314 s315 s316 s317 s318 s319 s320 s321 s322 s323 s324 s325 s326 s327 s328 s329 s330 s331 s333 s334 s335 s336 s337 s338 s339 s340 s341 s342 s343 s344 s345 s346 s347 s348 s349 s350 s351 s352 s353 s354 s355 s356 s357 s358 s359 s360 s361 s362 s363 s364 s365 s366 s367 s368 s369 s370 s371 s372 s373 s374 s375 s376 s377 s378 s379 s380 s381 s382 s383 s384 s385 s386 s387 s388 s389 s390 s391 s392 s393 s394 s395 s396 s397 s398 s399 s400 : Value)
    {K : Act → World → Prop} {Q' : Exit → Act → World → Prop}
    (P : PFacts W b pc bs n cap bm mf f cs ms)
    (h10 : W.heap[p10]? = some (.cells #[.int .i32 sl] 36 (0, 0))) (h21 : W.heap[p21]? = some (.cells #[x21, y21] 58 (0, 0)))
    (hv7 : W.ownsRow 0 45 2 v7 m ys) (hm : m ≤ 4096)
    (h1 : mf = true → na = false → m = 1 → ∃ q t z l, ys[0]? = some (.iface 199 (.pointer (some ⟨q, 0, none⟩))) ∧ W.heap[q]? = some (.cells #[.iface t z, .int .i32 l, .bool false] 206 (0, 0)))
    (hd : p21 ≠ b ∧ p21 ≠ p10 ∧ v7.ownBlock ≠ some p21 ∧ v7.ownBlock ≠ some p10)
    (hK : ∀ (u23 u24 u333 u334 u335 u336 u337 u338 u339 u340 u341 u342 u343 u344 u345 u346 u347 u348 u349 u350 u351 u352 u353 u354 u355 u356 u357 u358 u359 u360 u361 u362 u363 u364 u365 u366 u367 u368 u369 u370 u371 u372 u373 u374 u375 u376 u377 u378 u379 u380 u381 u382 u383 : Value) (W' : World), TgtPost W W' p21 m sl mf na (.slice (some ⟨qa, 0, none⟩) 1 1) v7 ys → K ⟨(List.toArray (.pointer (some ⟨b, 0, none⟩) :: s1 :: s2 :: s3 :: s4 :: s5 :: s6 :: v7 :: s8 :: s9 :: .pointer (some ⟨p10, 0, none⟩) :: s11 :: s12 :: s13 :: s14 :: s15 :: s16 :: s17 :: s18 :: s19 :: s20 :: .pointer (some ⟨p21, 0, none⟩) :: .slice (some ⟨qa, 0, none⟩) 1 1 :: u23 :: u24 :: s25 :: s26 :: s27 :: s28 :: s29 :: s30 :: s31 :: s32 :: s33 :: s34 :: s35 :: s36 :: s37 :: s38 :: s39 :: s40 :: s41 :: s42 :: s43 :: s44 :: s45 :: s46 :: s47 :: s48 :: s49 :: s50 :: s51 :: s52 :: s53 :: s54 :: s55 :: s56 :: s57 :: s58 :: s59 :: s60 :: s61 :: s62 :: s63 :: s64 :: s65 :: s66 :: s67 :: s68 :: s69 :: s70 :: s71 :: s72 :: s73 :: s74 :: s75 :: s76 :: s77 :: s78 :: s79 :: s80 :: s81 :: s82 :: s83 :: s84 :: s85 :: s86 :: s87 :: s88 :: s89 :: s90 :: s91 :: s92 :: s93 :: s94 :: s95 :: s96 :: s97 :: s98 :: s99 :: s100 :: s101 :: s102 :: s103 :: s104 :: s105 :: s106 :: s107 :: s108 :: s109 :: s110 :: s111 :: s112 :: s113 :: s114 :: s115 :: s116 :: s117 :: s118 :: s119 :: s120 :: s121 :: s122 :: s123 :: s124 :: s125 :: s126 :: s127 :: s128 :: s129 :: s130 :: s131 :: s132 :: s133 :: s134 :: s135 :: s136 :: s137 :: s138 :: s139 :: s140 :: s141 :: s142 :: s143 :: s144 :: s145 :: s146 :: s147 :: s148 :: s149 :: s150 :: s151 :: s152 :: s153 :: s154 :: s155 :: s156 :: s157 :: s158 :: s159 :: s160 :: s161 :: s162 :: s163 :: s164 :: s165 :: s166 :: s167 :: s168 :: s169 :: s170 :: s171 :: s172 :: s173 :: s174 :: s175 :: s176 :: s177 :: s178 :: s179 :: s180 :: s181 :: s182 :: s183 :: s184 :: s185 :: s186 :: s187 :: s188 :: s189 :: s190 :: s191 :: s192 :: s193 :: s194 :: s195 :: s196 :: s197 :: s198 :: s199 :: s200 :: s201 :: s202 :: s203 :: s204 :: s205 :: s206 :: s207 :: s208 :: s209 :: s210 :: s211 :: s212 :: s213 :: s214 :: s215 :: s216 :: s217 :: s218 :: s219 :: s220 :: s221 :: s222 :: s223 :: s224 :: s225 :: s226 :: s227 :: s228 :: s229 :: s230 :: s231 :: s232 :: s233 :: s234 :: s235 :: s236 :: s237 :: s238 :: s239 :: s240 :: s241 :: s242 :: s243 :: s244 :: s245 :: s246 :: s247 :: s248 :: s249 :: s250 :: s251 :: s252 :: s253 :: s254 :: s255 :: s256 :: s257 :: s258 :: s259 :: s260 :: s261 :: s262 :: s263 :: s264 :: s265 :: s266 :: s267 :: s268 :: s269 :: s270 :: s271 :: s272 :: s273 :: s274 :: s275 :: s276 :: s277 :: s278 :: s279 :: s280 :: s281 :: s282 :: s283 :: s284 :: s285 :: s286 :: s287 :: s288 :: s289 :: s290 :: s291 :: s292 :: s293 :: s294 :: s295 :: s296 :: s297 :: s298 :: s299 :: s300 :: s301 :: s302 :: s303 :: s304 :: s305 :: s306 :: s307 :: s308 :: s309 :: s310 :: s311 :: s312 :: s313 :: s314 :: s315 :: s316 :: s317 :: s318 :: s319 :: s320 :: s321 :: s322 :: s323 :: s324 :: s325 :: s326 :: s327 :: s328 :: s329 :: s330 :: s331 :: .bool na :: u333 :: u334 :: u335 :: u336 :: u337 :: u338 :: u339 :: u340 :: u341 :: u342 :: u343 :: u344 :: u345 :: u346 :: u347 :: u348 :: u349 :: u350 :: u351 :: u352 :: u353 :: u354 :: u355 :: u356 :: u357 :: u358 :: u359 :: u360 :: u361 :: u362 :: u363 :: u364 :: u365 :: u366 :: u367 :: u368 :: u369 :: u370 :: u371 :: u372 :: u373 :: u374 :: u375 :: u376 :: u377 :: u378 :: u379 :: u380 :: u381 :: u382 :: u383 :: s384 :: s385 :: s386 :: s387 :: s388 :: s389 :: s390 :: s391 :: s392 :: s393 :: s394 :: s395 :: s396 :: s397 :: s398 :: s399 :: s400 :: [])), []⟩ W') :
    genTgt.wp Tryz.prog (Exit.then K Q') ⟨(List.toArray (.pointer (some ⟨b, 0, none⟩) :: s1 :: s2 :: s3 :: s4 :: s5 :: s6 :: v7 :: s8 :: s9 :: .pointer (some ⟨p10, 0, none⟩) :: s11 :: s12 :: s13 :: s14 :: s15 :: s16 :: s17 :: s18 :: s19 :: s20 :: .pointer (some ⟨p21, 0, none⟩) :: .slice (some ⟨qa, 0, none⟩) 1 1 :: s23 :: s24 :: s25 :: s26 :: s27 :: s28 :: s29 :: s30 :: s31 :: s32 :: s33 :: s34 :: s35 :: s36 :: s37 :: s38 :: s39 :: s40 :: s41 :: s42 :: s43 :: s44 :: s45 :: s46 :: s47 :: s48 :: s49 :: s50 :: s51 :: s52 :: s53 :: s54 :: s55 :: s56 :: s57 :: s58 :: s59 :: s60 :: s61 :: s62 :: s63 :: s64 :: s65 :: s66 :: s67 :: s68 :: s69 :: s70 :: s71 :: s72 :: s73 :: s74 :: s75 :: s76 :: s77 :: s78 :: s79 :: s80 :: s81 :: s82 :: s83 :: s84 :: s85 :: s86 :: s87 :: s88 :: s89 :: s90 :: s91 :: s92 :: s93 :: s94 :: s95 :: s96 :: s97 :: s98 :: s99 :: s100 :: s101 :: s102 :: s103 :: s104 :: s105 :: s106 :: s107 :: s108 :: s109 :: s110 :: s111 :: s112 :: s113 :: s114 :: s115 :: s116 :: s117 :: s118 :: s119 :: s120 :: s121 :: s122 :: s123 :: s124 :: s125 :: s126 :: s127 :: s128 :: s129 :: s130 :: s131 :: s132 :: s133 :: s134 :: s135 :: s136 :: s137 :: s138 :: s139 :: s140 :: s141 :: s142 :: s143 :: s144 :: s145 :: s146 :: s147 :: s148 :: s149 :: s150 :: s151 :: s152 :: s153 :: s154 :: s155 :: s156 :: s157 :: s158 :: s159 :: s160 :: s161 :: s162 :: s163 :: s164 :: s165 :: s166 :: s167 :: s168 :: s169 :: s170 :: s171 :: s172 :: s173 :: s174 :: s175 :: s176 :: s177 :: s178 :: s179 :: s180 :: s181 :: s182 :: s183 :: s184 :: s185 :: s186 :: s187 :: s188 :: s189 :: s190 :: s191 :: s192 :: s193 :: s194 :: s195 :: s196 :: s197 :: s198 :: s199 :: s200 :: s201 :: s202 :: s203 :: s204 :: s205 :: s206 :: s207 :: s208 :: s209 :: s210 :: s211 :: s212 :: s213 :: s214 :: s215 :: s216 :: s217 :: s218 :: s219 :: s220 :: s221 :: s222 :: s223 :: s224 :: s225 :: s226 :: s227 :: s228 :: s229 :: s230 :: s231 :: s232 :: s233 :: s234 :: s235 :: s236 :: s237 :: s238 :: s239 :: s240 :: s241 :: s242 :: s243 :: s244 :: s245 :: s246 :: s247 :: s248 :: s249 :: s250 :: s251 :: s252 :: s253 :: s254 :: s255 :: s256 :: s257 :: s258 :: s259 :: s260 :: s261 :: s262 :: s263 :: s264 :: s265 :: s266 :: s267 :: s268 :: s269 :: s270 :: s271 :: s272 :: s273 :: s274 :: s275 :: s276 :: s277 :: s278 :: s279 :: s280 :: s281 :: s282 :: s283 :: s284 :: s285 :: s286 :: s287 :: s288 :: s289 :: s290 :: s291 :: s292 :: s293 :: s294 :: s295 :: s296 :: s297 :: s298 :: s299 :: s300 :: s301 :: s302 :: s303 :: s304 :: s305 :: s306 :: s307 :: s308 :: s309 :: s310 :: s311 :: s312 :: s313 :: s314 :: s315 :: s316 :: s317 :: s318 :: s319 :: s320 :: s321 :: s322 :: s323 :: s324 :: s325 :: s326 :: s327 :: s328 :: s329 :: s330 :: s331 :: .bool na :: s333 :: s334 :: s335 :: s336 :: s337 :: s338 :: s339 :: s340 :: s341 :: s342 :: s343 :: s344 :: s345 :: s346 :: s347 :: s348 :: s349 :: s350 :: s351 :: s352 :: s353 :: s354 :: s355 :: s356 :: s357 :: s358 :: s359 :: s360 :: s361 :: s362 :: s363 :: s364 :: s365 :: s366 :: s367 :: s368 :: s369 :: s370 :: s371 :: s372 :: s373 :: s374 :: s375 :: s376 :: s377 :: s378 :: s379 :: s380 :: s381 :: s382 :: s383 :: s384 :: s385 :: s386 :: s387 :: s388 :: s389 :: s390 :: s391 :: s392 :: s393 :: s394 :: s395 :: s396 :: s397 :: s398 :: s399 :: s400 :: [])), []⟩ W := by
  have HK := Lib.hid hK
  clear hK
  have HP := Lib.hid P
  have H10 := Lib.hid h10
  have H21 := Lib.hid h21
  have HV := Lib.hid hv7
  have HD := Lib.hid hd
  have H1 := Lib.hid h1
  clear P h10 h21 hv7 hd h1
  obtain ⟨a7, cap7, rfl⟩ : ∃ a cap, v7 = .slice a m cap := by
    rcases HV.out.2 with ⟨rfl, h⟩ | ⟨g, cap, cur, rfl, _⟩
    · exact ⟨_, _, by rw [show m = 0 from h]⟩
    · exact ⟨_, _, rfl⟩
  conv => arg 2; whnf
  go_cut [] from 333 to 383 (fun wx => TgtPost W wx p21 m sl mf na (.slice (some ⟨qa, 0, none⟩) 1 1) (.slice a7 m cap7) ys)
  case rest => exact HK.out _ _ _ _ _ _ _ _ _ _ _ _ _ _ _ _ _ _ _ _ _ _ _ _ _ _ _ _ _ _ _ _ _ _ _ _ _ _ _ _ _ _ _ _ _ _ _ _ _ _ _ _ _ _ hcut
  case first =>
    have k41 : W.cell? ⟨b, 41, none⟩ = some (.bool mf) := (blk_cell HP.out.hp 41).trans HP.out.c41
    have y0 : W.cell? ⟨p10, 0, none⟩ = some (.int .i32 sl) := (blk_cell H10.out 0).trans rfl
    have z0 : W.cell? ⟨p21, 0, none⟩ = some x21 := (blk_cell H21.out 0).trans rfl
    have z1 : W.cell? ⟨p21, 1, none⟩ = some y21 := (blk_cell H21.out 1).trans rfl
    have zf0 : W.frozen? ⟨p21, 0, none⟩ = false := blk_free H21.out 0
    have zf1 : W.frozen? ⟨p21, 1, none⟩ = false := blk_free H21.out 1
    have lb := blk_lt HP.out.hp
    have l10 := blk_lt H10.out
    have l21 := blk_lt H21.out
    have l10_1 : p10 < W.heap.size + 1 := by omega
    have l10_2 : p10 < W.heap.size + 1 + 1 := by omega
    have l10_3 : p10 < W.heap.size + 1 + 1 + 1 := by omega
    have l10_4 : p10 < W.heap.size + 1 + 1 + 1 + 1 := by omega
    have l21_1 : p21 < W.heap.size + 1 := by omega
    have l21_2 : p21 < W.heap.size + 1 + 1 := by omega
    have l21_3 : p21 < W.heap.size + 1 + 1 + 1 := by omega
    have l21_4 : p21 < W.heap.size + 1 + 1 + 1 + 1 := by omega
    cases na
    · cases mf
      · go_wp2
        go_meet
        exact TgtPost.arrow (Grew.refl _ W) H21.out HV.out HD.out.2.2.1 (fun _ => rfl) (fun h => by simp [rets] at h)
      · by_cases hm1 : m = 1
        · subst hm1
          obtain ⟨q, t, z, l, hq0, hq1⟩ := H1.out rfl rfl rfl
          obtain ⟨g, rfl⟩ : ∃ g, a7 = some ⟨g, 0, none⟩ := by
            rcases HV.out.2 with ⟨h, h'⟩ | ⟨g, cap, cur, h, _⟩
            · simp at h'
            · exact ⟨g, by simpa using (Value.slice.inj h).1⟩
          have r0 : W.cell? ⟨g, 0, none⟩ = some (.iface 199 (.pointer (some ⟨q, 0, none⟩))) := (HV.out.cellAt 0 (by have := HV.out.1; omega)).trans hq0
          have rf : W.frozen? ⟨g, 0, none⟩ = false := HV.out.frozenAt 0
          have q0 : W.cell? ⟨q, 0, none⟩ = some (.iface t z) := (blk_cell hq1 0).trans rfl
          have q1 : W.cell? ⟨q, 1, none⟩ = some (.int .i32 l) := (blk_cell hq1 1).trans rfl
          have lg := (HV.out.lt g rfl).2
          have lg1 : g < W.heap.size + 1 := by omega
          have lb1 : b < W.heap.size + 1 := by omega
          have HQ0 := Lib.hid hq0
          clear hq0 hq1
          have ta := ta_199
          go_upto_region 36 with fail
          refine wp_named (fun W1 => Grew (fun k => (Value.slice (some ⟨g, 0, none⟩) 1 cap7).ownBlock = some k) W W1 ∧ W1.heap[p21]? = some (.cells #[x21, y21] 58 (0, 0)) ∧ W1.heap[p10]? = some (.cells #[.int .i32 sl] 36 (0, 0)) ∧
            W1.ownsRow 0 45 2 (.slice (some ⟨g, 0, none⟩) 1 cap7) 1 (ys.set 0 (.iface 224 (ptr W.heap.size)))) ⟨?_, ?_, ?_, ?_⟩ ?_
          · exact Grew.alloc (Grew.setCell (S := fun k => (Value.slice (some ⟨g, 0, none⟩) 1 cap7).ownBlock = some k) (p := ⟨g, 0, none⟩) (Grew.refl _ W) (.inl rfl) _) _
          · exact blk_alloc (blk_set_other H21.out _ _ (fun h => HD.out.2.2.1 (congrArg some h))) _
          · exact blk_alloc (blk_set_other H10.out _ _ (fun h => HD.out.2.2.2 (congrArg some h))) _
          · exact (HV.out.stored 0 _).1.alloc _
          intro W1 hW1
          clear k41 y0 z0 z1 zf0 zf1 r0 rf q0 q1
          obtain ⟨g1, i21, i10, ho1⟩ := hW1
          have y0 : W1.cell? ⟨p10, 0, none⟩ = some (.int .i32 sl) := (blk_cell i10 0).trans rfl
          have z0 : W1.cell? ⟨p21, 0, none⟩ = some x21 := (blk_cell i21 0).trans rfl
          have z1 : W1.cell? ⟨p21, 1, none⟩ = some y21 := (blk_cell i21 1).trans rfl
          have zf0 : W1.frozen? ⟨p21, 0, none⟩ = false := blk_free i21 0
          have zf1 : W1.frozen? ⟨p21, 1, none⟩ = false := blk_free i21 1
          have l21 := blk_lt i21
          have l211 : p21 < W1.heap.size + 1 := by omega
          have G1 := Lib.hid g1
          have I21 := Lib.hid i21
          have O1 := Lib.hid ho1
          clear g1 i21 ho1 i10
          go_wp2
          go_meet
          exact TgtPost.arrow G1.out I21.out O1.out HD.out.2.2.1 (fun h => by simp [rets] at h) (fun _ => ⟨_, rfl⟩)
        · have hb1 : ((m : Int) == 1) = false := by simp; omega
          have hr : rets true false m = false := by simp [rets]; omega
          have HR := Lib.hid hr
          clear hr
          go_wp2
          go_meet
          exact TgtPost.arrow (Grew.refl _ W) H21.out HV.out HD.out.2.2.1 (fun _ => rfl) (fun h => by rw [HR.out] at h; cases h)
    · go_wp2
      go_meet
      exact TgtPost.func (Grew.refl _ W) H21.out HV.out HD.out.2.2.1 (fun _ => rfl) (fun h => by simp [rets] at h)
end Go.Proofs.YtnikgjgjmpoglaaGreatFmt
