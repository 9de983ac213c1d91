/-
  The call statement appended and handed back (the end of generateClosureForTypeScriptNamespaceOrEnum). Conditions: as listed.
-/
import Derived.Test.YtnikgjgjmpoglaaGreatFmtH1
import Derived.Deep.DeepCutAuto
import Derived.Deep.CutRange
namespace Go.Proofs.YtnikgjgjmpoglaaGreatFmt
open Go Go.RowKit
set_option maxRecDepth 100000

abbrev sexpr (v : Value) (l : Int) : Obj := .cells #[v, .int .i32 l, .bool false] 206
abbrev ecall (t : Value) (sl : Int) (qa : Nat) : Obj := .cells #[t, .int .i32 sl, .slice (some ⟨qa, 0, none⟩) 1 1, .int .i32 0, .int .u8 0, .int .u8 0, .bool false, .bool false] 210

/-- The call statement: d its datum, t its target, e its argument. -/
def CallAt (lo : Nat) (W : World) (sl nl : Int) (t e d : Value) : Prop :=
  ∃ qs qc qa, lo ≤ qs ∧ lo ≤ qc ∧ lo ≤ qa ∧ d = .iface 199 (ptr qs) ∧ W.heap[qs]? = some (sexpr (.iface 202 (ptr qc)) sl) ∧ W.heap[qc]? = some (ecall t sl qa) ∧ W.heap[qa]? = some (.cells #[e, .int .i32 nl] 58 (0, 0))

theorem news2g (w : World) (t : TypeId) (z : Value) (l : Int) (g : Nat) (hg : g = w.heap.size) : ∀ (k : Nat) (u : Value), [Value.iface t z, .int .i32 l][k]? = some u →
    (w.alloc (.cells #[.iface t z, .int .i32 l] 45)).cell? (Addr.add ⟨g, 0, none⟩ k) = some u := by
  intro k u hu
  subst hg
  have hb := blk_cell (blk_at w (.cells #[.iface t z, .int .i32 l] 45) _ rfl) k
  rw [show Addr.add ⟨w.heap.size, 0, none⟩ k = ⟨w.heap.size, k, none⟩ by cases k <;> simp [Addr.add]]
  exact hb.trans (by simpa using hu)

theorem one2g (t : TypeId) (z : Value) (l : Int) : ∀ u ∈ [Value.iface t z, .int .i32 l], u.oneCell' = true := by
  intro u hu
  simp at hu
  rcases hu with rfl | rfl <;> rfl

def EndPost (W : World) (sl nl : Int) (s1 t e : Value) (n1 : Nat) (xs : List Value) (r : Ending) (w' : World) : Prop :=
  ∃ g c d, r = .returned (.slice (some ⟨g, 0, none⟩) (n1 + 1) c) ∧ w'.ownsRow 0 45 2 (.slice (some ⟨g, 0, none⟩) (n1 + 1) c) (n1 + 1) (xs ++ [d, .int .i32 sl]) ∧ CallAt W.heap.size w' sl nl t e d ∧
    Grew (fun k => s1.ownBlock = some k) W w' ∧ (s1.ownBlock = some g ∨ W.heap.size ≤ g)

theorem EndPost.mk {W w1 : World} {sl nl : Int} {s1 t e : Value} {n1 g c : Nat} {xs : List Value} {o : Obj}
    (hown : w1.ownsRow 0 45 2 (.slice (some ⟨g, 0, none⟩) (n1 + 1) c) (n1 + 1) (xs ++ [.iface 199 (.pointer (some ⟨W.heap.size + 1 + 1, 0, none⟩)), .int .i32 sl]))
    (hgr : ((((W.alloc (.cells #[e, .int .i32 nl] 58)).alloc (ecall t sl W.heap.size)).alloc (sexpr (.iface 202 (.pointer (some ⟨W.heap.size + 1, 0, none⟩))) sl)).alloc o).grownBy w1 s1.ownBlock)
    (hat : s1.ownBlock = some g ∨ g = W.heap.size + 1 + 1 + 1 + 1) (hs1 : ∀ k, s1.ownBlock = some k → k < W.heap.size) :
    EndPost W sl nl s1 t e n1 xs (.returned (.slice (some ⟨g, 0, none⟩) (n1 + 1) c)) w1 := by
  have G2 := Grew.of_grownBy (S := fun k => s1.ownBlock = some k) hgr (fun _ h => h)
  refine ⟨g, c, _, rfl, hown, ⟨W.heap.size + 1 + 1, W.heap.size + 1, W.heap.size, by omega, by omega, by omega, rfl, ?_, ?_, ?_⟩, ?_, ?_⟩
  · exact G2.obj (blk_alloc (blk_at _ _ _ (by simp)) _) (fun h => by have := hs1 _ h; omega)
  · exact G2.obj (blk_alloc (blk_alloc (blk_at _ _ _ (by simp)) _) _) (fun h => by have := hs1 _ h; omega)
  · exact G2.obj (blk_alloc (blk_alloc (blk_alloc (blk_at _ _ _ (by simp)) _) _) _) (fun h => by have := hs1 _ h; omega)
  · exact Grew.trans (((((Grew.refl _ W).alloc _).alloc _).alloc _).alloc _) G2
  · exact hat.imp id fun h => by omega

set_option maxHeartbeats 4000000 in
theorem endArm (b p10 p19 p21 n1 cap1 : Nat) (a1 : Option Addr) (sl nl : Int) (te tt : TypeId) (ze zt : Value) (xs : List Value) (W : World) (s2 s3 s4 s5 s6 s7 s8 s9 s11 s12 s13 s14 s15 s16 s17 s18 s20 s22 s23 s24 s25 s26 s27 s28 s29 s30 s31 s32 s33 s34 s35 s36 s37 s38 s39 s40 s41 s42 s43 s44 s45 s46 s47 s48 s49 s50 s51 s52 s53 s54 s55 s56 s57 s58 s59 s60 s61 s62 s63 s64 s65 s66 s67 s68 s69 s70 s71 s72 s73 s74 s75 s76 s77 s78 s79 s80 s81 s82 s83 s84 s85 s86 s87 s88 s89 s90 s91 s92 s93 s94 s95 s96 s97 s98 s99 s100 s101 s102 s103 s104 s105 s106 s107 s108 s109 s110 s111 s112 s113 s114 s115 s116 s117 s118 s119 s120 s121 s122 s123 s124 s125 s126 s127 s128 s129 s130 s131 s132 s133 s134 s135 s136 s137 s138 s139 s140 s141 s142 s143 s144 s145 s146 s147 s148 s149 s150 s151 s152 s153 s154 s155 s156 s157 s158 s159 s160 s161 s162 s163 s164 s165 s166 s167 s168 s169 s170 s171 s172 s173 s174 s175 s176 s177 s178 s179 s180 s181 s182 s183 s184 s185 s186 s187 s188 s189 s190 s191 s192 s193 s194 s195 s196 s197 s198 s199 s200 s201 s202 s203 s204 s205 s206 s207 s208 s209 s210 s211 s212 s213 s214 s215 s216 s217 s218 s219 s220 s221 s222 s223 s224 s225 s226 s227 s228 s229 s230 s231 s232 s233 s234 s235 s236 s237 s238 s239 s240 s241 s242 s243 s244 s245 s246 s247 s248 s249 s250 s251 s252 s253 s254 s255 s256 s257 s258 s259 s260 s261 s262 s263 s264 s265 s266 s267 s268 s269 s270 s271 s272 s273 s274 s275 s276 s277 s278 s279 s280 s281 s282 s283 s284 s285 s286 s287 s288 s289 s290 s291 s292 s293 s294 s295 s296 s297 s298 s299 s300 s301 s302 s303 s304 s305 s306 s307 s308 s309 s310 s311 s312 s313 s314 s315 s316 s317 s318 s319 s320 s321 s322 s323 s324 s325 s326 s327 s328 s329 s330 s331 s332 s333 s334 s335 s336 s337 s338 s339 s340 s341 s342 s343 s344 s345 s346 s347 s348 s349 s350 s351 s352 s353 s354 s355 s356 s357 s358 s359 s360 s361 s362 s363 s364 s365 s366 s367 s368 s369 s370 s371 s372 s373 s374 s375 s376 s377 s378 s379 s380 s381 s382 s383 s384 s385 s386 s387 s388 s389 s390 s391 s392 s393 s394 s395 s396 s397 s398 s399 s400 : Value)
    {K : Act → World → Prop} {Q' : Exit → Act → World → Prop}
    (h10 : W.heap[p10]? = some (.cells #[.int .i32 sl] 36 (0, 0))) (h19 : W.heap[p19]? = some (.cells #[.iface te ze, .int .i32 nl] 58 (0, 0))) (h21 : W.heap[p21]? = some (.cells #[.iface tt zt, .int .i32 sl] 58 (0, 0)))
    (hv1 : W.ownsRow 0 45 2 (.slice a1 n1 cap1) n1 xs) (hn : n1 ≤ 5000)
    (hK : ∀ (u384 u385 u386 u387 u388 u389 u390 u391 u392 u393 u394 u395 u396 u397 u398 u399 : Value) (g c : Nat) (w' : World), EndPost W sl nl (.slice a1 n1 cap1) (.iface tt zt) (.iface te ze) n1 xs (.returned (.slice (some ⟨g, 0, none⟩) (n1 + 1) c)) w' → K ⟨(List.toArray (.pointer (some ⟨b, 0, none⟩) :: .slice (some ⟨g, 0, none⟩) (n1 + 1) c :: s2 :: s3 :: s4 :: s5 :: s6 :: s7 :: s8 :: s9 :: .pointer (some ⟨p10, 0, none⟩) :: s11 :: s12 :: s13 :: s14 :: s15 :: s16 :: s17 :: s18 :: .pointer (some ⟨p19, 0, none⟩) :: s20 :: .pointer (some ⟨p21, 0, none⟩) :: s22 :: s23 :: s24 :: s25 :: s26 :: s27 :: s28 :: s29 :: s30 :: s31 :: s32 :: s33 :: s34 :: s35 :: s36 :: s37 :: s38 :: s39 :: s40 :: s41 :: s42 :: s43 :: s44 :: s45 :: s46 :: s47 :: s48 :: s49 :: s50 :: s51 :: s52 :: s53 :: s54 :: s55 :: s56 :: s57 :: s58 :: s59 :: s60 :: s61 :: s62 :: s63 :: s64 :: s65 :: s66 :: s67 :: s68 :: s69 :: s70 :: s71 :: s72 :: s73 :: s74 :: s75 :: s76 :: s77 :: s78 :: s79 :: s80 :: s81 :: s82 :: s83 :: s84 :: s85 :: s86 :: s87 :: s88 :: s89 :: s90 :: s91 :: s92 :: s93 :: s94 :: s95 :: s96 :: s97 :: s98 :: s99 :: s100 :: s101 :: s102 :: s103 :: s104 :: s105 :: s106 :: s107 :: s108 :: s109 :: s110 :: s111 :: s112 :: s113 :: s114 :: s115 :: s116 :: s117 :: s118 :: s119 :: s120 :: s121 :: s122 :: s123 :: s124 :: s125 :: s126 :: s127 :: s128 :: s129 :: s130 :: s131 :: s132 :: s133 :: s134 :: s135 :: s136 :: s137 :: s138 :: s139 :: s140 :: s141 :: s142 :: s143 :: s144 :: s145 :: s146 :: s147 :: s148 :: s149 :: s150 :: s151 :: s152 :: s153 :: s154 :: s155 :: s156 :: s157 :: s158 :: s159 :: s160 :: s161 :: s162 :: s163 :: s164 :: s165 :: s166 :: s167 :: s168 :: s169 :: s170 :: s171 :: s172 :: s173 :: s174 :: s175 :: s176 :: s177 :: s178 :: s179 :: s180 :: s181 :: s182 :: s183 :: s184 :: s185 :: s186 :: s187 :: s188 :: s189 :: s190 :: s191 :: s192 :: s193 :: s194 :: s195 :: s196 :: s197 :: s198 :: s199 :: s200 :: s201 :: s202 :: s203 :: s204 :: s205 :: s206 :: s207 :: s208 :: s209 :: s210 :: s211 :: s212 :: s213 :: s214 :: s215 :: s216 :: s217 :: s218 :: s219 :: s220 :: s221 :: s222 :: s223 :: s224 :: s225 :: s226 :: s227 :: s228 :: s229 :: s230 :: s231 :: s232 :: s233 :: s234 :: s235 :: s236 :: s237 :: s238 :: s239 :: s240 :: s241 :: s242 :: s243 :: s244 :: s245 :: s246 :: s247 :: s248 :: s249 :: s250 :: s251 :: s252 :: s253 :: s254 :: s255 :: s256 :: s257 :: s258 :: s259 :: s260 :: s261 :: s262 :: s263 :: s264 :: s265 :: s266 :: s267 :: s268 :: s269 :: s270 :: s271 :: s272 :: s273 :: s274 :: s275 :: s276 :: s277 :: s278 :: s279 :: s280 :: s281 :: s282 :: s283 :: s284 :: s285 :: s286 :: s287 :: s288 :: s289 :: s290 :: s291 :: s292 :: s293 :: s294 :: s295 :: s296 :: s297 :: s298 :: s299 :: s300 :: s301 :: s302 :: s303 :: s304 :: s305 :: s306 :: s307 :: s308 :: s309 :: s310 :: s311 :: s312 :: s313 :: s314 :: s315 :: s316 :: s317 :: s318 :: s319 :: s320 :: s321 :: s322 :: s323 :: s324 :: s325 :: s326 :: s327 :: s328 :: s329 :: s330 :: s331 :: s332 :: s333 :: s334 :: s335 :: s336 :: s337 :: s338 :: s339 :: s340 :: s341 :: s342 :: s343 :: s344 :: s345 :: s346 :: s347 :: s348 :: s349 :: s350 :: s351 :: s352 :: s353 :: s354 :: s355 :: s356 :: s357 :: s358 :: s359 :: s360 :: s361 :: s362 :: s363 :: s364 :: s365 :: s366 :: s367 :: s368 :: s369 :: s370 :: s371 :: s372 :: s373 :: s374 :: s375 :: s376 :: s377 :: s378 :: s379 :: s380 :: s381 :: s382 :: s383 :: u384 :: u385 :: u386 :: u387 :: u388 :: u389 :: u390 :: u391 :: u392 :: u393 :: u394 :: u395 :: u396 :: u397 :: u398 :: u399 :: s400 :: [])), []⟩ w') :
    genEnd.wp Tryz.prog (Exit.then K Q') ⟨(List.toArray (.pointer (some ⟨b, 0, none⟩) :: .slice a1 n1 cap1 :: s2 :: s3 :: s4 :: s5 :: s6 :: s7 :: s8 :: s9 :: .pointer (some ⟨p10, 0, none⟩) :: s11 :: s12 :: s13 :: s14 :: s15 :: s16 :: s17 :: s18 :: .pointer (some ⟨p19, 0, none⟩) :: s20 :: .pointer (some ⟨p21, 0, none⟩) :: s22 :: s23 :: s24 :: s25 :: s26 :: s27 :: s28 :: s29 :: s30 :: s31 :: s32 :: s33 :: s34 :: s35 :: s36 :: s37 :: s38 :: s39 :: s40 :: s41 :: s42 :: s43 :: s44 :: s45 :: s46 :: s47 :: s48 :: s49 :: s50 :: s51 :: s52 :: s53 :: s54 :: s55 :: s56 :: s57 :: s58 :: s59 :: s60 :: s61 :: s62 :: s63 :: s64 :: s65 :: s66 :: s67 :: s68 :: s69 :: s70 :: s71 :: s72 :: s73 :: s74 :: s75 :: s76 :: s77 :: s78 :: s79 :: s80 :: s81 :: s82 :: s83 :: s84 :: s85 :: s86 :: s87 :: s88 :: s89 :: s90 :: s91 :: s92 :: s93 :: s94 :: s95 :: s96 :: s97 :: s98 :: s99 :: s100 :: s101 :: s102 :: s103 :: s104 :: s105 :: s106 :: s107 :: s108 :: s109 :: s110 :: s111 :: s112 :: s113 :: s114 :: s115 :: s116 :: s117 :: s118 :: s119 :: s120 :: s121 :: s122 :: s123 :: s124 :: s125 :: s126 :: s127 :: s128 :: s129 :: s130 :: s131 :: s132 :: s133 :: s134 :: s135 :: s136 :: s137 :: s138 :: s139 :: s140 :: s141 :: s142 :: s143 :: s144 :: s145 :: s146 :: s147 :: s148 :: s149 :: s150 :: s151 :: s152 :: s153 :: s154 :: s155 :: s156 :: s157 :: s158 :: s159 :: s160 :: s161 :: s162 :: s163 :: s164 :: s165 :: s166 :: s167 :: s168 :: s169 :: s170 :: s171 :: s172 :: s173 :: s174 :: s175 :: s176 :: s177 :: s178 :: s179 :: s180 :: s181 :: s182 :: s183 :: s184 :: s185 :: s186 :: s187 :: s188 :: s189 :: s190 :: s191 :: s192 :: s193 :: s194 :: s195 :: s196 :: s197 :: s198 :: s199 :: s200 :: s201 :: s202 :: s203 :: s204 :: s205 :: s206 :: s207 :: s208 :: s209 :: s210 :: s211 :: s212 :: s213 :: s214 :: s215 :: s216 :: s217 :: s218 :: s219 :: s220 :: s221 :: s222 :: s223 :: s224 :: s225 :: s226 :: s227 :: s228 :: s229 :: s230 :: s231 :: s232 :: s233 :: s234 :: s235 :: s236 :: s237 :: s238 :: s239 :: s240 :: s241 :: s242 :: s243 :: s244 :: s245 :: s246 :: s247 :: s248 :: s249 :: s250 :: s251 :: s252 :: s253 :: s254 :: s255 :: s256 :: s257 :: s258 :: s259 :: s260 :: s261 :: s262 :: s263 :: s264 :: s265 :: s266 :: s267 :: s268 :: s269 :: s270 :: s271 :: s272 :: s273 :: s274 :: s275 :: s276 :: s277 :: s278 :: s279 :: s280 :: s281 :: s282 :: s283 :: s284 :: s285 :: s286 :: s287 :: s288 :: s289 :: s290 :: s291 :: s292 :: s293 :: s294 :: s295 :: s296 :: s297 :: s298 :: s299 :: s300 :: s301 :: s302 :: s303 :: s304 :: s305 :: s306 :: s307 :: s308 :: s309 :: s310 :: s311 :: s312 :: s313 :: s314 :: s315 :: s316 :: s317 :: s318 :: s319 :: s320 :: s321 :: s322 :: s323 :: s324 :: s325 :: s326 :: s327 :: s328 :: s329 :: s330 :: s331 :: s332 :: s333 :: s334 :: s335 :: s336 :: s337 :: s338 :: s339 :: s340 :: s341 :: s342 :: s343 :: s344 :: s345 :: s346 :: s347 :: s348 :: s349 :: s350 :: s351 :: s352 :: s353 :: s354 :: s355 :: s356 :: s357 :: s358 :: s359 :: s360 :: s361 :: s362 :: s363 :: s364 :: s365 :: s366 :: s367 :: s368 :: s369 :: s370 :: s371 :: s372 :: s373 :: s374 :: s375 :: s376 :: s377 :: s378 :: s379 :: s380 :: s381 :: s382 :: s383 :: s384 :: s385 :: s386 :: s387 :: s388 :: s389 :: s390 :: s391 :: s392 :: s393 :: s394 :: s395 :: s396 :: s397 :: s398 :: s399 :: s400 :: [])), []⟩ W := by
  have HR := Lib.hid hK
  have HV := Lib.hid hv1
  have y0 : W.cell? ⟨p10, 0, none⟩ = some (.int .i32 sl) := (blk_cell h10 0).trans rfl
  have z0 : W.cell? ⟨p19, 0, none⟩ = some (.iface te ze) := (blk_cell h19 0).trans rfl
  have z1 : W.cell? ⟨p19, 1, none⟩ = some (.int .i32 nl) := (blk_cell h19 1).trans rfl
  have x0 : W.cell? ⟨p21, 0, none⟩ = some (.iface tt zt) := (blk_cell h21 0).trans rfl
  have x1 : W.cell? ⟨p21, 1, none⟩ = some (.int .i32 sl) := (blk_cell h21 1).trans rfl
  have l10 := blk_lt h10
  have l19 := blk_lt h19
  have l21 := blk_lt h21
  have l10_1 : p10 < W.heap.size + 1 := by omega
  have l10_2 : p10 < W.heap.size + 1 + 1 := by omega
  have l10_3 : p10 < W.heap.size + 1 + 1 + 1 := by omega
  have l10_4 : p10 < W.heap.size + 1 + 1 + 1 + 1 := by omega
  have l19_1 : p19 < W.heap.size + 1 := by omega
  have l19_2 : p19 < W.heap.size + 1 + 1 := by omega
  have l19_3 : p19 < W.heap.size + 1 + 1 + 1 := by omega
  have l19_4 : p19 < W.heap.size + 1 + 1 + 1 + 1 := by omega
  have l21_1 : p21 < W.heap.size + 1 := by omega
  have l21_2 : p21 < W.heap.size + 1 + 1 := by omega
  have l21_3 : p21 < W.heap.size + 1 + 1 + 1 := by omega
  have l21_4 : p21 < W.heap.size + 1 + 1 + 1 + 1 := by omega
  clear hK hv1 h10 h19 h21
  obtain ⟨i0, hi0, hz0, hs0, hy0⟩ := info_parts info45
  have HI := Lib.hid hi0
  have HZ := Lib.hid hz0
  have HS := Lib.hid hs0
  have HY := Lib.hid hy0
  clear hi0 hz0 hs0 hy0
  have h63 : n1 + 1 ≤ maxLen := by unfold maxLen; omega
  have h24 : (n1 + 1) * 24 ≤ 140737488355328 := by omega
  conv => arg 2; whnf
  go_wp2_with (at_builtin; go_loud (refine wpList_append_lies _ rfl _ _ 33 rfl 0 45 i0 _ 2 24 Tryz.underlying33 HI.out HZ.out HS.out HY.out rfl (by decide) (.slice a1 n1 cap1) n1 xs rfl ((((HV.out.alloc _).alloc _).alloc _).alloc _) ⟨_, 0, none⟩ 1 1 _ rfl rfl (news2g _ _ _ _ _ (by simp)) (one2g _ _ _) (by decide) h63 h24 (Nat.zero_le _) _ rfl ?_); intro g cap' w1 hown1 hgr1 hat1 hlt1)
  exact HR.out _ _ _ _ _ _ _ _ _ _ _ _ _ _ _ _ _ _ _ (EndPost.mk hown1 hgr1 (hat1.imp id fun h => h.trans (by simp)) (fun k hk => (HV.out.lt k hk).2))
end Go.Proofs.YtnikgjgjmpoglaaGreatFmt
