import Derived.Test.YbulknjuSiK
import Derived.Test.YbulknjuSiF
import Derived.Test.YbulknjuSiH
namespace Go.Proofs.Ybulknju
open Go.RowKit

theorem mu_le {f : Nat → Int} {b : Nat} : ∀ {N : Nat}, (∀ i, i < N → f i ≤ (b : Nat)) → mu N f ≤ N * b := by
  intro N
  induction N with
  | zero => intro _; simp [mu]
  | succ N ih =>
    intro h
    have h1 := ih (fun i hi => h i (by omega))
    have h2 := h N (by omega)
    unfold mu at h1 ⊢
    rw [List.range_succ, List.map_append, List.sum_append, Nat.add_mul]
    simp only [List.map_cons, List.map_nil, List.sum_cons, List.sum_nil]
    omega
theorem Inv.mu {O : List OpR} {H : List (List Nat)} {E : List (Nat × Nat)} {f : Nat → Int} {D : List Drp} {co po : Nat → Nat} (hi : Inv O H E f D) (hc : Col O.length H co po) (hO : O.length ≤ 2000) (hH : H.length ≤ 3) : Ybulknju.mu (O.length * H.length) f ≤ 18000000 := by
  have h1 : Ybulknju.mu (O.length * H.length) f ≤ (O.length * H.length) * 3000 := mu_le fun i hi' => by
    have h0 : 0 < H.length := Nat.pos_of_ne_zero fun e => by rw [e, Nat.mul_zero] at hi'; exact Nat.not_lt_zero _ hi'
    have e : i / H.length * H.length + i % H.length = i := by rw [Nat.mul_comm]; exact Nat.div_add_mod i H.length
    have hm := Nat.mod_lt i h0
    have hd : i / H.length < O.length := Nat.div_lt_of_lt_mul (by rw [Nat.mul_comm]; exact hi')
    have h2 := (hi.rng (i / H.length) (i % H.length) hd hm).2
    have h3 := hc.small _ hm
    rw [e] at h2
    omega
  have h2 : O.length * H.length ≤ 6000 := Nat.le_trans (Nat.mul_le_mul hO hH) (by decide)
  omega
/-- The closure before its reach is made. -/
structure Pa (ρ : Rho) (w : World) (C Lb : Nat) (O : List OpR) (Q : List Nat) (P : Nat → List Nat) (F : List (List Nat)) (vo vp vf vs vk vpc vps vsr vrd vsw : Value) (Cb gof gat : Nat) (vW vR vL : Value) (co po : Nat → Nat) (B G : Nat) (gs gp : Value) (vR' vH' : Value) (b1 : Nat) (E : List (Nat × Nat)) : Prop where
  sta : Sta ρ w C Lb O Q P F vo vp vf vs vk vpc vps vsr vrd vsw Cb gof gat vW vR vL co po
  clo : St ρ w .clo B 69 #[.pointer (some ⟨Lb, 0, none⟩), .pointer (some ⟨Cb, 0, none⟩), .pointer (some ⟨G, 0, none⟩), vR', vH', .bool false, .slice none 0 0, .slice none 0 0, .slice none 0 0, .slice none 0 0, .slice none 0 0]
  gr : Gr ρ w G (succOf O.length E) (predOf O.length E) gs gp
  box : St ρ w (.tmp 1) b1 25 #[.pointer (some ⟨B, 0, none⟩)]
theorem Pa.keep {R : Role → Prop} {ρ ρ' : Rho} {w w' : World} {C Lb : Nat} {O : List OpR} {Q : List Nat} {P : Nat → List Nat} {F : List (List Nat)} {vo vp vf vs vk vpc vps vsr vrd vsw : Value} {Cb gof gat : Nat} {vW vR vL : Value} {co po : Nat → Nat} {B G : Nat} {gs gp : Value} {vR' vH' : Value} {b1 : Nat} {E : List (Nat × Nat)} (h : Pa ρ w C Lb O Q P F vo vp vf vs vk vpc vps vsr vrd vsw Cb gof gat vW vR vL co po B G gs gp vR' vH' b1 E) (hk : Stp R ρ w ρ' w') (hr : ∀ r, R r → r = .reach ∨ r = .hkH ∨ R3 r) : Pa ρ' w' C Lb O Q P F vo vp vf vs vk vpc vps vsr vrd vsw Cb gof gat vW vR vL co po B G gs gp vR' vH' b1 E := by
  have hn : ∀ r, RT r ∨ r = .clo ∨ r = .gr ∨ RG r ∨ r = .tmp 1 → ¬ R r := fun r h1 h2 => by
    have h3 := hr r h2
    unfold R3 at h3
    unfold RT RS RG at h1
    rcases h3 with h3 | h3 | h3 | h3 | h3 <;> simp [h3] at h1
  exact ⟨h.sta.keep hk fun r h => hn r (.inl h), h.clo.keep hk (hn _ (by simp)), h.gr.keep hk (hn _ (by simp)) (hn _ (by simp [RG])) (fun _ => hn _ (by simp [RG])) (hn _ (by simp [RG])) (fun _ => hn _ (by simp [RG])), h.box.keep hk (hn _ (by simp))⟩
theorem Pa.set {ρ : Rho} {w : World} {C Lb : Nat} {O : List OpR} {Q : List Nat} {P : Nat → List Nat} {F : List (List Nat)} {vo vp vf vs vk vpc vps vsr vrd vsw : Value} {Cb gof gat : Nat} {vW vR vL : Value} {co po : Nat → Nat} {B G : Nat} {gs gp : Value} {vR' vH' : Value} {b1 : Nat} {E : List (Nat × Nat)} (h : Pa ρ w C Lb O Q P F vo vp vf vs vk vpc vps vsr vrd vsw Cb gof gat vW vR vL co po B G gs gp vR' vH' b1 E) (vR2 vH2 : Value) (i : Nat) (v : Value) (hi : (#[.pointer (some ⟨Lb, 0, none⟩), .pointer (some ⟨Cb, 0, none⟩), .pointer (some ⟨G, 0, none⟩), vR', vH', .bool false, .slice none 0 0, .slice none 0 0, .slice none 0 0, .slice none 0 0, .slice none 0 0]).setIfInBounds i v = #[.pointer (some ⟨Lb, 0, none⟩), .pointer (some ⟨Cb, 0, none⟩), .pointer (some ⟨G, 0, none⟩), vR2, vH2, .bool false, .slice none 0 0, .slice none 0 0, .slice none 0 0, .slice none 0 0, .slice none 0 0]) : Pa ρ (w.setCell ⟨B, i, none⟩ v) C Lb O Q P F vo vp vf vs vk vpc vps vsr vrd vsw Cb gof gat vW vR vL co po B G gs gp vR2 vH2 b1 E ∧ Stp (fun q => q = .clo) ρ w ρ (w.setCell ⟨B, i, none⟩ v) := by
  have s := h.clo.store i v
  have h2 := h.clo.set i v
  rw [hi] at h2
  exact ⟨⟨h.sta.keep s (fun r hr e => by subst e; exact RV.rt hr (by simp [RV])), h2, h.gr.keep s (by decide) (by decide) (by simp) (by decide) (by simp), h.box.keep s (by decide)⟩, s⟩
theorem Stp.rn {R : Role → Prop} {ρ ρ' : Rho} {w w' : World} (h : Stp R ρ w ρ' w') (hr : ¬ R .no) : Stp RN ρ w ρ' w' := h.mono fun _ h1 e => hr (e ▸ h1)
/-- What saturateIn says. -/
def SatP (hon : Bool) (stl : Prop) (ρ : Rho) (w : World) (e : Ending) (w' : World) : Prop := ∃ b ρ', e = .returned (.bool b) ∧ (hon = true → b = true) ∧ (stl → b = false) ∧ Stp RN ρ w ρ' w'
theorem R32.made {ρ : Rho} {w : World} {r : Role} {n : Nat} (hm : n ≤ maxLen) : R32 (ext ρ w r) (w.alloc (.cells (madeCells #[.int .i32 0] n) 21)) r (.slice (some ⟨w.heap.size, 0, none⟩) n n) n (fun _ => 0) := by
  have := Row.made (ρ := ρ) (w := w) (r := r) (e := 21) (n := n) (.int .i32 0) hm
  unfold R32
  have e : (List.range n).map (fun _ => Value.int .i32 0) = List.replicate n (.int .i32 0) := by
    rw [List.map_const', List.length_range]
  rw [e]; exact this

set_option maxHeartbeats 4000000 in
set_option maxRecDepth 1000000 in
theorem blk17_0_any (w : World) (K : Act → World → Prop) (u0 u1 u2 u3 u4 u5 u6 u7 u8 u9 u10 u11 u12 u13 u14 u15 u16 u17 u18 u19 u20 u21 u22 u23 u24 u25 u26 u27 u28 u29 u30 u31 u32 u33 u34 u35 u36 u37 u38 u39 u40 u41 u42 u43 u44 u48 u49 u50 u51 u52 u53 u54 u55 u56 u57 u58 u59 u60 u61 u62 u63 u64 u65 u66 u67 u68 u69 u70 u71 u72 u73 u74 u75 u76 u77 u78 u79 u80 u81 u82 u83 u84 u85 u86 u87 u88 u89 u90 u91 u92 u93 u94 u95 u96 u97 u98 u99 u100 u101 u102 u103 u104 u105 u106 u107 u108 u109 u110 u111 u112 u113 u114 u115 u116 u117 u118 u119 u120 u121 u122 u123 u124 u125 u126 u127 u128 u129 u130 u131 u132 u133 u134 u135 u136 u137 u138 u139 u140 u141 u142 u143 u144 u145 u146 u147 u148 u149 u150 u151 u152 u153 u154 u155 u156 u157 u158 u159 u160 u161 u162 u163 u164 u165 u166 u167 u168 u169 u170 u171 u172 u173 u174 u175 u176 u177 u178 u179 u180 u181 u182 u183 u184 u185 u186 u187 u188 u189 u190 u191 u192 u193 u194 u195 u196 u197 u198 u199 u200 u201 u202 u203 u204 u205 u206 u207 u208 u209 u210 u211 u212 u213 u214 u215 u216 u217 u218 u219 u220 u221 u222 u223 u224 u225 u226 u227 u228 u229 u230 u231 u232 u233 u234 u235 u236 u237 u238 u239 u240 u241 u242 u243 u244 u245 u246 u247 u248 u249 u250 u251 u252 u253 u254 u255 u256 u257 u258 u259 u260 u261 u262 u263 u264 u265 u266 u267 u268 u269 u270 u271 u272 u273 u274 u275 u276 u277 u278 u279 u280 u281 u282 u283 u284 u285 u286 u287 u288 u289 u290 u291 u292 u293 u294 u295 u296 u297 u298 u299 u300 u301 u302 u303 u304 u305 u306 u307 u308 u309 u310 u311 u312 u313 u314 u315 u316 u317 u318 u319 u320 u321 u322 u323 u324 u325 u326 u327 u328 u329 u330 u331 u332 u333 u334 u335 u336 u337 u338 u339 u340 u341 u342 u343 u344 u345 u346 u347 u348 u349 u350 u351 u352 u353 u354 u355 u356 u357 u358 u359 u360 u361 u362 u363 u364 u365 u366 u367 u368 u369 u370 u371 u372 u373 u374 u375 u376 u377 u378 u379 u380 u381 u382 u383 u384 u385 u386 u387 u388 u389 u390 u391 u392 u393 u394 u395 u396 u397 u398 u399 u400 u401 u402 u403 u404 u405 u406 u407 u408 u409 u410 u411 u412 u413 u414 u415 u416 u417 u418 u419 u420 u421 u422 u423 u424 u425 u426 u427 u428 u429 u430 u431 u432 u433 u434 u435 u436 u437 u438 u439 u440 u441 u442 u443 u444 u445 u446 u447 u448 u449 u450 u451 u452 u453 u454 u455 u456 u457 u458 u459 u460 u461 u462 u463 u464 u465 : Value)
    (hK : Hid (∀ (x8 x47 x48 x49 x50 x51 x52 x53 x54 x55 x56 x57 x58 x59 x60 : Value) (wx : World), (fun wx => wx = w) wx → K ⟨(u0 :: u1 :: u2 :: u3 :: u4 :: u5 :: u6 :: u7 :: x8 :: u9 :: u10 :: u11 :: u12 :: u13 :: u14 :: u15 :: u16 :: u17 :: u18 :: u19 :: u20 :: u21 :: u22 :: u23 :: u24 :: u25 :: u26 :: u27 :: u28 :: u29 :: u30 :: u31 :: u32 :: u33 :: u34 :: u35 :: u36 :: u37 :: u38 :: u39 :: u40 :: u41 :: u42 :: u43 :: u44 :: .slice none 0 0 :: .int .i64 0 :: x47 :: x48 :: x49 :: x50 :: x51 :: x52 :: x53 :: x54 :: x55 :: x56 :: x57 :: x58 :: x59 :: x60 :: u61 :: u62 :: u63 :: u64 :: u65 :: u66 :: u67 :: u68 :: u69 :: u70 :: u71 :: u72 :: u73 :: u74 :: u75 :: u76 :: u77 :: u78 :: u79 :: u80 :: u81 :: u82 :: u83 :: u84 :: u85 :: u86 :: u87 :: u88 :: u89 :: u90 :: u91 :: u92 :: u93 :: u94 :: u95 :: u96 :: u97 :: u98 :: u99 :: u100 :: u101 :: u102 :: u103 :: u104 :: u105 :: u106 :: u107 :: u108 :: u109 :: u110 :: u111 :: u112 :: u113 :: u114 :: u115 :: u116 :: u117 :: u118 :: u119 :: u120 :: u121 :: u122 :: u123 :: u124 :: u125 :: u126 :: u127 :: u128 :: u129 :: u130 :: u131 :: u132 :: u133 :: u134 :: u135 :: u136 :: u137 :: u138 :: u139 :: u140 :: u141 :: u142 :: u143 :: u144 :: u145 :: u146 :: u147 :: u148 :: u149 :: u150 :: u151 :: u152 :: u153 :: u154 :: u155 :: u156 :: u157 :: u158 :: u159 :: u160 :: u161 :: u162 :: u163 :: u164 :: u165 :: u166 :: u167 :: u168 :: u169 :: u170 :: u171 :: u172 :: u173 :: u174 :: u175 :: u176 :: u177 :: u178 :: u179 :: u180 :: u181 :: u182 :: u183 :: u184 :: u185 :: u186 :: u187 :: u188 :: u189 :: u190 :: u191 :: u192 :: u193 :: u194 :: u195 :: u196 :: u197 :: u198 :: u199 :: u200 :: u201 :: u202 :: u203 :: u204 :: u205 :: u206 :: u207 :: u208 :: u209 :: u210 :: u211 :: u212 :: u213 :: u214 :: u215 :: u216 :: u217 :: u218 :: u219 :: u220 :: u221 :: u222 :: u223 :: u224 :: u225 :: u226 :: u227 :: u228 :: u229 :: u230 :: u231 :: u232 :: u233 :: u234 :: u235 :: u236 :: u237 :: u238 :: u239 :: u240 :: u241 :: u242 :: u243 :: u244 :: u245 :: u246 :: u247 :: u248 :: u249 :: u250 :: u251 :: u252 :: u253 :: u254 :: u255 :: u256 :: u257 :: u258 :: u259 :: u260 :: u261 :: u262 :: u263 :: u264 :: u265 :: u266 :: u267 :: u268 :: u269 :: u270 :: u271 :: u272 :: u273 :: u274 :: u275 :: u276 :: u277 :: u278 :: u279 :: u280 :: u281 :: u282 :: u283 :: u284 :: u285 :: u286 :: u287 :: u288 :: u289 :: u290 :: u291 :: u292 :: u293 :: u294 :: u295 :: u296 :: u297 :: u298 :: u299 :: u300 :: u301 :: u302 :: u303 :: u304 :: u305 :: u306 :: u307 :: u308 :: u309 :: u310 :: u311 :: u312 :: u313 :: u314 :: u315 :: u316 :: u317 :: u318 :: u319 :: u320 :: u321 :: u322 :: u323 :: u324 :: u325 :: u326 :: u327 :: u328 :: u329 :: u330 :: u331 :: u332 :: u333 :: u334 :: u335 :: u336 :: u337 :: u338 :: u339 :: u340 :: u341 :: u342 :: u343 :: u344 :: u345 :: u346 :: u347 :: u348 :: u349 :: u350 :: u351 :: u352 :: u353 :: u354 :: u355 :: u356 :: u357 :: u358 :: u359 :: u360 :: u361 :: u362 :: u363 :: u364 :: u365 :: u366 :: u367 :: u368 :: u369 :: u370 :: u371 :: u372 :: u373 :: u374 :: u375 :: u376 :: u377 :: u378 :: u379 :: u380 :: u381 :: u382 :: u383 :: u384 :: u385 :: u386 :: u387 :: u388 :: u389 :: u390 :: u391 :: u392 :: u393 :: u394 :: u395 :: u396 :: u397 :: u398 :: u399 :: u400 :: u401 :: u402 :: u403 :: u404 :: u405 :: u406 :: u407 :: u408 :: u409 :: u410 :: u411 :: u412 :: u413 :: u414 :: u415 :: u416 :: u417 :: u418 :: u419 :: u420 :: u421 :: u422 :: u423 :: u424 :: u425 :: u426 :: u427 :: u428 :: u429 :: u430 :: u431 :: u432 :: u433 :: u434 :: u435 :: u436 :: u437 :: u438 :: u439 :: u440 :: u441 :: u442 :: u443 :: u444 :: u445 :: u446 :: u447 :: u448 :: u449 :: u450 :: u451 :: u452 :: u453 :: u454 :: u455 :: u456 :: u457 :: u458 :: u459 :: u460 :: u461 :: u462 :: u463 :: u464 :: u465 :: []).toArray, []⟩ wx)) :
    Code.wp Yba.prog (blkOf Yba.f17 0) (Exit.then K (fun _ _ _ => False)) ⟨(u0 :: u1 :: u2 :: u3 :: u4 :: u5 :: u6 :: u7 :: u8 :: u9 :: u10 :: u11 :: u12 :: u13 :: u14 :: u15 :: u16 :: u17 :: u18 :: u19 :: u20 :: u21 :: u22 :: u23 :: u24 :: u25 :: u26 :: u27 :: u28 :: u29 :: u30 :: u31 :: u32 :: u33 :: u34 :: u35 :: u36 :: u37 :: u38 :: u39 :: u40 :: u41 :: u42 :: u43 :: u44 :: .slice none 0 0 :: .int .i64 0 :: .int .i64 0 :: u48 :: u49 :: u50 :: u51 :: u52 :: u53 :: u54 :: u55 :: u56 :: u57 :: u58 :: u59 :: u60 :: u61 :: u62 :: u63 :: u64 :: u65 :: u66 :: u67 :: u68 :: u69 :: u70 :: u71 :: u72 :: u73 :: u74 :: u75 :: u76 :: u77 :: u78 :: u79 :: u80 :: u81 :: u82 :: u83 :: u84 :: u85 :: u86 :: u87 :: u88 :: u89 :: u90 :: u91 :: u92 :: u93 :: u94 :: u95 :: u96 :: u97 :: u98 :: u99 :: u100 :: u101 :: u102 :: u103 :: u104 :: u105 :: u106 :: u107 :: u108 :: u109 :: u110 :: u111 :: u112 :: u113 :: u114 :: u115 :: u116 :: u117 :: u118 :: u119 :: u120 :: u121 :: u122 :: u123 :: u124 :: u125 :: u126 :: u127 :: u128 :: u129 :: u130 :: u131 :: u132 :: u133 :: u134 :: u135 :: u136 :: u137 :: u138 :: u139 :: u140 :: u141 :: u142 :: u143 :: u144 :: u145 :: u146 :: u147 :: u148 :: u149 :: u150 :: u151 :: u152 :: u153 :: u154 :: u155 :: u156 :: u157 :: u158 :: u159 :: u160 :: u161 :: u162 :: u163 :: u164 :: u165 :: u166 :: u167 :: u168 :: u169 :: u170 :: u171 :: u172 :: u173 :: u174 :: u175 :: u176 :: u177 :: u178 :: u179 :: u180 :: u181 :: u182 :: u183 :: u184 :: u185 :: u186 :: u187 :: u188 :: u189 :: u190 :: u191 :: u192 :: u193 :: u194 :: u195 :: u196 :: u197 :: u198 :: u199 :: u200 :: u201 :: u202 :: u203 :: u204 :: u205 :: u206 :: u207 :: u208 :: u209 :: u210 :: u211 :: u212 :: u213 :: u214 :: u215 :: u216 :: u217 :: u218 :: u219 :: u220 :: u221 :: u222 :: u223 :: u224 :: u225 :: u226 :: u227 :: u228 :: u229 :: u230 :: u231 :: u232 :: u233 :: u234 :: u235 :: u236 :: u237 :: u238 :: u239 :: u240 :: u241 :: u242 :: u243 :: u244 :: u245 :: u246 :: u247 :: u248 :: u249 :: u250 :: u251 :: u252 :: u253 :: u254 :: u255 :: u256 :: u257 :: u258 :: u259 :: u260 :: u261 :: u262 :: u263 :: u264 :: u265 :: u266 :: u267 :: u268 :: u269 :: u270 :: u271 :: u272 :: u273 :: u274 :: u275 :: u276 :: u277 :: u278 :: u279 :: u280 :: u281 :: u282 :: u283 :: u284 :: u285 :: u286 :: u287 :: u288 :: u289 :: u290 :: u291 :: u292 :: u293 :: u294 :: u295 :: u296 :: u297 :: u298 :: u299 :: u300 :: u301 :: u302 :: u303 :: u304 :: u305 :: u306 :: u307 :: u308 :: u309 :: u310 :: u311 :: u312 :: u313 :: u314 :: u315 :: u316 :: u317 :: u318 :: u319 :: u320 :: u321 :: u322 :: u323 :: u324 :: u325 :: u326 :: u327 :: u328 :: u329 :: u330 :: u331 :: u332 :: u333 :: u334 :: u335 :: u336 :: u337 :: u338 :: u339 :: u340 :: u341 :: u342 :: u343 :: u344 :: u345 :: u346 :: u347 :: u348 :: u349 :: u350 :: u351 :: u352 :: u353 :: u354 :: u355 :: u356 :: u357 :: u358 :: u359 :: u360 :: u361 :: u362 :: u363 :: u364 :: u365 :: u366 :: u367 :: u368 :: u369 :: u370 :: u371 :: u372 :: u373 :: u374 :: u375 :: u376 :: u377 :: u378 :: u379 :: u380 :: u381 :: u382 :: u383 :: u384 :: u385 :: u386 :: u387 :: u388 :: u389 :: u390 :: u391 :: u392 :: u393 :: u394 :: u395 :: u396 :: u397 :: u398 :: u399 :: u400 :: u401 :: u402 :: u403 :: u404 :: u405 :: u406 :: u407 :: u408 :: u409 :: u410 :: u411 :: u412 :: u413 :: u414 :: u415 :: u416 :: u417 :: u418 :: u419 :: u420 :: u421 :: u422 :: u423 :: u424 :: u425 :: u426 :: u427 :: u428 :: u429 :: u430 :: u431 :: u432 :: u433 :: u434 :: u435 :: u436 :: u437 :: u438 :: u439 :: u440 :: u441 :: u442 :: u443 :: u444 :: u445 :: u446 :: u447 :: u448 :: u449 :: u450 :: u451 :: u452 :: u453 :: u454 :: u455 :: u456 :: u457 :: u458 :: u459 :: u460 :: u461 :: u462 :: u463 :: u464 :: u465 :: []).toArray, []⟩ w := by
  conv => arg 2; whnf
  go_wp2
  go_loopw [8, 47] (fun _ i wr => i = .int .i64 0 ∧ wr = w) (fun _ _ _ => 0)
  case atStart => exact ⟨rfl, rfl⟩
  case round =>
    obtain ⟨rfl, hw⟩ := hrel
    subst hw
    go_wp2
    exact hK.out _ _ _ _ _ _ _ _ _ _ _ _ _ _ _ _ rfl

set_option maxHeartbeats 4000000 in
set_option maxRecDepth 1000000 in
theorem reg17_67_any (b1 B : Nat) (LP : Bool → World → Prop) (w : World) (h0 : w.cell? ⟨b1, 0, none⟩ = some (.pointer (some ⟨B, 0, none⟩))) (DA : Hid (Calls Yba.prog 28 #[.pointer (some ⟨B, 0, none⟩)] w fun e w' => ∃ bb, e = .returned (.bool bb) ∧ LP bb w')) (K : Act → World → Prop) (u0 u1 u2 u4 u5 u6 u7 u8 u9 u10 u11 u12 u13 u14 u15 u16 u17 u18 u19 u20 u21 u22 u23 u24 u25 u26 u27 u28 u29 u30 u31 u32 u33 u34 u35 u36 u37 u38 u39 u40 u41 u42 u43 u44 u45 u46 u47 u48 u49 u50 u51 u52 u53 u54 u55 u56 u57 u58 u59 u60 u61 u62 u63 u64 u65 u66 u67 u68 u69 u70 u71 u72 u73 u74 u75 u76 u77 u78 u79 u80 u81 u82 u83 u84 u85 u86 u87 u88 u89 u90 u91 u92 u93 u94 u95 u96 u97 u98 u99 u100 u101 u102 u103 u104 u105 u106 u107 u108 u109 u110 u111 u112 u113 u114 u115 u116 u117 u118 u119 u120 u121 u122 u123 u124 u125 u126 u127 u128 u129 u130 u131 u132 u133 u134 u135 u136 u137 u138 u139 u140 u141 u142 u143 u144 u145 u146 u147 u148 u149 u150 u151 u152 u153 u154 u155 u156 u157 u158 u159 u160 u161 u162 u163 u164 u165 u166 u167 u168 u169 u170 u171 u172 u173 u174 u175 u176 u177 u178 u179 u180 u181 u182 u183 u184 u185 u186 u187 u188 u189 u190 u191 u192 u193 u194 u195 u196 u197 u198 u199 u200 u201 u202 u203 u204 u205 u206 u207 u208 u209 u210 u211 u212 u213 u214 u215 u216 u217 u218 u219 u220 u221 u222 u223 u224 u225 u226 u227 u228 u229 u230 u231 u232 u233 u234 u235 u236 u237 u238 u239 u240 u241 u242 u243 u244 u245 u246 u247 u248 u249 u250 u251 u252 u253 u254 u255 u256 u257 u258 u259 u260 u261 u262 u263 u264 u265 u266 u267 u268 u269 u270 u271 u272 u273 u274 u275 u276 u277 u278 u279 u280 u281 u282 u283 u284 u285 u286 u287 u288 u289 u290 u291 u292 u293 u294 u295 u296 u297 u298 u299 u300 u301 u302 u303 u304 u305 u306 u307 u308 u309 u310 u311 u312 u313 u314 u315 u316 u317 u318 u319 u320 u321 u322 u323 u324 u325 u326 u327 u328 u329 u330 u331 u332 u333 u334 u335 u336 u337 u338 u339 u340 u341 u342 u343 u344 u345 u346 u347 u348 u349 u350 u351 u352 u353 u354 u355 u356 u357 u358 u359 u360 u361 u362 u363 u364 u365 u366 u367 u368 u369 u370 u371 u372 u373 u374 u375 u376 u377 u378 u379 u380 u381 u382 u383 u384 u385 u386 u387 u388 u389 u390 u391 u392 u393 u394 u395 u396 u397 u398 u399 u400 u401 u402 u403 u404 u405 u406 u407 u408 u409 u410 u411 u412 u413 u414 u415 u416 u417 u418 u419 u420 u421 u422 u423 u424 u425 u426 u427 u428 u429 u430 u431 u432 u433 u434 u435 u436 u437 u438 u439 u440 u441 u442 u443 u444 u445 u446 u447 u448 u449 u450 u451 u452 u453 u454 u455 u456 u457 u458 u459 u460 u461 u462 u463 u464 u465 : Value)
    (hK : Hid (∀ (bb : Bool) (wx : World) (_ : LP bb wx) (x357 x358 : Value), K ⟨(u0 :: u1 :: u2 :: .pointer (some ⟨b1, 0, none⟩) :: u4 :: u5 :: u6 :: u7 :: u8 :: u9 :: u10 :: u11 :: u12 :: u13 :: u14 :: u15 :: u16 :: u17 :: u18 :: u19 :: u20 :: u21 :: u22 :: u23 :: u24 :: u25 :: u26 :: u27 :: u28 :: u29 :: u30 :: u31 :: u32 :: u33 :: u34 :: u35 :: u36 :: u37 :: u38 :: u39 :: u40 :: u41 :: u42 :: u43 :: u44 :: u45 :: u46 :: u47 :: u48 :: u49 :: u50 :: u51 :: u52 :: u53 :: u54 :: u55 :: u56 :: u57 :: u58 :: u59 :: u60 :: u61 :: u62 :: u63 :: u64 :: u65 :: u66 :: u67 :: u68 :: u69 :: u70 :: u71 :: u72 :: u73 :: u74 :: u75 :: u76 :: u77 :: u78 :: u79 :: u80 :: u81 :: u82 :: u83 :: u84 :: u85 :: u86 :: u87 :: u88 :: u89 :: u90 :: u91 :: u92 :: u93 :: u94 :: u95 :: u96 :: u97 :: u98 :: u99 :: u100 :: u101 :: u102 :: u103 :: u104 :: u105 :: u106 :: u107 :: u108 :: u109 :: u110 :: u111 :: u112 :: u113 :: u114 :: u115 :: u116 :: u117 :: u118 :: u119 :: u120 :: u121 :: u122 :: u123 :: u124 :: u125 :: u126 :: u127 :: u128 :: u129 :: u130 :: u131 :: u132 :: u133 :: u134 :: u135 :: u136 :: u137 :: u138 :: u139 :: u140 :: u141 :: u142 :: u143 :: u144 :: u145 :: u146 :: u147 :: u148 :: u149 :: u150 :: u151 :: u152 :: u153 :: u154 :: u155 :: u156 :: u157 :: u158 :: u159 :: u160 :: u161 :: u162 :: u163 :: u164 :: u165 :: u166 :: u167 :: u168 :: u169 :: u170 :: u171 :: u172 :: u173 :: u174 :: u175 :: u176 :: u177 :: u178 :: u179 :: u180 :: u181 :: u182 :: u183 :: u184 :: u185 :: u186 :: u187 :: u188 :: u189 :: u190 :: u191 :: u192 :: u193 :: u194 :: u195 :: u196 :: u197 :: u198 :: u199 :: u200 :: u201 :: u202 :: u203 :: u204 :: u205 :: u206 :: u207 :: u208 :: u209 :: u210 :: u211 :: u212 :: u213 :: u214 :: u215 :: u216 :: u217 :: u218 :: u219 :: u220 :: u221 :: u222 :: u223 :: u224 :: u225 :: u226 :: u227 :: u228 :: u229 :: u230 :: u231 :: u232 :: u233 :: u234 :: u235 :: u236 :: u237 :: u238 :: u239 :: u240 :: u241 :: u242 :: u243 :: u244 :: u245 :: u246 :: u247 :: u248 :: u249 :: u250 :: u251 :: u252 :: u253 :: u254 :: u255 :: u256 :: u257 :: u258 :: u259 :: u260 :: u261 :: u262 :: u263 :: u264 :: u265 :: u266 :: u267 :: u268 :: u269 :: u270 :: u271 :: u272 :: u273 :: u274 :: u275 :: u276 :: u277 :: u278 :: u279 :: u280 :: u281 :: u282 :: u283 :: u284 :: u285 :: u286 :: u287 :: u288 :: u289 :: u290 :: u291 :: u292 :: u293 :: u294 :: u295 :: u296 :: u297 :: u298 :: u299 :: u300 :: u301 :: u302 :: u303 :: u304 :: u305 :: u306 :: u307 :: u308 :: u309 :: u310 :: u311 :: u312 :: u313 :: u314 :: u315 :: u316 :: u317 :: u318 :: u319 :: u320 :: u321 :: u322 :: u323 :: u324 :: u325 :: u326 :: u327 :: u328 :: u329 :: u330 :: u331 :: u332 :: u333 :: u334 :: u335 :: u336 :: u337 :: u338 :: u339 :: u340 :: u341 :: u342 :: u343 :: u344 :: u345 :: u346 :: u347 :: u348 :: u349 :: u350 :: u351 :: u352 :: u353 :: u354 :: u355 :: u356 :: x357 :: x358 :: .bool (!bb) :: u360 :: u361 :: u362 :: u363 :: u364 :: u365 :: u366 :: u367 :: u368 :: u369 :: u370 :: u371 :: u372 :: u373 :: u374 :: u375 :: u376 :: u377 :: u378 :: u379 :: u380 :: u381 :: u382 :: u383 :: u384 :: u385 :: u386 :: u387 :: u388 :: u389 :: u390 :: u391 :: u392 :: u393 :: u394 :: u395 :: u396 :: u397 :: u398 :: u399 :: u400 :: u401 :: u402 :: u403 :: u404 :: u405 :: u406 :: u407 :: u408 :: u409 :: u410 :: u411 :: u412 :: u413 :: u414 :: u415 :: u416 :: u417 :: u418 :: u419 :: u420 :: u421 :: u422 :: u423 :: u424 :: u425 :: u426 :: u427 :: u428 :: u429 :: u430 :: u431 :: u432 :: u433 :: u434 :: u435 :: u436 :: u437 :: u438 :: u439 :: u440 :: u441 :: u442 :: u443 :: u444 :: u445 :: u446 :: u447 :: u448 :: u449 :: u450 :: u451 :: u452 :: u453 :: u454 :: u455 :: u456 :: u457 :: u458 :: u459 :: u460 :: u461 :: u462 :: u463 :: u464 :: u465 :: []).toArray, []⟩ (wx))) :
    Code.wp Yba.prog (regOf Yba.f17 67) (Exit.then K (fun _ _ _ => False)) ⟨(u0 :: u1 :: u2 :: .pointer (some ⟨b1, 0, none⟩) :: u4 :: u5 :: u6 :: u7 :: u8 :: u9 :: u10 :: u11 :: u12 :: u13 :: u14 :: u15 :: u16 :: u17 :: u18 :: u19 :: u20 :: u21 :: u22 :: u23 :: u24 :: u25 :: u26 :: u27 :: u28 :: u29 :: u30 :: u31 :: u32 :: u33 :: u34 :: u35 :: u36 :: u37 :: u38 :: u39 :: u40 :: u41 :: u42 :: u43 :: u44 :: u45 :: u46 :: u47 :: u48 :: u49 :: u50 :: u51 :: u52 :: u53 :: u54 :: u55 :: u56 :: u57 :: u58 :: u59 :: u60 :: u61 :: u62 :: u63 :: u64 :: u65 :: u66 :: u67 :: u68 :: u69 :: u70 :: u71 :: u72 :: u73 :: u74 :: u75 :: u76 :: u77 :: u78 :: u79 :: u80 :: u81 :: u82 :: u83 :: u84 :: u85 :: u86 :: u87 :: u88 :: u89 :: u90 :: u91 :: u92 :: u93 :: u94 :: u95 :: u96 :: u97 :: u98 :: u99 :: u100 :: u101 :: u102 :: u103 :: u104 :: u105 :: u106 :: u107 :: u108 :: u109 :: u110 :: u111 :: u112 :: u113 :: u114 :: u115 :: u116 :: u117 :: u118 :: u119 :: u120 :: u121 :: u122 :: u123 :: u124 :: u125 :: u126 :: u127 :: u128 :: u129 :: u130 :: u131 :: u132 :: u133 :: u134 :: u135 :: u136 :: u137 :: u138 :: u139 :: u140 :: u141 :: u142 :: u143 :: u144 :: u145 :: u146 :: u147 :: u148 :: u149 :: u150 :: u151 :: u152 :: u153 :: u154 :: u155 :: u156 :: u157 :: u158 :: u159 :: u160 :: u161 :: u162 :: u163 :: u164 :: u165 :: u166 :: u167 :: u168 :: u169 :: u170 :: u171 :: u172 :: u173 :: u174 :: u175 :: u176 :: u177 :: u178 :: u179 :: u180 :: u181 :: u182 :: u183 :: u184 :: u185 :: u186 :: u187 :: u188 :: u189 :: u190 :: u191 :: u192 :: u193 :: u194 :: u195 :: u196 :: u197 :: u198 :: u199 :: u200 :: u201 :: u202 :: u203 :: u204 :: u205 :: u206 :: u207 :: u208 :: u209 :: u210 :: u211 :: u212 :: u213 :: u214 :: u215 :: u216 :: u217 :: u218 :: u219 :: u220 :: u221 :: u222 :: u223 :: u224 :: u225 :: u226 :: u227 :: u228 :: u229 :: u230 :: u231 :: u232 :: u233 :: u234 :: u235 :: u236 :: u237 :: u238 :: u239 :: u240 :: u241 :: u242 :: u243 :: u244 :: u245 :: u246 :: u247 :: u248 :: u249 :: u250 :: u251 :: u252 :: u253 :: u254 :: u255 :: u256 :: u257 :: u258 :: u259 :: u260 :: u261 :: u262 :: u263 :: u264 :: u265 :: u266 :: u267 :: u268 :: u269 :: u270 :: u271 :: u272 :: u273 :: u274 :: u275 :: u276 :: u277 :: u278 :: u279 :: u280 :: u281 :: u282 :: u283 :: u284 :: u285 :: u286 :: u287 :: u288 :: u289 :: u290 :: u291 :: u292 :: u293 :: u294 :: u295 :: u296 :: u297 :: u298 :: u299 :: u300 :: u301 :: u302 :: u303 :: u304 :: u305 :: u306 :: u307 :: u308 :: u309 :: u310 :: u311 :: u312 :: u313 :: u314 :: u315 :: u316 :: u317 :: u318 :: u319 :: u320 :: u321 :: u322 :: u323 :: u324 :: u325 :: u326 :: u327 :: u328 :: u329 :: u330 :: u331 :: u332 :: u333 :: u334 :: u335 :: u336 :: u337 :: u338 :: u339 :: u340 :: u341 :: u342 :: u343 :: u344 :: u345 :: u346 :: u347 :: u348 :: u349 :: u350 :: u351 :: u352 :: u353 :: u354 :: u355 :: u356 :: u357 :: u358 :: u359 :: u360 :: u361 :: u362 :: u363 :: u364 :: u365 :: u366 :: u367 :: u368 :: u369 :: u370 :: u371 :: u372 :: u373 :: u374 :: u375 :: u376 :: u377 :: u378 :: u379 :: u380 :: u381 :: u382 :: u383 :: u384 :: u385 :: u386 :: u387 :: u388 :: u389 :: u390 :: u391 :: u392 :: u393 :: u394 :: u395 :: u396 :: u397 :: u398 :: u399 :: u400 :: u401 :: u402 :: u403 :: u404 :: u405 :: u406 :: u407 :: u408 :: u409 :: u410 :: u411 :: u412 :: u413 :: u414 :: u415 :: u416 :: u417 :: u418 :: u419 :: u420 :: u421 :: u422 :: u423 :: u424 :: u425 :: u426 :: u427 :: u428 :: u429 :: u430 :: u431 :: u432 :: u433 :: u434 :: u435 :: u436 :: u437 :: u438 :: u439 :: u440 :: u441 :: u442 :: u443 :: u444 :: u445 :: u446 :: u447 :: u448 :: u449 :: u450 :: u451 :: u452 :: u453 :: u454 :: u455 :: u456 :: u457 :: u458 :: u459 :: u460 :: u461 :: u462 :: u463 :: u464 :: u465 :: []).toArray, []⟩ w := by
  conv => arg 2; whnf
  go_wp2_with (go_at_call 28; refine DA.out.mono ?_; rintro e w5 ⟨bb, rfl, hl5⟩)
  exact hK.out _ _ hl5 _ _

set_option maxHeartbeats 8000000 in
set_option maxRecDepth 1000000 in
theorem satIn_any (C Lb : Nat) (O : List OpR) (Q : List Nat) (P : Nat → List Nat) (F : List (List Nat)) (vo vp vf vs vk vpc vps vsr vrd vsw : Value) (Cb gof gat : Nat) (vW vR vL : Value) (co po : Nat → Nat) (B G : Nat) (gs gp : Value) (E : List (Nat × Nat)) (hon : Bool) (stl : Prop) (ρ : Rho) (w : World) (hO : O.length ≤ 2000) (hQ : Q.length ≤ 3) (hco : Col O.length (Q.map P) co po) (hlk : Lks O (Q.map P) hon) (hrd : RdOk O O.length F) (hE : ∀ e ∈ E, e.1 < e.2 ∧ e.2 < O.length) (hEl : E.length ≤ 100000) (hch : ∀ c i, c < (Q.map P).length → i + 1 < ((Q.map P)[c]!).length → (((Q.map P)[c]!)[i]!, ((Q.map P)[c]!)[i + 1]!) ∈ E) (hK2 : kk O ≤ 2000) (hstl : stl → Stl O (Q.map P) co po)
    (hsta : Sta ρ w C Lb O Q P F vo vp vf vs vk vpc vps vsr vrd vsw Cb gof gat vW vR vL co po) (hclo : St ρ w .clo B 69 #[.pointer (some ⟨Lb, 0, none⟩), .pointer none, .pointer (some ⟨G, 0, none⟩), .slice none 0 0, .slice none 0 0, .bool false, .slice none 0 0, .slice none 0 0, .slice none 0 0, .slice none 0 0, .slice none 0 0]) (hgr : Gr ρ w G (succOf O.length E) (predOf O.length E) gs gp) :
    Calls Yba.prog 17 #[.pointer (some ⟨B, 0, none⟩), .pointer (some ⟨Cb, 0, none⟩), .slice none 0 0] w fun e w' => SatP hon stl ρ w e w' := by
  have HCO := hide hco
  have HLK := hide hlk
  have HRD := hide hrd
  have HE := hide hE
  have HCH := hide hch
  have HSTL := hide hstl
  have s1 : Stp (fun _ => False) ρ w (ext ρ w (.tmp 1)) (w.alloc (.cells #[.pointer (some ⟨B, 0, none⟩)] 25)) := (Stp.refl _ ρ w).alloc _ _
  have hclo1 := hclo.keep s1 (fun h => h)
  have s2 := hclo1.store 1 (.pointer (some ⟨Cb, 0, none⟩))
  have hclo2 := hclo1.set 1 (.pointer (some ⟨Cb, 0, none⟩))
  have HPA : Hid (Pa (ext ρ w (.tmp 1)) ((w.alloc (.cells #[.pointer (some ⟨B, 0, none⟩)] 25)).setCell ⟨B, 1, none⟩ (.pointer (some ⟨Cb, 0, none⟩))) C Lb O Q P F vo vp vf vs vk vpc vps vsr vrd vsw Cb gof gat vW vR vL co po B G gs gp (.slice none 0 0) (.slice none 0 0) w.heap.size E) := ⟨(hsta.keep s1 (fun _ _ h => h)).keep s2 (fun r hr e => by subst e; exact RV.rt hr (by simp [RV])), hclo2, (hgr.keep s1 (fun h => h) (fun h => h) (fun _ h => h) (fun h => h) (fun _ h => h)).keep s2 (by decide) (by decide) (by simp) (by decide) (by simp), St.new.keep s2 (by decide)⟩
  have HS1 : Hid (Stp RN ρ w (ext ρ w (.tmp 1)) ((w.alloc (.cells #[.pointer (some ⟨B, 0, none⟩)] 25)).setCell ⟨B, 1, none⟩ (.pointer (some ⟨Cb, 0, none⟩)))) := (s1.rn (fun h => h)).trans (s2.rn (by decide))
  have c1 := fun o => cell?_alloc_old o (hclo.cell 1 rfl)
  have fz : ∀ o, (w.alloc o).frozen? ⟨B, 1, none⟩ = false := fun o => (hclo.keep ((Stp.refl (fun _ => False) ρ w).alloc o .no) (fun h => h)).free 1
  have nB := World.new_ne w _ (hclo.cell 1 rfl)
  clear hco hlk hrd hE hch hstl hsta hgr s1 s2 hclo1 hclo2 hclo
  go_enter Yba.func17, Yba.ntmps17
  go_upto_block 0 with fail
  obtain ⟨b1, eb1⟩ : ∃ b1, b1 = w.heap.size := ⟨_, rfl⟩
  obtain ⟨W1, eW1⟩ : ∃ W1, W1 = (w.alloc (.cells #[.pointer (some ⟨B, 0, none⟩)] 25)).setCell ⟨B, 1, none⟩ (.pointer (some ⟨Cb, 0, none⟩)) := ⟨_, rfl⟩
  obtain ⟨ρ1, eρ1⟩ : ∃ ρ1, ρ1 = ext ρ w (.tmp 1) := ⟨_, rfl⟩
  rw [← eρ1, ← eW1, ← eb1] at HPA
  rw [← eρ1, ← eW1] at HS1
  rw [← eW1, ← eb1]
  clear eb1 eW1 eρ1 c1 fz nB
  refine wp_then (blk17_0_any W1 _ _ _ _ _ _ _ _ _ _ _ _ _ _ _ _ _ _ _ _ _ _ _ _ _ _ _ _ _ _ _ _ _ _ _ _ _ _ _ _ _ _ _ _ _ _ _ _ _ _ _ _ _ _ _ _ _ _ _ _ _ _ _ _ _ _ _ _ _ _ _ _ _ _ _ _ _ _ _ _ _ _ _ _ _ _ _ _ _ _ _ _ _ _ _ _ _ _ _ _ _ _ _ _ _ _ _ _ _ _ _ _ _ _ _ _ _ _ _ _ _ _ _ _ _ _ _ _ _ _ _ _ _ _ _ _ _ _ _ _ _ _ _ _ _ _ _ _ _ _ _ _ _ _ _ _ _ _ _ _ _ _ _ _ _ _ _ _ _ _ _ _ _ _ _ _ _ _ _ _ _ _ _ _ _ _ _ _ _ _ _ _ _ _ _ _ _ _ _ _ _ _ _ _ _ _ _ _ _ _ _ _ _ _ _ _ _ _ _ _ _ _ _ _ _ _ _ _ _ _ _ _ _ _ _ _ _ _ _ _ _ _ _ _ _ _ _ _ _ _ _ _ _ _ _ _ _ _ _ _ _ _ _ _ _ _ _ _ _ _ _ _ _ _ _ _ _ _ _ _ _ _ _ _ _ _ _ _ _ _ _ _ _ _ _ _ _ _ _ _ _ _ _ _ _ _ _ _ _ _ _ _ _ _ _ _ _ _ _ _ _ _ _ _ _ _ _ _ _ _ _ _ _ _ _ _ _ _ _ _ _ _ _ _ _ _ _ _ _ _ _ _ _ _ _ _ _ _ _ _ _ _ _ _ _ _ _ _ _ _ _ _ _ _ _ _ _ _ _ _ _ _ _ _ _ _ _ _ _ _ _ _ _ _ _ _ _ _ _ _ _ _ _ _ _ _ _ _ _ _ _ _ _ _ _ _ _ _ _ _ _ _ _ _ _ _ _ _ _ _ _ _ _ _ _ _ _ _ _ _ _ _ _ _ _ _ _ _ _ _ _ _ _ _ _ _ _ _ _ _ _ _ _ _ ?_)
  rintro x8 x47 x48 x49 x50 x51 x52 x53 x54 x55 x56 x57 x58 x59 x60 wx hwx
  subst hwx
  have hp := HPA.out
  have b100 := hp.box.cell 0 rfl
  have c2 := hp.clo.cell 2 rfl
  have s1 : Stp (fun _ => False) ρ1 wx (ext ρ1 wx (.tmp 1)) (wx.alloc (.cells #[.pointer (some ⟨G, 0, none⟩)] 59)) := (Stp.refl _ ρ1 wx).alloc _ _
  have hp2 := hp.keep s1 (fun _ h => h.elim)
  have TA := hide (topo_any G O.length wx.heap.size 1 gs gp E _ _ hO HE.out hEl hp2.gr (St.new (ρ := ρ1) (w := wx) (r := .tmp 1)))
  have HP2 := hide hp2
  have HS2 := hide (HS1.out.trans (s1.rn (fun h => h)))
  clear hp hp2 s1 HPA HS1
  go_upto_region 8 with (go_at_call 26; refine TA.out.mono ?_; rintro e W2 ⟨ρ2, vT, T, rfl, hT, hTl, hTa, hnd, hTn, hord, hst2⟩)
  have hp := HP2.out.keep hst2 (fun r h => .inr (.inr h))
  have HP3 := hide hp
  have HS3 := hide (HS2.out.trans (hst2.rn (by simp [R3])))
  obtain ⟨aT, cT, hvT, _, _⟩ := Row.form hT
  have hvT' : vT = .slice aT T.length cT := hvT
  subst hvT'
  have hT2 : T.length ≤ 2000 := by omega
  have HT := hide hT
  have HTL := hide hTl
  have HTA := hide hTa
  have HND := hide hnd
  have HTN := hide hTn
  have HORD := hide hord
  obtain ⟨vsP, hPl, hPr, _⟩ := hp.sta.base.chk.prc.ex
  obtain ⟨aP, cP, hvP, _, _⟩ := hPr.form
  rw [List.length_map] at hvP
  have k2 : W2.cell? ⟨Cb, 2, none⟩ = some (.slice aP Q.length cP) := by rw [← hvP]; exact hp.sta.cst.cell 2 rfl
  obtain ⟨ao, cao, hvo, _, _⟩ := hp.sta.base.chk.ops.form
  have HVO := hide hvo
  have q0 : W2.cell? ⟨C, 0, none⟩ = some (.slice ao O.length cao) := by rw [← hvo]; exact hp.sta.base.chk.chk.cell 0 rfl
  have b101 := hp.box.cell 0 rfl
  have c0 := hp.clo.cell 0 rfl
  have c3 := hp.clo.cell 3 rfl
  have l0 := hp.sta.base.st.cell 0 rfl
  have hN6 : O.length * Q.length ≤ 6000 := Nat.le_trans (Nat.mul_le_mul hO hQ) (by decide)
  obtain ⟨N, eN⟩ : ∃ N, N = O.length * Q.length := ⟨_, rfl⟩
  rw [← eN] at hN6
  have HN := hide eN
  have hS3 : Hid (∀ o x, ((W2.alloc o).setCell ⟨B, 3, none⟩ x).cell? ⟨b1, 0, none⟩ = some (.pointer (some ⟨B, 0, none⟩)) ∧ ((W2.alloc o).setCell ⟨B, 3, none⟩ x).cell? ⟨B, 0, none⟩ = some (.pointer (some ⟨Lb, 0, none⟩)) ∧ ((W2.alloc o).setCell ⟨B, 3, none⟩ x).cell? ⟨Lb, 0, none⟩ = some (.pointer (some ⟨C, 0, none⟩)) ∧ ((W2.alloc o).setCell ⟨B, 3, none⟩ x).cell? ⟨C, 0, none⟩ = some (.slice ao O.length cao)) := fun o x => by
    have h1 := HP3.out.keep ((Stp.refl (fun _ => False) ρ2 W2).alloc o .no) (fun _ h => h.elim)
    have s2 := h1.clo.store 3 x
    refine ⟨(h1.box.keep s2 (by decide)).cell 0 rfl, (h1.clo.set 3 x).cell 0 rfl, (h1.sta.base.st.keep s2 (by decide)).cell 0 rfl, ?_⟩
    rw [← HVO.out]; exact (h1.sta.base.chk.chk.keep s2 (by decide)).cell 0 rfl
  have f4 : ∀ o, (W2.alloc o).frozen? ⟨B, 3, none⟩ = false := fun o => (HP3.out.keep ((Stp.refl (fun _ => False) ρ2 W2).alloc o .no) (fun _ h => h.elim)).clo.free 3
  clear hp hst2 hT hTl hTa hnd hTn hord hPl hPr hvP hvo TA HP2 HS2 b100 c2 hvT
  go_upto_region 11 with fail
  refine wp_then (reg17_11_any b1 B Lb C O.length Q.length N cao ao _ W2 eN hN6 b101 c0 l0 q0 c3 hS3 f4 _ _ _ _ _ _ _ _ _ _ _ _ _ _ _ _ _ _ _ _ _ _ _ _ _ _ _ _ _ _ _ _ _ _ _ _ _ _ _ _ _ _ _ _ _ _ _ _ _ _ _ _ _ _ _ _ _ _ _ _ _ _ _ _ _ _ _ _ _ _ _ _ _ _ _ _ _ _ _ _ _ _ _ _ _ _ _ _ _ _ _ _ _ _ _ _ _ _ _ _ _ _ _ _ _ _ _ _ _ _ _ _ _ _ _ _ _ _ _ _ _ _ _ _ _ _ _ _ _ _ _ _ _ _ _ _ _ _ _ _ _ _ _ _ _ _ _ _ _ _ _ _ _ _ _ _ _ _ _ _ _ _ _ _ _ _ _ _ _ _ _ _ _ _ _ _ _ _ _ _ _ _ _ _ _ _ _ _ _ _ _ _ _ _ _ _ _ _ _ _ _ _ _ _ _ _ _ _ _ _ _ _ _ _ _ _ _ _ _ _ _ _ _ _ _ _ _ _ _ _ _ _ _ _ _ _ _ _ _ _ _ _ _ _ _ _ _ _ _ _ _ _ _ _ _ _ _ _ _ _ _ _ _ _ _ _ _ _ _ _ _ _ _ _ _ _ _ _ _ _ _ _ _ _ _ _ _ _ _ _ _ _ _ _ _ _ _ _ _ _ _ _ _ _ _ _ _ _ _ _ _ _ _ _ _ _ _ _ _ _ _ _ _ _ _ _ _ _ _ _ _ _ _ _ _ _ _ _ _ _ _ _ _ _ _ _ _ _ _ _ _ _ _ _ _ _ _ _ _ _ _ _ _ _ _ _ _ _ _ _ _ _ _ _ _ _ _ _ _ _ _ _ _ _ _ _ _ _ _ _ _ _ _ _ _ _ _ _ _ _ _ _ _ _ _ _ _ _ _ _ _ _ _ _ _ _ _ _ _ _ _ _ _ _ _ _ _ _ _ _ _ _ _ _ _ _ _ _ _ _ _ _ _ _ _ _ _ _ _ _ _ _ _ _ _ _ _ _ _ _ _ _ _ _ _ ?_)
  rintro x77 x78 x79 x80 x81 x82 x83 x84 x85 x86 x87 x88 x89 x90 x91 x92 x93
  have s1 : Stp (fun _ => False) ρ2 W2 (ext ρ2 W2 .reach) (W2.alloc (.cells (madeCells #[.int .i32 0] N) 21)) := (Stp.refl _ ρ2 W2).alloc _ _
  have r1 := R32.made (ρ := ρ2) (w := W2) (r := .reach) (n := N) (by unfold maxLen; omega)
  obtain ⟨p2, s2⟩ := (HP3.out.keep s1 (fun _ h => h.elim)).set (.slice (some ⟨W2.heap.size, 0, none⟩) N N) (.slice none 0 0) 3 (.slice (some ⟨W2.heap.size, 0, none⟩) N N) rfl
  have t1 := (HT.out.keep s1 (fun h => h)).keep s2 (by decide)
  have r2 := r1.keep s2 (by decide)
  obtain ⟨W3, eW3⟩ : ∃ W3, W3 = ((W2.alloc (.cells (madeCells #[.int .i32 0] N) 21)).setCell ⟨B, 3, none⟩ (.slice (some ⟨W2.heap.size, 0, none⟩) N N)).drew := ⟨_, rfl⟩
  have s3 : Stp (fun _ => False) (ext ρ2 W2 .reach) ((W2.alloc (.cells (madeCells #[.int .i32 0] N) 21)).setCell ⟨B, 3, none⟩ (.slice (some ⟨W2.heap.size, 0, none⟩) N N)) (ext ρ2 W2 .reach) W3 := by rw [eW3]; exact (Stp.refl _ _ _).drewN 1
  have p3 := p2.keep s3 (fun _ h => h.elim)
  have t2 := t1.keep s3 (fun h => h)
  have r3 := r2.keep s3 (fun h => h)
  have HS4 := hide (((HS3.out.trans (s1.rn (fun h => h))).trans (s2.rn (by decide))).trans (s3.rn (fun h => h)))
  obtain ⟨gR, egR⟩ : ∃ gR, gR = W2.heap.size := ⟨_, rfl⟩
  obtain ⟨ρ3, eρ3⟩ : ∃ ρ3, ρ3 = ext ρ2 W2 .reach := ⟨_, rfl⟩
  rw [← egR] at p3 r3
  rw [← eρ3] at p3 t2 r3 HS4
  rw [← eW3]
  have HP4 := hide p3
  have HSTA := hide p3.sta
  have HCLO := hide p3.clo
  have HBX := hide p3.box
  have HGR := hide p3.gr
  have HT3 := hide t2
  have HRZ : Hid (Rz (Q.map P) co po E [] ρ3 W3 gR N W3) := ⟨_, r3, fun v hv => absurd hv List.not_mem_nil, Stp.refl _ _ _⟩
  clear s1 r1 p2 s2 t1 r2 s3 p3 t2 r3 eW3 egR eρ3 HP3 HS3 HT b101 c0 c3 l0 q0 k2 hS3 f4 eN
  go_upto_block 2 with fail
  refine wp_then (blk17_2_any C Lb O Q P F vo vp vf vs vk vpc vps vsr vrd vsw Cb gof gat vW vR vL co po (Q.map P) E T B G b1 gR Q.length N gs gp aT cT ρ3 W3 W3 HCO HE rfl (by show _ = _; rw [col_len]) HSTA HCLO HBX HGR HT3 HTL.out HND HTN HTA HORD hEl HN hO hN6 hQ HRZ _ _ _ _ _ _ _ _ _ _ _ _ _ _ _ _ _ _ _ _ _ _ _ _ _ _ _ _ _ _ _ _ _ _ _ _ _ _ _ _ _ _ _ _ _ _ _ _ _ _ _ _ _ _ _ _ _ _ _ _ _ _ _ _ _ _ _ _ _ _ _ _ _ _ _ _ _ _ _ _ _ _ _ _ _ _ _ _ _ _ _ _ _ _ _ _ _ _ _ _ _ _ _ _ _ _ _ _ _ _ _ _ _ _ _ _ _ _ _ _ _ _ _ _ _ _ _ _ _ _ _ _ _ _ _ _ _ _ _ _ _ _ _ _ _ _ _ _ _ _ _ _ _ _ _ _ _ _ _ _ _ _ _ _ _ _ _ _ _ _ _ _ _ _ _ _ _ _ _ _ _ _ _ _ _ _ _ _ _ _ _ _ _ _ _ _ _ _ _ _ _ _ _ _ _ _ _ _ _ _ _ _ _ _ _ _ _ _ _ _ _ _ _ _ _ _ _ _ _ _ _ _ _ _ _ _ _ _ _ _ _ _ _ _ _ _ _ _ _ _ _ _ _ _ _ _ _ _ _ _ _ _ _ _ _ _ _ _ _ _ _ _ _ _ _ _ _ _ _ _ _ _ _ _ _ _ _ _ _ _ _ _ _ _ _ _ _ _ _ _ _ _ _ _ _ _ _ _ _ _ _ _ _ _ _ _ _ _ _ _ _ _ _ _ _ _ _ _ _ _ _ _ _ _ _ _ _ _ _ _ _ _ _ _ _ _ _ _ _ _ _ _ _ _ _ _ _ _ _ _ _ _ _ _ _ _ _ _ _ _ _ _ _ _ _ _ _ _ _ _ _ _ _ _ _ _ _ _ _ _ _ _ _ _ _ _ _ _ _ _ _ _ _ _ _ _ _ _ _ _ _ _ _ _ _ _ _ _ _ _ _ _ _ _ _ _ _ _ _ _ _ _ _ _ _ _ _ _ _ _ _ _ _ _ _ _ _ _ _ _ _ _ _ _ _ _ _ _ _ _ _ _ ?_)
  rintro x12 x13 x14 x15 x17 x18 x19 x20 x97 x98 x99 x100 x101 x102 x103 x104 x105 x106 x107 x108 x109 x110 x111 x112 x113 x114 x115 x116 x117 x118 x119 x120 x121 x122 x123 x124 x125 x126 x127 x128 x129 x130 x131 x132 x133 x134 x135 x136 x137 x138 x139 x140 x141 x142 x143 x144 x145 x146 x147 x148 x149 x150 x151 x152 x153 x154 x155 x156 x157 x158 x159 x160 x161 x162 x163 x164 x165 x166 x167 x168 x169 x170 x171 x172 x173 x174 x175 x176 x177 x178 x179 x180 x181 x182 x183 x184 x185 x186 x187 x188 x189 x190 x191 x192 x193 x194 x195 x196 x197 x198 x199 x200 x201 x202 x203 W4 hz4
  obtain ⟨f, hr4, hws, hst4⟩ := hz4
  have HINV : Hid (Inv O (Q.map P) E f []) := inv_start HCO.out HE.out HCH.out HTA.out hws
  have HP5 := hide (HP4.out.keep hst4 (fun _ h => .inl h))
  have HS5 := hide (HS4.out.trans (hst4.rn (by decide)))
  have HR5 := hide hr4
  clear hr4 hws hst4 HP4 HS4 HSTA HCLO HBX HGR HT3 HRZ HTL HTA HND HTN HORD HCH
  have hp := HP5.out
  have b102 := hp.box.cell 0 rfl
  have c0 := hp.clo.cell 0 rfl
  have c4 := hp.clo.cell 4 rfl
  have l1 : W4.cell? ⟨Lb, 1, none⟩ = some (.int .i64 ((kk O : Nat) : Int)) := hp.sta.base.st.cell 1 rfl
  have hS3 : Hid (∀ o x, ((W4.alloc o).setCell ⟨B, 4, none⟩ x).cell? ⟨b1, 0, none⟩ = some (.pointer (some ⟨B, 0, none⟩)) ∧ ((W4.alloc o).setCell ⟨B, 4, none⟩ x).cell? ⟨B, 0, none⟩ = some (.pointer (some ⟨Lb, 0, none⟩)) ∧ ((W4.alloc o).setCell ⟨B, 4, none⟩ x).cell? ⟨Lb, 1, none⟩ = some (.int .i64 ((kk O : Nat) : Int))) := fun o x => by
    have h1 := HP5.out.keep ((Stp.refl (fun _ => False) ρ3 W4).alloc o .no) (fun _ h => h.elim)
    have s2 := h1.clo.store 4 x
    exact ⟨(h1.box.keep s2 (by decide)).cell 0 rfl, (h1.clo.set 4 x).cell 0 rfl, (h1.sta.base.st.keep s2 (by decide)).cell 1 rfl⟩
  have f4 : ∀ o, (W4.alloc o).frozen? ⟨B, 4, none⟩ = false := fun o => (HP5.out.keep ((Stp.refl (fun _ => False) ρ3 W4).alloc o .no) (fun _ h => h.elim)).clo.free 4
  clear hp
  go_upto_region 34 with fail
  refine wp_then (reg17_34_any b1 B Lb (kk O) _ W4 (by omega) b102 c0 l1 c4 hS3 f4 _ _ _ _ _ _ _ _ _ _ _ _ _ _ _ _ _ _ _ _ _ _ _ _ _ _ _ _ _ _ _ _ _ _ _ _ _ _ _ _ _ _ _ _ _ _ _ _ _ _ _ _ _ _ _ _ _ _ _ _ _ _ _ _ _ _ _ _ _ _ _ _ _ _ _ _ _ _ _ _ _ _ _ _ _ _ _ _ _ _ _ _ _ _ _ _ _ _ _ _ _ _ _ _ _ _ _ _ _ _ _ _ _ _ _ _ _ _ _ _ _ _ _ _ _ _ _ _ _ _ _ _ _ _ _ _ _ _ _ _ _ _ _ _ _ _ _ _ _ _ _ _ _ _ _ _ _ _ _ _ _ _ _ _ _ _ _ _ _ _ _ _ _ _ _ _ _ _ _ _ _ _ _ _ _ _ _ _ _ _ _ _ _ _ _ _ _ _ _ _ _ _ _ _ _ _ _ _ _ _ _ _ _ _ _ _ _ _ _ _ _ _ _ _ _ _ _ _ _ _ _ _ _ _ _ _ _ _ _ _ _ _ _ _ _ _ _ _ _ _ _ _ _ _ _ _ _ _ _ _ _ _ _ _ _ _ _ _ _ _ _ _ _ _ _ _ _ _ _ _ _ _ _ _ _ _ _ _ _ _ _ _ _ _ _ _ _ _ _ _ _ _ _ _ _ _ _ _ _ _ _ _ _ _ _ _ _ _ _ _ _ _ _ _ _ _ _ _ _ _ _ _ _ _ _ _ _ _ _ _ _ _ _ _ _ _ _ _ _ _ _ _ _ _ _ _ _ _ _ _ _ _ _ _ _ _ _ _ _ _ _ _ _ _ _ _ _ _ _ _ _ _ _ _ _ _ _ _ _ _ _ _ _ _ _ _ _ _ _ _ _ _ _ _ _ _ _ _ _ _ _ _ _ _ _ _ _ _ _ _ _ _ _ _ _ _ _ _ _ _ _ _ _ _ _ _ _ _ _ _ _ _ _ _ _ _ _ _ _ _ _ _ _ _ _ _ _ _ _ _ _ _ _ _ _ _ ?_)
  rintro x204 x205 x206 x207 x208 x209 x210 x211 x212 x213 x214
  have s1 : Stp (fun _ => False) ρ3 W4 (ext ρ3 W4 .hkH) (W4.alloc (.cells (madeCells #[.slice none 0 0] (kk O)) 104)) := (Stp.refl _ ρ3 W4).alloc _ _
  have r1 : Row (ext ρ3 W4 .hkH) (W4.alloc (.cells (madeCells #[.slice none 0 0] (kk O)) 104)) .hkH 104 1 (.slice (some ⟨W4.heap.size, 0, none⟩) (kk O) (kk O)) (kk O) (List.replicate (kk O) (.slice none 0 0)) := Row.made _ (by unfold maxLen; omega)
  obtain ⟨p2, s2⟩ := (HP5.out.keep s1 (fun _ h => h.elim)).set (.slice (some ⟨gR, 0, none⟩) N N) (.slice (some ⟨W4.heap.size, 0, none⟩) (kk O) (kk O)) 4 (.slice (some ⟨W4.heap.size, 0, none⟩) (kk O) (kk O)) rfl
  have t1 := (HR5.out.keep s1 (fun h => h)).keep s2 (by decide)
  have r2 := r1.keep s2 (by decide)
  obtain ⟨W5, eW5⟩ : ∃ W5, W5 = ((W4.alloc (.cells (madeCells #[.slice none 0 0] (kk O)) 104)).setCell ⟨B, 4, none⟩ (.slice (some ⟨W4.heap.size, 0, none⟩) (kk O) (kk O))).drew := ⟨_, rfl⟩
  have s3 : Stp (fun _ => False) (ext ρ3 W4 .hkH) ((W4.alloc (.cells (madeCells #[.slice none 0 0] (kk O)) 104)).setCell ⟨B, 4, none⟩ (.slice (some ⟨W4.heap.size, 0, none⟩) (kk O) (kk O))) (ext ρ3 W4 .hkH) W5 := by rw [eW5]; exact (Stp.refl _ _ _).drewN 1
  have p3 := p2.keep s3 (fun _ h => h.elim)
  have t2 := t1.keep s3 (fun h => h)
  have r3 := r2.keep s3 (fun h => h)
  have HS6 := hide (((HS5.out.trans (s1.rn (fun h => h))).trans (s2.rn (by decide))).trans (s3.rn (fun h => h)))
  obtain ⟨gH, egH⟩ : ∃ gH, gH = W4.heap.size := ⟨_, rfl⟩
  obtain ⟨ρ5, eρ5⟩ : ∃ ρ5, ρ5 = ext ρ3 W4 .hkH := ⟨_, rfl⟩
  rw [← egH] at p3 r3
  rw [← eρ5] at p3 t2 r3 HS6
  rw [← eW5]
  have HP6 := hide p3
  have HCLO := hide p3.clo
  have HBX := hide p3.box
  have HR6 := hide t2
  have HHK : Hid (Hk ρ5 W5 gH (kk O) Q.length 0 W5) := ⟨_, _, by simp, r3, fun k hk => absurd hk (Nat.not_lt_zero k), Stp.refl _ _ _⟩
  have b103 := p3.box.cell 0 rfl
  have c4' := p3.clo.cell 4 rfl
  clear s1 r1 p2 s2 t1 r2 s3 p3 t2 r3 eW5 egH eρ5 HP5 HS5 HR5 b102 c0 c4 l1 hS3 f4
  go_upto_block 10 with fail
  refine wp_then (blk17_10_any Lb Cb B G b1 gR N gH (kk O) Q.length ρ5 W5 W5 HCLO HBX (by omega) (by omega) HHK _ _ _ _ _ _ _ _ _ _ _ _ _ _ _ _ _ _ _ _ _ _ _ _ _ _ _ _ _ _ _ _ _ _ _ _ _ _ _ _ _ _ _ _ _ _ _ _ _ _ _ _ _ _ _ _ _ _ _ _ _ _ _ _ _ _ _ _ _ _ _ _ _ _ _ _ _ _ _ _ _ _ _ _ _ _ _ _ _ _ _ _ _ _ _ _ _ _ _ _ _ _ _ _ _ _ _ _ _ _ _ _ _ _ _ _ _ _ _ _ _ _ _ _ _ _ _ _ _ _ _ _ _ _ _ _ _ _ _ _ _ _ _ _ _ _ _ _ _ _ _ _ _ _ _ _ _ _ _ _ _ _ _ _ _ _ _ _ _ _ _ _ _ _ _ _ _ _ _ _ _ _ _ _ _ _ _ _ _ _ _ _ _ _ _ _ _ _ _ _ _ _ _ _ _ _ _ _ _ _ _ _ _ _ _ _ _ _ _ _ _ _ _ _ _ _ _ _ _ _ _ _ _ _ _ _ _ _ _ _ _ _ _ _ _ _ _ _ _ _ _ _ _ _ _ _ _ _ _ _ _ _ _ _ _ _ _ _ _ _ _ _ _ _ _ _ _ _ _ _ _ _ _ _ _ _ _ _ _ _ _ _ _ _ _ _ _ _ _ _ _ _ _ _ _ _ _ _ _ _ _ _ _ _ _ _ _ _ _ _ _ _ _ _ _ _ _ _ _ _ _ _ _ _ _ _ _ _ _ _ _ _ _ _ _ _ _ _ _ _ _ _ _ _ _ _ _ _ _ _ _ _ _ _ _ _ _ _ _ _ _ _ _ _ _ _ _ _ _ _ _ _ _ _ _ _ _ _ _ _ _ _ _ _ _ _ _ _ _ _ _ _ _ _ _ _ _ _ _ _ _ _ _ _ _ _ _ _ _ _ _ _ _ _ _ _ _ _ _ _ _ _ _ _ _ _ _ _ _ _ _ _ _ _ _ _ _ _ _ _ _ _ _ _ _ _ _ _ _ _ _ _ ?_)
  rintro x21 x220 x221 x222 x223 x224 x225 x226 x227 x228 x229 x230 x231 W6 hh6
  obtain ⟨ρ6, vs6, hl6, hr6, hk6, hst6⟩ := hh6
  have hp := HP6.out.keep hst6 (fun _ h => .inr (.inl h))
  have HHS : Hid (Hks ρ6 W6 (.slice (some ⟨gH, 0, none⟩) (kk O) (kk O)) (kk O) Q.length) := ⟨vs6, hl6, hr6, hk6⟩
  have HR7 := hide (HR6.out.keep hst6 (by decide))
  have HS7 := hide (HS6.out.trans (hst6.rn (by decide)))
  have HP7 := hide hp
  have b104 := hp.box.cell 0 rfl
  have c0 := hp.clo.cell 0 rfl
  have l0 := hp.sta.base.st.cell 0 rfl
  have q0 : W6.cell? ⟨C, 0, none⟩ = some (.slice ao O.length cao) := by rw [← HVO.out]; exact hp.sta.base.chk.chk.cell 0 rfl
  obtain ⟨aL, cL, hvL, _, _⟩ := hp.sta.lo.form
  have k5 : W6.cell? ⟨Cb, 5, none⟩ = some (.slice aL (kk O) cL) := by rw [← hvL]; exact hp.sta.cst.cell 5 rfl
  have HLO : Hid (Row ρ6 W6 .loH 38 1 (.slice aL (kk O) cL) (kk O) (List.replicate (kk O) (.slice none 0 0))) := by show Row _ _ _ _ _ _ _ _; rw [← hvL]; exact hp.sta.lo
  clear hl6 hr6 hk6 hst6 hp hvL HP6 HS6 HR6 HCLO HBX HHK b103 c4'
  go_upto_block 12 with fail
  refine wp_then (blk17_12_any Cb (kk O) cL aL ρ6 W6 (by omega) HLO _ _ _ _ _ _ _ _ _ _ _ _ _ _ _ _ _ _ _ _ _ _ _ _ _ _ _ _ _ _ _ _ _ _ _ _ _ _ _ _ _ _ _ _ _ _ _ _ _ _ _ _ _ _ _ _ _ _ _ _ _ _ _ _ _ _ _ _ _ _ _ _ _ _ _ _ _ _ _ _ _ _ _ _ _ _ _ _ _ _ _ _ _ _ _ _ _ _ _ _ _ _ _ _ _ _ _ _ _ _ _ _ _ _ _ _ _ _ _ _ _ _ _ _ _ _ _ _ _ _ _ _ _ _ _ _ _ _ _ _ _ _ _ _ _ _ _ _ _ _ _ _ _ _ _ _ _ _ _ _ _ _ _ _ _ _ _ _ _ _ _ _ _ _ _ _ _ _ _ _ _ _ _ _ _ _ _ _ _ _ _ _ _ _ _ _ _ _ _ _ _ _ _ _ _ _ _ _ _ _ _ _ _ _ _ _ _ _ _ _ _ _ _ _ _ _ _ _ _ _ _ _ _ _ _ _ _ _ _ _ _ _ _ _ _ _ _ _ _ _ _ _ _ _ _ _ _ _ _ _ _ _ _ _ _ _ _ _ _ _ _ _ _ _ _ _ _ _ _ _ _ _ _ _ _ _ _ _ _ _ _ _ _ _ _ _ _ _ _ _ _ _ _ _ _ _ _ _ _ _ _ _ _ _ _ _ _ _ _ _ _ _ _ _ _ _ _ _ _ _ _ _ _ _ _ _ _ _ _ _ _ _ _ _ _ _ _ _ _ _ _ _ _ _ _ _ _ _ _ _ _ _ _ _ _ _ _ _ _ _ _ _ _ _ _ _ _ _ _ _ _ _ _ _ _ _ _ _ _ _ _ _ _ _ _ _ _ _ _ _ _ _ _ _ _ _ _ _ _ _ _ _ _ _ _ _ _ _ _ _ _ _ _ _ _ _ _ _ _ _ _ _ _ _ _ _ _ _ _ _ _ _ _ _ _ _ _ _ _ _ _ _ _ _ _ _ _ _ _ _ _ _ _ ?_)
  rintro x6 x23 x24 x26 x28 x30 x31 x32 x33 x248 x249 x250 x251 x252 x253 x254 x255 x256 x257 x258 x259 x260 x261 x262 x263 x264 x265 x266 x267 x268 x269 x270 x271 x272 x273 x274 x275 x276 x277 x278 x279 x280 x281 x282 x283 x284 x285 x286 x287 x288 x289 x290 x291 x292 x293 x294 x295 x296 x297 x298 x299 x300 x301 x302 x303 x304 x305 x306 x307 x308 x309 x310 x311 x312 x313 x314 x315 x316 x317 x318 x319 x320 x321 x322 x323 x324 x325 x326 x327 x328 x329 x330 x331 x332 x333 x334 x335 x336 x337 x338 x339 x340 x341 x342 x343 x344 x345 x346 x347 x348 x349 x350 x351 x352 x353 x354 x355 x356 wy hwy
  subst hwy
  clear HLO k5 q0 l0 c0
  have HCL : Hid (Cl ρ6 wy C Lb O Q P F vo vp vf vs vk vpc vps vsr vrd vsw Cb gof gat vW vR vL co po B G gs gp gR (.slice (some ⟨gH, 0, none⟩) (kk O) (kk O)) (.slice none 0 0) E f []) := by
    have hp := HP7.out
    have hr := HR7.out
    rw [HN.out] at hp hr
    exact ⟨hp.sta, ⟨hp.clo, hp.gr, hr, Row.nil _ _ _ _ _, HHS.out⟩, HINV.out⟩
  have HMU : Hid (mu (O.length * Q.length) f ≤ 18000000) := by
    have h1 := HINV.out.mu HCO.out hO (by rw [col_len]; exact hQ)
    rw [col_len] at h1
    exact h1
  have HBX := hide HP7.out.box
  have DA : Hid (Calls Yba.prog 28 #[.pointer (some ⟨B, 0, none⟩)] wy fun e w' => ∃ bb, e = .returned (.bool bb) ∧ ((hon = true → bb = true) ∧ LinkP ρ6 wy C Lb O Q P F vo vp vf vs vk vpc vps vsr vrd vsw Cb gof gat vW vR vL co po B G gs gp gR (.slice (some ⟨gH, 0, none⟩) (kk O) (kk O)) E f [] w')) := (drain_any C Lb O Q P F vo vp vf vs vk vpc vps vsr vrd vsw Cb gof gat vW vR vL co po B G gs gp gR (.slice (some ⟨gH, 0, none⟩) (kk O) (kk O)) (.slice none 0 0) E f [] hon ρ6 wy hO hQ HCO.out HLK.out HRD.out HCL.out (by have := HMU.out; omega) (by have := HMU.out; simp; omega)).mono fun e w' h => h
  clear HHS HR7 HP7 HINV
  go_upto_region 67 with fail
  refine wp_then (reg17_67_any b1 B (fun bb w' => (hon = true → bb = true) ∧ LinkP ρ6 wy C Lb O Q P F vo vp vf vs vk vpc vps vsr vrd vsw Cb gof gat vW vR vL co po B G gs gp gR (.slice (some ⟨gH, 0, none⟩) (kk O) (kk O)) E f [] w') wy b104 DA _ _ _ _ _ _ _ _ _ _ _ _ _ _ _ _ _ _ _ _ _ _ _ _ _ _ _ _ _ _ _ _ _ _ _ _ _ _ _ _ _ _ _ _ _ _ _ _ _ _ _ _ _ _ _ _ _ _ _ _ _ _ _ _ _ _ _ _ _ _ _ _ _ _ _ _ _ _ _ _ _ _ _ _ _ _ _ _ _ _ _ _ _ _ _ _ _ _ _ _ _ _ _ _ _ _ _ _ _ _ _ _ _ _ _ _ _ _ _ _ _ _ _ _ _ _ _ _ _ _ _ _ _ _ _ _ _ _ _ _ _ _ _ _ _ _ _ _ _ _ _ _ _ _ _ _ _ _ _ _ _ _ _ _ _ _ _ _ _ _ _ _ _ _ _ _ _ _ _ _ _ _ _ _ _ _ _ _ _ _ _ _ _ _ _ _ _ _ _ _ _ _ _ _ _ _ _ _ _ _ _ _ _ _ _ _ _ _ _ _ _ _ _ _ _ _ _ _ _ _ _ _ _ _ _ _ _ _ _ _ _ _ _ _ _ _ _ _ _ _ _ _ _ _ _ _ _ _ _ _ _ _ _ _ _ _ _ _ _ _ _ _ _ _ _ _ _ _ _ _ _ _ _ _ _ _ _ _ _ _ _ _ _ _ _ _ _ _ _ _ _ _ _ _ _ _ _ _ _ _ _ _ _ _ _ _ _ _ _ _ _ _ _ _ _ _ _ _ _ _ _ _ _ _ _ _ _ _ _ _ _ _ _ _ _ _ _ _ _ _ _ _ _ _ _ _ _ _ _ _ _ _ _ _ _ _ _ _ _ _ _ _ _ _ _ _ _ _ _ _ _ _ _ _ _ _ _ _ _ _ _ _ _ _ _ _ _ _ _ _ _ _ _ _ _ _ _ _ _ _ _ _ _ _ _ _ _ _ _ _ _ _ _ _ _ _ _ _ _ _ _ _ _ _ _ _ _ _ _ _ _ _ _ _ _ _ _ _ _ _ _ _ _ _ _ _ _ _ _ _ _ _ _ _ _ _ ?_)
  rintro bb W7 ⟨hb7, hl7⟩ x357 x358
  have HB7 := hide hb7
  obtain ⟨ρ7, vd7, E7, f7, D7, hj7, he7, hd7, hst7⟩ := hl7
  have HS8 := hide (HS7.out.trans (hst7.rn (by simp [RK, RV, RG])))
  have hbx7 := HBX.out.keep hst7 (by simp [RK, RV, RG])
  have HJ7 := hide hj7
  clear hb7 hst7 HS7 HBX b104 DA HCL hj7
  cases bb with
  | false =>
    have HON : Hid (hon = true → false = true) := HB7.out
    clear HB7 hbx7 he7 hd7
    go_wp2
    go_ret
    exact ⟨false, ρ7, rfl, HON.out, fun _ => rfl, HS8.out⟩
  | true =>
    have hm := HMU.out
    have hj := HJ7.out
    have b105 := hbx7.cell 0 rfl
    have c0 := hj.dyn.clo.cell 0 rfl
    have l0 := hj.sta.base.st.cell 0 rfl
    have q0 : W7.cell? ⟨C, 0, none⟩ = some (.slice ao O.length cao) := by rw [← HVO.out]; exact hj.sta.base.chk.chk.cell 0 rfl
    have HQ7 : Hid (Dq ρ7 W7 C Lb O Q P F vo vp vf vs vk vpc vps vsr vrd vsw Cb gof gat vW vR vL co po B G gs gp gR (.slice (some ⟨gH, 0, none⟩) (kk O) (kk O)) (E7.length + mu (O.length * Q.length) f7) (D7.length + mu (O.length * Q.length) f7) [(b1, 25, #[.pointer (some ⟨B, 0, none⟩)])] W7) := ⟨ρ7, vd7, E7, f7, D7, hj, fun b hb => by obtain rfl := List.mem_singleton.1 hb; exact hbx7, Nat.le_refl _, Nat.le_refl _, Stp.refl _ _ _⟩
    have HST7 := hide hj.sta
    have he8 : E7.length + mu (O.length * Q.length) f7 ≤ 20000000 := by omega
    have hd8 : D7.length + mu (O.length * Q.length) f7 ≤ 20000000 := by simp at hd7; omega
    clear hbx7 hj HJ7 HB7 he7 hd7 hm HMU
    go_upto_block 22 with fail
    refine wp_thenRet (blk17_22_any C Lb O Q P F vo vp vf vs vk vpc vps vsr vrd vsw Cb gof gat vW vR vL co po B G gs gp gR (.slice (some ⟨gH, 0, none⟩) (kk O) (kk O)) hon ρ7 W7 W7 hO hQ HCO HLK HRD HST7 _ _ he8 hd8 b1 ao cao HVO stl HSTL HQ7 _ _ _ _ _ _ _ _ _ _ _ _ _ _ _ _ _ _ _ _ _ _ _ _ _ _ _ _ _ _ _ _ _ _ _ _ _ _ _ _ _ _ _ _ _ _ _ _ _ _ _ _ _ _ _ _ _ _ _ _ _ _ _ _ _ _ _ _ _ _ _ _ _ _ _ _ _ _ _ _ _ _ _ _ _ _ _ _ _ _ _ _ _ _ _ _ _ _ _ _ _ _ _ _ _ _ _ _ _ _ _ _ _ _ _ _ _ _ _ _ _ _ _ _ _ _ _ _ _ _ _ _ _ _ _ _ _ _ _ _ _ _ _ _ _ _ _ _ _ _ _ _ _ _ _ _ _ _ _ _ _ _ _ _ _ _ _ _ _ _ _ _ _ _ _ _ _ _ _ _ _ _ _ _ _ _ _ _ _ _ _ _ _ _ _ _ _ _ _ _ _ _ _ _ _ _ _ _ _ _ _ _ _ _ _ _ _ _ _ _ _ _ _ _ _ _ _ _ _ _ _ _ _ _ _ _ _ _ _ _ _ _ _ _ _ _ _ _ _ _ _ _ _ _ _ _ _ _ _ _ _ _ _ _ _ _ _ _ _ _ _ _ _ _ _ _ _ _ _ _ _ _ _ _ _ _ _ _ _ _ _ _ _ _ _ _ _ _ _ _ _ _ _ _ _ _ _ _ _ _ _ _ _ _ _ _ _ _ _ _ _ _ _ _ _ _ _ _ _ _ _ _ _ _ _ _ _ _ _ _ _ _ _ _ _ _ _ _ _ _ _ _ _ _ _ _ _ _ _ _ _ _ _ _ _ _ _ _ _ _ _ _ _ _ _ _ _ _ _ _ _ _ _ _ _ _ _ _ _ _ _ _ _ _ _ _ _ _ _ _ _ _ _ _ _ _ _ _ _ _ _ _ _ _ _ _ _ _ _ _ _ _ _ _ _ _ _ _ _ _ _ _ _ _ _ _ _ _ _ _ _ _ _ _ _ _ _ _ _ _ _ _ _ _ _ _ _ _ _ _ _ _ ?_ ?_)
    rotate_left
    · rintro x34 x35 x36 x38 x39 x40 x371 x372 x373 x374 x375 x376 x377 x378 x379 x380 x381 x382 x383 x384 x385 x386 x387 x388 x389 x390 x391 x392 x393 x394 x395 x396 x397 x398 x399 x400 x401 x402 x403 x404 x405 x406 x407 x408 x409 x410 x411 x412 x413 x414 x415 x416 x417 x418 x419 x420 x421 x422 x423 x424 x425 x426 x427 x428 x429 x430 x431 x432 x433 x434 x435 x436 x437 x438 x439 x440 x441 x442 x443 x444 x445 x446 x447 x448 x449 x450 x451 x452 x453 x454 x455 x456 x457 x458 x459 x460 x461 x462 x463 x464 x465 wx h1 h2
      obtain ⟨ρ9, _, _, _, _, _, _, _, _, hs9⟩ := h2
      have HS9 := hide (HS8.out.trans (hs9.rn (by simp [RK, RV, RG])))
      have HON := hide h1
      clear h1 hs9
      go_ret
      exact ⟨false, ρ9, rfl, fun h => (Bool.noConfusion (HON.out.symm.trans h)), fun _ => rfl, HS9.out⟩
    rintro x6 x34 x35 x36 x38 x39 x40 x371 x372 x373 x374 x375 x376 x377 x378 x379 x380 x381 x382 x383 x384 x385 x386 x387 x388 x389 x390 x391 x392 x393 x394 x395 x396 x397 x398 x399 x400 x401 x402 x403 x404 x405 x406 x407 x408 x409 x410 x411 x412 x413 x414 x415 x416 x417 x418 x419 x420 x421 x422 x423 x424 x425 x426 x427 x428 x429 x430 x431 x432 x433 x434 x435 x436 x437 x438 x439 x440 x441 x442 x443 x444 x445 x446 x447 x448 x449 x450 x451 x452 x453 x454 x455 x456 x457 x458 x459 x460 x461 x462 x463 x464 x465 wx h1 h2
    obtain ⟨ρ9, _, _, _, _, _, _, _, _, hs9⟩ := h2
    have HS9 := hide (HS8.out.trans (hs9.rn (by simp [RK, RV, RG])))
    have HNS := hide h1
    clear h1 hs9
    go_wp2
    go_ret
    exact ⟨true, ρ9, rfl, fun _ => rfl, fun h => absurd h HNS.out, HS9.out⟩
end Go.Proofs.Ybulknju
