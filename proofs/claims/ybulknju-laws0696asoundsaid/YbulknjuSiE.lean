import Derived.Test.YbulknjuSiD
namespace Go.Proofs.Ybulknju
open Go.RowKit

theorem Rf.seen {n : Nat} {H : List (List Nat)} {co po : Nat → Nat} {E : List (Nat × Nat)} {Tl : List Nat} {u k : Nat} {ρ : Rho} {w0 : World} {gR N : Nat} {wr : World} {f : Nat → Int} (a : R32 ρ wr .reach (.slice (some ⟨gR, 0, none⟩) N N) N f) (b : Rws H co po E f Tl) (r : Rw H co po f u (sucs E u) k) (d : Stp (fun q => q = .reach) ρ w0 ρ wr) (hc : Col n H co po) (hE : ∀ e ∈ E, e.1 < e.2 ∧ e.2 < n) (hu : u ∉ Tl) (hk : k < (sucs E u).length) : Rf H co po E Tl u (k + 1) ρ w0 gR N (wr.setCell ⟨gR, u * H.length + co (sucs E u)[k]!, none⟩ (.int .i32 (min (f (u * H.length + co (sucs E u)[k]!)) (po (sucs E u)[k]! : Nat)))) := by
  have hv := sucs_at_lt hE hk
  obtain ⟨c1, c2, c3⟩ := hc.fwd _ hv.2
  refine ⟨_, a.set _ _, b.upd hc hE hu c1 _, Rw.see (r.low (fun _ hj => (hc.fwd _ (sucs_at_lt hE (by omega)).2).1) c1 (po (sucs E u)[k]! : Nat) (by omega) (fun _ => ?_)) ?_, d.trans (Row.store a _ _)⟩
  · rw [Int.toNat_natCast, c3]; exact hv.1
  · unfold Ybulknju.upd; rw [if_pos rfl]; omega
/-- The rows of Tl stand. -/
def Rz (H : List (List Nat)) (co po : Nat → Nat) (E : List (Nat × Nat)) (Tl : List Nat) (ρ : Rho) (w0 : World) (gR N : Nat) (wr : World) : Prop := ∃ f, R32 ρ wr .reach (.slice (some ⟨gR, 0, none⟩) N N) N f ∧ Rws H co po E f Tl ∧ Stp (fun q => q = .reach) ρ w0 ρ wr
theorem Rz.rg {H : List (List Nat)} {co po : Nat → Nat} {E : List (Nat × Nat)} {Tl : List Nat} {ρ : Rho} {w0 : World} {gR N : Nat} {wr : World} (h : Rz H co po E Tl ρ w0 gR N wr) (u : Nat) : Rg H co po E Tl u 0 ρ w0 gR N wr := by
  obtain ⟨f, a, b, d⟩ := h
  exact ⟨f, a, b, fun c hc => absurd hc (Nat.not_lt_zero c), d⟩
theorem Rf.rz {H : List (List Nat)} {co po : Nat → Nat} {E : List (Nat × Nat)} {Tl : List Nat} {u : Nat} {ρ : Rho} {w0 : World} {gR N : Nat} {wr : World} (h : Rf H co po E Tl u (sucs E u).length ρ w0 gR N wr) : Rz H co po E (u :: Tl) ρ w0 gR N wr := by
  obtain ⟨f, a, b, c, d⟩ := h
  exact ⟨f, a, fun v hv => by rcases List.mem_cons.1 hv with rfl | hv; exact c; exact b v hv, d⟩
theorem ord_tail {E : List (Nat × Nat)} {T : List Nat} (hnd : T.Nodup) (ho : Ord E T) {j : Nat} (hj : j < T.length) {v : Nat} (hv : (T[j]!, v) ∈ E) (hm : v ∈ T) : v ∈ T.drop (j + 1) := by
  obtain ⟨p, hp, e⟩ := List.getElem_of_mem hm
  have h1 : T[j]! ∈ T.take p := ho (T[j]!, v) hv (T.take p) (T.drop (p + 1)) (by
    show T = T.take p ++ v :: T.drop (p + 1)
    rw [← e, ← List.drop_eq_getElem_cons hp, List.take_append_drop])
  obtain ⟨q, hq, e2⟩ := List.getElem_of_mem h1
  rw [List.length_take] at hq
  rw [List.getElem_take, getElem!_pos T j hj] at e2
  have h2 : q = j := by
    have hpw := List.pairwise_iff_getElem.1 hnd
    rcases Nat.lt_trichotomy q j with h3 | h3 | h3
    · exact absurd e2 (hpw q j (by omega) hj h3)
    · exact h3
    · exact absurd e2.symm (hpw j q hj (by omega) h3)
  rw [List.mem_iff_getElem]
  refine ⟨p - (j + 1), by rw [List.length_drop]; omega, ?_⟩
  rw [List.getElem_drop]
  rw [← e]
  congr 1
  omega
theorem drop_at {T : List Nat} {j : Nat} (hj : j < T.length) : T.drop j = T[j]! :: T.drop (j + 1) := by
  rw [getElem!_pos T j hj]; exact List.drop_eq_getElem_cons hj
theorem drop_nin {T : List Nat} (hnd : T.Nodup) {j : Nat} (hj : j < T.length) : T[j]! ∉ T.drop (j + 1) := by
  have h1 := hnd.sublist (List.drop_sublist j T)
  rw [drop_at hj] at h1
  exact (List.nodup_cons.1 h1).1
theorem sucs_edge {E : List (Nat × Nat)} {u v : Nat} (h : v ∈ sucs E u) : (u, v) ∈ E := by
  unfold sucs at h
  obtain ⟨e, he, rfl⟩ := List.mem_map.1 h
  obtain ⟨h1, h2⟩ := List.mem_filter.1 he
  have h3 : e.1 = u := by simpa using h2
  rw [← h3]; exact h1

set_option maxHeartbeats 4000000 in
set_option maxRecDepth 1000000 in
theorem blk17_6_any (C Lb : Nat) (O : List OpR) (Q : List Nat) (P : Nat → List Nat) (F : List (List Nat)) (vo vp vf vs vk vpc vps vsr vrd vsw : Value) (Cb gof gat : Nat) (vW vR vL : Value) (co po : Nat → Nat) (H : List (List Nat)) (E : List (Nat × Nat)) (Tl : List Nat) (B G b1 gR m nW N cR u : Nat) (aS : Option Addr) (cS : Nat) (ρ : Rho) (w0 w : World) (hco : Hid (Col O.length H co po)) (hE : Hid (∀ e ∈ E, e.1 < e.2 ∧ e.2 < O.length)) (hW : Hid (nW = H.length)) (hsta : Hid (Sta ρ w0 C Lb O Q P F vo vp vf vs vk vpc vps vsr vrd vsw Cb gof gat vW vR vL co po)) (hclo : Hid (St ρ w0 .clo B 69 #[.pointer (some ⟨Lb, 0, none⟩), .pointer (some ⟨Cb, 0, none⟩), .pointer (some ⟨G, 0, none⟩), .slice (some ⟨gR, 0, none⟩) N N, .slice none 0 0, .bool false, .slice none 0 0, .slice none 0 0, .slice none 0 0, .slice none 0 0, .slice none 0 0])) (hbx : Hid (St ρ w0 (.tmp 1) b1 25 #[.pointer (some ⟨B, 0, none⟩)])) (hsu : Hid (NRow ρ w0 (.su u) (.slice aS (sucs E u).length cS) (sucs E u))) (hSl : (sucs E u).length ≤ 100000) (hm : Hid (m = u * H.length)) (hN : m + nW ≤ N) (hNe : Hid (N = O.length * nW)) (hO : O.length ≤ 2000) (hN6 : N ≤ 6000) (hW3 : nW ≤ 3) (hu : Hid (u ∉ Tl)) (hTl : Hid (∀ v ∈ sucs E u, v ∈ Tl)) (hrf : Hid (Rf H co po E Tl u 0 ρ w0 gR N w)) (K : Act → World → Prop) (u0 u2 u4 u5 u6 u7 u8 u9 u10 u12 u13 u15 u16 u17 u18 u19 u20 u21 u22 u23 u24 u25 u26 u27 u28 u29 u30 u31 u32 u33 u34 u35 u36 u37 u38 u39 u40 u41 u42 u43 u44 u45 u46 u47 u48 u49 u50 u51 u52 u53 u54 u55 u56 u57 u58 u59 u60 u61 u62 u63 u64 u65 u66 u67 u68 u69 u70 u71 u72 u73 u74 u75 u76 u77 u78 u79 u80 u81 u82 u83 u84 u85 u86 u87 u88 u89 u90 u91 u92 u93 u94 u95 u96 u97 u98 u99 u100 u101 u102 u103 u104 u105 u106 u107 u108 u109 u110 u111 u112 u113 u114 u115 u116 u117 u118 u119 u120 u121 u122 u123 u124 u125 u126 u127 u128 u129 u130 u131 u132 u133 u134 u135 u136 u137 u138 u139 u140 u141 u142 u143 u147 u148 u149 u150 u151 u152 u153 u154 u155 u156 u157 u158 u159 u160 u161 u162 u163 u164 u165 u166 u167 u168 u169 u170 u171 u172 u173 u174 u175 u176 u177 u178 u179 u180 u181 u182 u183 u184 u185 u186 u187 u188 u189 u190 u191 u192 u193 u194 u195 u196 u197 u198 u199 u200 u201 u202 u203 u204 u205 u206 u207 u208 u209 u210 u211 u212 u213 u214 u215 u216 u217 u218 u219 u220 u221 u222 u223 u224 u225 u226 u227 u228 u229 u230 u231 u232 u233 u234 u235 u236 u237 u238 u239 u240 u241 u242 u243 u244 u245 u246 u247 u248 u249 u250 u251 u252 u253 u254 u255 u256 u257 u258 u259 u260 u261 u262 u263 u264 u265 u266 u267 u268 u269 u270 u271 u272 u273 u274 u275 u276 u277 u278 u279 u280 u281 u282 u283 u284 u285 u286 u287 u288 u289 u290 u291 u292 u293 u294 u295 u296 u297 u298 u299 u300 u301 u302 u303 u304 u305 u306 u307 u308 u309 u310 u311 u312 u313 u314 u315 u316 u317 u318 u319 u320 u321 u322 u323 u324 u325 u326 u327 u328 u329 u330 u331 u332 u333 u334 u335 u336 u337 u338 u339 u340 u341 u342 u343 u344 u345 u346 u347 u348 u349 u350 u351 u352 u353 u354 u355 u356 u357 u358 u359 u360 u361 u362 u363 u364 u365 u366 u367 u368 u369 u370 u371 u372 u373 u374 u375 u376 u377 u378 u379 u380 u381 u382 u383 u384 u385 u386 u387 u388 u389 u390 u391 u392 u393 u394 u395 u396 u397 u398 u399 u400 u401 u402 u403 u404 u405 u406 u407 u408 u409 u410 u411 u412 u413 u414 u415 u416 u417 u418 u419 u420 u421 u422 u423 u424 u425 u426 u427 u428 u429 u430 u431 u432 u433 u434 u435 u436 u437 u438 u439 u440 u441 u442 u443 u444 u445 u446 u447 u448 u449 u450 u451 u452 u453 u454 u455 u456 u457 u458 u459 u460 u461 u462 u463 u464 u465 : Value)
    (hK : Hid (∀ (x17 x18 x19 x20 x146 x147 x148 x149 x150 x151 x152 x153 x154 x155 x156 x157 x158 x159 x160 x161 x162 x163 x164 x165 x166 x167 x168 x169 x170 x171 x172 x173 x174 x175 x176 x177 x178 x179 x180 x181 x182 x183 x184 x185 x186 x187 x188 x189 x190 x191 x192 x193 x194 x195 x196 x197 x198 x199 x200 x201 x202 x203 : Value) (wx : World), Rf H co po E Tl u (sucs E u).length ρ w0 gR N wx → K ⟨(u0 :: .pointer (some ⟨Cb, 0, none⟩) :: u2 :: .pointer (some ⟨b1, 0, none⟩) :: u4 :: u5 :: u6 :: u7 :: u8 :: u9 :: u10 :: .int .i64 (nW : Nat) :: u12 :: u13 :: .slice (some ⟨gR, m, none⟩) nW cR :: u15 :: u16 :: x17 :: x18 :: x19 :: x20 :: u21 :: u22 :: u23 :: u24 :: u25 :: u26 :: u27 :: u28 :: u29 :: u30 :: u31 :: u32 :: u33 :: u34 :: u35 :: u36 :: u37 :: u38 :: u39 :: u40 :: u41 :: u42 :: u43 :: u44 :: u45 :: u46 :: u47 :: u48 :: u49 :: u50 :: u51 :: u52 :: u53 :: u54 :: u55 :: u56 :: u57 :: u58 :: u59 :: u60 :: u61 :: u62 :: u63 :: u64 :: u65 :: u66 :: u67 :: u68 :: u69 :: u70 :: u71 :: u72 :: u73 :: u74 :: u75 :: u76 :: u77 :: u78 :: u79 :: u80 :: u81 :: u82 :: u83 :: u84 :: u85 :: u86 :: u87 :: u88 :: u89 :: u90 :: u91 :: u92 :: u93 :: u94 :: u95 :: u96 :: u97 :: u98 :: u99 :: u100 :: u101 :: u102 :: u103 :: u104 :: u105 :: u106 :: u107 :: u108 :: u109 :: u110 :: u111 :: u112 :: u113 :: u114 :: u115 :: u116 :: u117 :: u118 :: u119 :: u120 :: u121 :: u122 :: u123 :: u124 :: u125 :: u126 :: u127 :: u128 :: u129 :: u130 :: u131 :: u132 :: u133 :: u134 :: u135 :: u136 :: u137 :: u138 :: u139 :: u140 :: u141 :: u142 :: u143 :: .slice aS (sucs E u).length cS :: .int .i64 (sucs E u).length :: x146 :: x147 :: x148 :: x149 :: x150 :: x151 :: x152 :: x153 :: x154 :: x155 :: x156 :: x157 :: x158 :: x159 :: x160 :: x161 :: x162 :: x163 :: x164 :: x165 :: x166 :: x167 :: x168 :: x169 :: x170 :: x171 :: x172 :: x173 :: x174 :: x175 :: x176 :: x177 :: x178 :: x179 :: x180 :: x181 :: x182 :: x183 :: x184 :: x185 :: x186 :: x187 :: x188 :: x189 :: x190 :: x191 :: x192 :: x193 :: x194 :: x195 :: x196 :: x197 :: x198 :: x199 :: x200 :: x201 :: x202 :: x203 :: u204 :: u205 :: u206 :: u207 :: u208 :: u209 :: u210 :: u211 :: u212 :: u213 :: u214 :: u215 :: u216 :: u217 :: u218 :: u219 :: u220 :: u221 :: u222 :: u223 :: u224 :: u225 :: u226 :: u227 :: u228 :: u229 :: u230 :: u231 :: u232 :: u233 :: u234 :: u235 :: u236 :: u237 :: u238 :: u239 :: u240 :: u241 :: u242 :: u243 :: u244 :: u245 :: u246 :: u247 :: u248 :: u249 :: u250 :: u251 :: u252 :: u253 :: u254 :: u255 :: u256 :: u257 :: u258 :: u259 :: u260 :: u261 :: u262 :: u263 :: u264 :: u265 :: u266 :: u267 :: u268 :: u269 :: u270 :: u271 :: u272 :: u273 :: u274 :: u275 :: u276 :: u277 :: u278 :: u279 :: u280 :: u281 :: u282 :: u283 :: u284 :: u285 :: u286 :: u287 :: u288 :: u289 :: u290 :: u291 :: u292 :: u293 :: u294 :: u295 :: u296 :: u297 :: u298 :: u299 :: u300 :: u301 :: u302 :: u303 :: u304 :: u305 :: u306 :: u307 :: u308 :: u309 :: u310 :: u311 :: u312 :: u313 :: u314 :: u315 :: u316 :: u317 :: u318 :: u319 :: u320 :: u321 :: u322 :: u323 :: u324 :: u325 :: u326 :: u327 :: u328 :: u329 :: u330 :: u331 :: u332 :: u333 :: u334 :: u335 :: u336 :: u337 :: u338 :: u339 :: u340 :: u341 :: u342 :: u343 :: u344 :: u345 :: u346 :: u347 :: u348 :: u349 :: u350 :: u351 :: u352 :: u353 :: u354 :: u355 :: u356 :: u357 :: u358 :: u359 :: u360 :: u361 :: u362 :: u363 :: u364 :: u365 :: u366 :: u367 :: u368 :: u369 :: u370 :: u371 :: u372 :: u373 :: u374 :: u375 :: u376 :: u377 :: u378 :: u379 :: u380 :: u381 :: u382 :: u383 :: u384 :: u385 :: u386 :: u387 :: u388 :: u389 :: u390 :: u391 :: u392 :: u393 :: u394 :: u395 :: u396 :: u397 :: u398 :: u399 :: u400 :: u401 :: u402 :: u403 :: u404 :: u405 :: u406 :: u407 :: u408 :: u409 :: u410 :: u411 :: u412 :: u413 :: u414 :: u415 :: u416 :: u417 :: u418 :: u419 :: u420 :: u421 :: u422 :: u423 :: u424 :: u425 :: u426 :: u427 :: u428 :: u429 :: u430 :: u431 :: u432 :: u433 :: u434 :: u435 :: u436 :: u437 :: u438 :: u439 :: u440 :: u441 :: u442 :: u443 :: u444 :: u445 :: u446 :: u447 :: u448 :: u449 :: u450 :: u451 :: u452 :: u453 :: u454 :: u455 :: u456 :: u457 :: u458 :: u459 :: u460 :: u461 :: u462 :: u463 :: u464 :: u465 :: []).toArray, []⟩ wx)) :
    Code.wp Yba.prog (blkOf Yba.f17 6) (Exit.then K (fun _ _ _ => False)) ⟨(u0 :: .pointer (some ⟨Cb, 0, none⟩) :: u2 :: .pointer (some ⟨b1, 0, none⟩) :: u4 :: u5 :: u6 :: u7 :: u8 :: u9 :: u10 :: .int .i64 (nW : Nat) :: u12 :: u13 :: .slice (some ⟨gR, m, none⟩) nW cR :: u15 :: u16 :: u17 :: u18 :: u19 :: u20 :: u21 :: u22 :: u23 :: u24 :: u25 :: u26 :: u27 :: u28 :: u29 :: u30 :: u31 :: u32 :: u33 :: u34 :: u35 :: u36 :: u37 :: u38 :: u39 :: u40 :: u41 :: u42 :: u43 :: u44 :: u45 :: u46 :: u47 :: u48 :: u49 :: u50 :: u51 :: u52 :: u53 :: u54 :: u55 :: u56 :: u57 :: u58 :: u59 :: u60 :: u61 :: u62 :: u63 :: u64 :: u65 :: u66 :: u67 :: u68 :: u69 :: u70 :: u71 :: u72 :: u73 :: u74 :: u75 :: u76 :: u77 :: u78 :: u79 :: u80 :: u81 :: u82 :: u83 :: u84 :: u85 :: u86 :: u87 :: u88 :: u89 :: u90 :: u91 :: u92 :: u93 :: u94 :: u95 :: u96 :: u97 :: u98 :: u99 :: u100 :: u101 :: u102 :: u103 :: u104 :: u105 :: u106 :: u107 :: u108 :: u109 :: u110 :: u111 :: u112 :: u113 :: u114 :: u115 :: u116 :: u117 :: u118 :: u119 :: u120 :: u121 :: u122 :: u123 :: u124 :: u125 :: u126 :: u127 :: u128 :: u129 :: u130 :: u131 :: u132 :: u133 :: u134 :: u135 :: u136 :: u137 :: u138 :: u139 :: u140 :: u141 :: u142 :: u143 :: .slice aS (sucs E u).length cS :: .int .i64 (sucs E u).length :: .int .i64 0 :: u147 :: u148 :: u149 :: u150 :: u151 :: u152 :: u153 :: u154 :: u155 :: u156 :: u157 :: u158 :: u159 :: u160 :: u161 :: u162 :: u163 :: u164 :: u165 :: u166 :: u167 :: u168 :: u169 :: u170 :: u171 :: u172 :: u173 :: u174 :: u175 :: u176 :: u177 :: u178 :: u179 :: u180 :: u181 :: u182 :: u183 :: u184 :: u185 :: u186 :: u187 :: u188 :: u189 :: u190 :: u191 :: u192 :: u193 :: u194 :: u195 :: u196 :: u197 :: u198 :: u199 :: u200 :: u201 :: u202 :: u203 :: u204 :: u205 :: u206 :: u207 :: u208 :: u209 :: u210 :: u211 :: u212 :: u213 :: u214 :: u215 :: u216 :: u217 :: u218 :: u219 :: u220 :: u221 :: u222 :: u223 :: u224 :: u225 :: u226 :: u227 :: u228 :: u229 :: u230 :: u231 :: u232 :: u233 :: u234 :: u235 :: u236 :: u237 :: u238 :: u239 :: u240 :: u241 :: u242 :: u243 :: u244 :: u245 :: u246 :: u247 :: u248 :: u249 :: u250 :: u251 :: u252 :: u253 :: u254 :: u255 :: u256 :: u257 :: u258 :: u259 :: u260 :: u261 :: u262 :: u263 :: u264 :: u265 :: u266 :: u267 :: u268 :: u269 :: u270 :: u271 :: u272 :: u273 :: u274 :: u275 :: u276 :: u277 :: u278 :: u279 :: u280 :: u281 :: u282 :: u283 :: u284 :: u285 :: u286 :: u287 :: u288 :: u289 :: u290 :: u291 :: u292 :: u293 :: u294 :: u295 :: u296 :: u297 :: u298 :: u299 :: u300 :: u301 :: u302 :: u303 :: u304 :: u305 :: u306 :: u307 :: u308 :: u309 :: u310 :: u311 :: u312 :: u313 :: u314 :: u315 :: u316 :: u317 :: u318 :: u319 :: u320 :: u321 :: u322 :: u323 :: u324 :: u325 :: u326 :: u327 :: u328 :: u329 :: u330 :: u331 :: u332 :: u333 :: u334 :: u335 :: u336 :: u337 :: u338 :: u339 :: u340 :: u341 :: u342 :: u343 :: u344 :: u345 :: u346 :: u347 :: u348 :: u349 :: u350 :: u351 :: u352 :: u353 :: u354 :: u355 :: u356 :: u357 :: u358 :: u359 :: u360 :: u361 :: u362 :: u363 :: u364 :: u365 :: u366 :: u367 :: u368 :: u369 :: u370 :: u371 :: u372 :: u373 :: u374 :: u375 :: u376 :: u377 :: u378 :: u379 :: u380 :: u381 :: u382 :: u383 :: u384 :: u385 :: u386 :: u387 :: u388 :: u389 :: u390 :: u391 :: u392 :: u393 :: u394 :: u395 :: u396 :: u397 :: u398 :: u399 :: u400 :: u401 :: u402 :: u403 :: u404 :: u405 :: u406 :: u407 :: u408 :: u409 :: u410 :: u411 :: u412 :: u413 :: u414 :: u415 :: u416 :: u417 :: u418 :: u419 :: u420 :: u421 :: u422 :: u423 :: u424 :: u425 :: u426 :: u427 :: u428 :: u429 :: u430 :: u431 :: u432 :: u433 :: u434 :: u435 :: u436 :: u437 :: u438 :: u439 :: u440 :: u441 :: u442 :: u443 :: u444 :: u445 :: u446 :: u447 :: u448 :: u449 :: u450 :: u451 :: u452 :: u453 :: u454 :: u455 :: u456 :: u457 :: u458 :: u459 :: u460 :: u461 :: u462 :: u463 :: u464 :: u465 :: []).toArray, []⟩ w := by
  conv => arg 2; whnf
  obtain ⟨S, eS⟩ : ∃ S, S = sucs E u := ⟨_, rfl⟩
  rw [← eS] at hsu hSl hTl hK ⊢
  have ES := hide eS
  clear eS
  go_wp2
  go_loopw [17, 18, 19, 20, 146] (fun _ _ _ _ i wr => ∃ k : Nat, k ≤ S.length ∧ i = .int .i64 k ∧ Rf H co po E Tl u k ρ w0 gR N wr) (fun _ _ _ _ i _ => S.length - (intOf i).toNat)
  case atStart => exact ⟨0, by omega, rfl, hrf.out⟩
  case round =>
    clear hrf
    obtain ⟨k, hk, rfl, hg⟩ := hrel
    have HG := hide hg
    by_cases hkS : k < S.length
    · obtain ⟨f, hr, hws, hrw, hst⟩ := hg
      have hv : u < S[k]! ∧ S[k]! < O.length := by rw [ES.out]; exact sucs_at_lt hE.out (by rw [← ES.out]; exact hkS)
      have HG2 := hide (Rf.seen hr hws hrw hst hco.out hE.out hu.out (by rw [← ES.out]; exact hkS))
      rw [← hm.out, ← ES.out] at HG2
      have HVT : Hid (S[k]! ∈ Tl) := hTl.out _ (by rw [getElem!_pos S k hkS]; exact List.getElem_mem _)
      have hnr := hsu.out.keep hst (by simp)
      obtain ⟨gS, cS', hvS, _, _, _⟩ := Row.has hnr (by omega)
      cases hvS
      have y0 := hnr.cell (j := k) hkS
      have hs := hsta.out.keep hst (fun _ h => RT.nr h)
      obtain ⟨v, ev⟩ : ∃ v, v = S[k]! := ⟨_, rfl⟩
      rw [← ev] at hv HG2 HVT y0
      have k0 := hs.cst.cell 0 rfl
      have k1 := hs.cst.cell 1 rfl
      have o1 := hs.of.cell hv.2
      have o2 := hs.pos.cell hv.2
      obtain ⟨f1, f2, _⟩ := hco.out.fwd v hv.2
      have f3 := hco.out.small _ f1
      rw [← hW.out] at f1
      obtain ⟨cv, ecv⟩ : ∃ cv, cv = co v := ⟨_, rfl⟩
      obtain ⟨pv, epv⟩ : ∃ pv, pv = po v := ⟨_, rfl⟩
      rw [← ecv] at o1 f1 f2 f3 HG2
      rw [← epv] at o2 f2 HG2
      have hpv : pv ≤ 3000 := by omega
      have r1 := hr.cell (j := m + cv) (by omega)
      have rf := Row.free hr (m + cv)
      obtain ⟨y, ey⟩ : ∃ y, y = f (m + cv) := ⟨_, rfl⟩
      rw [← ey] at r1 HG2
      have ix1 := fun wx => idx38 (b := gS) (c := cS) hkS wx
      have ix2 := fun wx => idx38 (b := gof) (c := O.length) hv.2 wx
      obtain ⟨huv, hvn⟩ := hv
      clear hr hws hrw hst hnr hs HG ev ecv epv ey f2 f3
      go_upto_region 27 with fail
      refine wp_then (reg17_27_any Cb gat O.length gR m nW cR v cv pv y wr hpv f1 hvn r1 rf k1 o2 _ _ _ _ _ _ _ _ _ _ _ _ _ _ _ _ _ _ _ _ _ _ _ _ _ _ _ _ _ _ _ _ _ _ _ _ _ _ _ _ _ _ _ _ _ _ _ _ _ _ _ _ _ _ _ _ _ _ _ _ _ _ _ _ _ _ _ _ _ _ _ _ _ _ _ _ _ _ _ _ _ _ _ _ _ _ _ _ _ _ _ _ _ _ _ _ _ _ _ _ _ _ _ _ _ _ _ _ _ _ _ _ _ _ _ _ _ _ _ _ _ _ _ _ _ _ _ _ _ _ _ _ _ _ _ _ _ _ _ _ _ _ _ _ _ _ _ _ _ _ _ _ _ _ _ _ _ _ _ _ _ _ _ _ _ _ _ _ _ _ _ _ _ _ _ _ _ _ _ _ _ _ _ _ _ _ _ _ _ _ _ _ _ _ _ _ _ _ _ _ _ _ _ _ _ _ _ _ _ _ _ _ _ _ _ _ _ _ _ _ _ _ _ _ _ _ _ _ _ _ _ _ _ _ _ _ _ _ _ _ _ _ _ _ _ _ _ _ _ _ _ _ _ _ _ _ _ _ _ _ _ _ _ _ _ _ _ _ _ _ _ _ _ _ _ _ _ _ _ _ _ _ _ _ _ _ _ _ _ _ _ _ _ _ _ _ _ _ _ _ _ _ _ _ _ _ _ _ _ _ _ _ _ _ _ _ _ _ _ _ _ _ _ _ _ _ _ _ _ _ _ _ _ _ _ _ _ _ _ _ _ _ _ _ _ _ _ _ _ _ _ _ _ _ _ _ _ _ _ _ _ _ _ _ _ _ _ _ _ _ _ _ _ _ _ _ _ _ _ _ _ _ _ _ _ _ _ _ _ _ _ _ _ _ _ _ _ _ _ _ _ _ _ _ _ _ _ _ _ _ _ _ _ _ _ _ _ _ _ _ _ _ _ _ _ _ _ _ _ _ _ _ _ _ _ _ _ _ _ _ _ _ _ _ _ _ _ _ _ _ _ _ _ _ _ _ _ _ _ _ _ _ _ ?_)
      rintro x159 x160 x161 x162 x163 x164 x165 x166 x167 x168 x169 x170 x171 x172 x173 x174
      obtain ⟨W1, eW1⟩ : ∃ W1, W1 = (wr.setCell ⟨gR, m + cv, none⟩ (.int .i32 (min y (pv : Nat)))).drew := ⟨_, rfl⟩
      have HG3 : Hid (Rf H co po E Tl u (k + 1) ρ w0 gR N W1) := by rw [eW1]; exact HG2.out.drew 1
      rw [← eW1]
      clear eW1 HG2 r1 rf k0 k1 o1 o2 y0 ix1 ix2
      obtain ⟨f, hr, hws, hrw, hst⟩ := HG3.out
      have c3 := (hclo.out.keep hst (by decide)).cell 3 rfl
      have b10 := (hbx.out.keep hst (by decide)).cell 0 rfl
      clear hr hws hrw hst f
      obtain ⟨m2, em2⟩ : ∃ m2, m2 = v * nW := ⟨_, rfl⟩
      have hm2 : m2 + nW ≤ N := by
        have := Nat.mul_le_mul_right nW (show v + 1 ≤ O.length from hvn)
        rw [Nat.add_mul, Nat.one_mul, ← em2] at this
        rw [hNe.out]; exact this
      have w1 : IntKind.i64.wrap ((v : Int) * (nW : Int)) = (m2 : Nat) := by
        have : (v : Int) * (nW : Int) = ((v * nW : Nat) : Int) := by simp
        rw [this, ← em2]; simp [IntKind.wrap, IntKind.signed, IntKind.bits]; omega
      have w2 : IntKind.i64.wrap (((v : Int) + 1) * (nW : Int)) = (m2 : Nat) + (nW : Nat) := by
        have : ((v : Int) + 1) * (nW : Int) = ((v * nW + nW : Nat) : Int) := by rw [Int.add_mul]; simp
        rw [this, ← em2]; clear w1; simp [IntKind.wrap, IntKind.signed, IntKind.bits]; omega
      have EM2 := hide em2
      clear em2
      go_upto_block 8 with fail
      rw [Nat.add_sub_cancel_left]
      refine wp_end (blk17_8_any O H co po E Tl gR m m2 nW N cR (N - m2) u v (k + 1) ρ w0 W1 hco hE hW hm (by show _ = _; rw [EM2.out, hW.out]) hN hm2 hW3 hu HVT huv (by show _ ≤ _; rw [← ES.out]; omega) HG3 _ _ _ _ _ _ _ _ _ _ _ _ _ _ _ _ _ _ _ _ _ _ _ _ _ _ _ _ _ _ _ _ _ _ _ _ _ _ _ _ _ _ _ _ _ _ _ _ _ _ _ _ _ _ _ _ _ _ _ _ _ _ _ _ _ _ _ _ _ _ _ _ _ _ _ _ _ _ _ _ _ _ _ _ _ _ _ _ _ _ _ _ _ _ _ _ _ _ _ _ _ _ _ _ _ _ _ _ _ _ _ _ _ _ _ _ _ _ _ _ _ _ _ _ _ _ _ _ _ _ _ _ _ _ _ _ _ _ _ _ _ _ _ _ _ _ _ _ _ _ _ _ _ _ _ _ _ _ _ _ _ _ _ _ _ _ _ _ _ _ _ _ _ _ _ _ _ _ _ _ _ _ _ _ _ _ _ _ _ _ _ _ _ _ _ _ _ _ _ _ _ _ _ _ _ _ _ _ _ _ _ _ _ _ _ _ _ _ _ _ _ _ _ _ _ _ _ _ _ _ _ _ _ _ _ _ _ _ _ _ _ _ _ _ _ _ _ _ _ _ _ _ _ _ _ _ _ _ _ _ _ _ _ _ _ _ _ _ _ _ _ _ _ _ _ _ _ _ _ _ _ _ _ _ _ _ _ _ _ _ _ _ _ _ _ _ _ _ _ _ _ _ _ _ _ _ _ _ _ _ _ _ _ _ _ _ _ _ _ _ _ _ _ _ _ _ _ _ _ _ _ _ _ _ _ _ _ _ _ _ _ _ _ _ _ _ _ _ _ _ _ _ _ _ _ _ _ _ _ _ _ _ _ _ _ _ _ _ _ _ _ _ _ _ _ _ _ _ _ _ _ _ _ _ _ _ _ _ _ _ _ _ _ _ _ _ _ _ _ _ _ _ _ _ _ _ _ _ _ _ _ _ _ _ _ _ _ _ _ _ _ _ _ _ _ _ _ _ _ _ _ _ _ _ _ _ _ _ _ _ _ _ _ _ _ _ _ _ _ _ _ _ _ _ _ _ _ _ _ _ _ _ _ ?_)
      rintro x19 x20 x188 x189 x190 x191 x192 x193 x194 x195 x196 x197 x198 x199 x200 x201 x202 W2 hg4
      have HG4 := hide hg4
      clear hg4 w1 w2 HG3 c3 b10
      go_wp2
      go_roundw
      case rel => exact ⟨k + 1, by omega, by go_num, HG4.out⟩
      case measure => simp [intOf]; omega
    · obtain rfl : S.length = k := by omega
      clear hg
      go_wp2
      exact hK.out _ _ _ _ _ _ _ _ _ _ _ _ _ _ _ _ _ _ _ _ _ _ _ _ _ _ _ _ _ _ _ _ _ _ _ _ _ _ _ _ _ _ _ _ _ _ _ _ _ _ _ _ _ _ _ _ _ _ _ _ _ _ _ HG.out
end Go.Proofs.Ybulknju
