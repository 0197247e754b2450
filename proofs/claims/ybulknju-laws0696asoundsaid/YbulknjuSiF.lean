import Derived.Test.YbulknjuSiE
namespace Go.Proofs.Ybulknju
open Go.RowKit

set_option maxHeartbeats 8000000 in
set_option maxRecDepth 1000000 in
theorem blk17_2_any (C Lb : Nat) (O : List OpR) (Q : List Nat) (P : Nat → List Nat) (F : List (List Nat)) (vo vp vf vs vk vpc vps vsr vrd vsw : Value) (Cb gof gat : Nat) (vW vR vL : Value) (co po : Nat → Nat) (H : List (List Nat)) (E : List (Nat × Nat)) (T : List Nat) (B G b1 gR nW N : Nat) (gs gp : Value) (aT : Option Addr) (cT : Nat) (ρ : Rho) (w0 w : World) (hco : Hid (Col O.length H co po)) (hE : Hid (∀ e ∈ E, e.1 < e.2 ∧ e.2 < O.length)) (hH : Hid (H = Q.map P)) (hW : Hid (nW = H.length)) (hsta : Hid (Sta ρ w0 C Lb O Q P F vo vp vf vs vk vpc vps vsr vrd vsw Cb gof gat vW vR vL co po)) (hclo : Hid (St ρ w0 .clo B 69 #[.pointer (some ⟨Lb, 0, none⟩), .pointer (some ⟨Cb, 0, none⟩), .pointer (some ⟨G, 0, none⟩), .slice (some ⟨gR, 0, none⟩) N N, .slice none 0 0, .bool false, .slice none 0 0, .slice none 0 0, .slice none 0 0, .slice none 0 0, .slice none 0 0])) (hbx : Hid (St ρ w0 (.tmp 1) b1 25 #[.pointer (some ⟨B, 0, none⟩)])) (hgr : Hid (Gr ρ w0 G (succOf O.length E) (predOf O.length E) gs gp)) (hT : Hid (NRow ρ w0 (.tmp 3) (.slice aT T.length cT) T)) (hTl : T.length = O.length) (hnd : Hid T.Nodup) (hTn : Hid (∀ v ∈ T, v < O.length)) (hTa : Hid (∀ v, v < O.length → v ∈ T)) (hord : Hid (Ord E T)) (hEl : E.length ≤ 100000) (hNe : Hid (N = O.length * nW)) (hO : O.length ≤ 2000) (hN6 : N ≤ 6000) (hW3 : nW ≤ 3) (hrz : Hid (Rz H co po E [] ρ w0 gR N w)) (K : Act → World → Prop) (u0 u2 u4 u5 u6 u7 u8 u10 u13 u14 u15 u16 u17 u18 u19 u20 u21 u22 u23 u24 u25 u26 u27 u28 u29 u30 u31 u32 u33 u34 u35 u36 u37 u38 u39 u40 u41 u42 u43 u44 u45 u46 u47 u48 u49 u50 u51 u52 u53 u54 u55 u56 u57 u58 u59 u60 u61 u62 u63 u64 u65 u66 u67 u68 u69 u70 u71 u72 u73 u74 u75 u76 u77 u78 u79 u80 u81 u82 u83 u84 u85 u86 u87 u88 u89 u90 u91 u92 u93 u94 u95 u96 u97 u98 u99 u100 u101 u102 u103 u104 u105 u106 u107 u108 u109 u110 u111 u112 u113 u114 u115 u116 u117 u118 u119 u120 u121 u122 u123 u124 u125 u126 u127 u128 u129 u130 u131 u132 u133 u134 u135 u136 u137 u138 u139 u140 u141 u142 u143 u144 u145 u146 u147 u148 u149 u150 u151 u152 u153 u154 u155 u156 u157 u158 u159 u160 u161 u162 u163 u164 u165 u166 u167 u168 u169 u170 u171 u172 u173 u174 u175 u176 u177 u178 u179 u180 u181 u182 u183 u184 u185 u186 u187 u188 u189 u190 u191 u192 u193 u194 u195 u196 u197 u198 u199 u200 u201 u202 u203 u204 u205 u206 u207 u208 u209 u210 u211 u212 u213 u214 u215 u216 u217 u218 u219 u220 u221 u222 u223 u224 u225 u226 u227 u228 u229 u230 u231 u232 u233 u234 u235 u236 u237 u238 u239 u240 u241 u242 u243 u244 u245 u246 u247 u248 u249 u250 u251 u252 u253 u254 u255 u256 u257 u258 u259 u260 u261 u262 u263 u264 u265 u266 u267 u268 u269 u270 u271 u272 u273 u274 u275 u276 u277 u278 u279 u280 u281 u282 u283 u284 u285 u286 u287 u288 u289 u290 u291 u292 u293 u294 u295 u296 u297 u298 u299 u300 u301 u302 u303 u304 u305 u306 u307 u308 u309 u310 u311 u312 u313 u314 u315 u316 u317 u318 u319 u320 u321 u322 u323 u324 u325 u326 u327 u328 u329 u330 u331 u332 u333 u334 u335 u336 u337 u338 u339 u340 u341 u342 u343 u344 u345 u346 u347 u348 u349 u350 u351 u352 u353 u354 u355 u356 u357 u358 u359 u360 u361 u362 u363 u364 u365 u366 u367 u368 u369 u370 u371 u372 u373 u374 u375 u376 u377 u378 u379 u380 u381 u382 u383 u384 u385 u386 u387 u388 u389 u390 u391 u392 u393 u394 u395 u396 u397 u398 u399 u400 u401 u402 u403 u404 u405 u406 u407 u408 u409 u410 u411 u412 u413 u414 u415 u416 u417 u418 u419 u420 u421 u422 u423 u424 u425 u426 u427 u428 u429 u430 u431 u432 u433 u434 u435 u436 u437 u438 u439 u440 u441 u442 u443 u444 u445 u446 u447 u448 u449 u450 u451 u452 u453 u454 u455 u456 u457 u458 u459 u460 u461 u462 u463 u464 u465 : Value)
    (hK : Hid (∀ (x12 x13 x14 x15 x17 x18 x19 x20 x97 x98 x99 x100 x101 x102 x103 x104 x105 x106 x107 x108 x109 x110 x111 x112 x113 x114 x115 x116 x117 x118 x119 x120 x121 x122 x123 x124 x125 x126 x127 x128 x129 x130 x131 x132 x133 x134 x135 x136 x137 x138 x139 x140 x141 x142 x143 x144 x145 x146 x147 x148 x149 x150 x151 x152 x153 x154 x155 x156 x157 x158 x159 x160 x161 x162 x163 x164 x165 x166 x167 x168 x169 x170 x171 x172 x173 x174 x175 x176 x177 x178 x179 x180 x181 x182 x183 x184 x185 x186 x187 x188 x189 x190 x191 x192 x193 x194 x195 x196 x197 x198 x199 x200 x201 x202 x203 : Value) (wx : World), Rz H co po E T ρ w0 gR N wx → K ⟨(u0 :: .pointer (some ⟨Cb, 0, none⟩) :: u2 :: .pointer (some ⟨b1, 0, none⟩) :: u4 :: u5 :: u6 :: u7 :: u8 :: .slice aT T.length cT :: u10 :: .int .i64 (nW : Nat) :: x12 :: x13 :: x14 :: x15 :: u16 :: x17 :: x18 :: x19 :: x20 :: u21 :: u22 :: u23 :: u24 :: u25 :: u26 :: u27 :: u28 :: u29 :: u30 :: u31 :: u32 :: u33 :: u34 :: u35 :: u36 :: u37 :: u38 :: u39 :: u40 :: u41 :: u42 :: u43 :: u44 :: u45 :: u46 :: u47 :: u48 :: u49 :: u50 :: u51 :: u52 :: u53 :: u54 :: u55 :: u56 :: u57 :: u58 :: u59 :: u60 :: u61 :: u62 :: u63 :: u64 :: u65 :: u66 :: u67 :: u68 :: u69 :: u70 :: u71 :: u72 :: u73 :: u74 :: u75 :: u76 :: u77 :: u78 :: u79 :: u80 :: u81 :: u82 :: u83 :: u84 :: u85 :: u86 :: u87 :: u88 :: u89 :: u90 :: u91 :: u92 :: u93 :: u94 :: u95 :: u96 :: x97 :: x98 :: x99 :: x100 :: x101 :: x102 :: x103 :: x104 :: x105 :: x106 :: x107 :: x108 :: x109 :: x110 :: x111 :: x112 :: x113 :: x114 :: x115 :: x116 :: x117 :: x118 :: x119 :: x120 :: x121 :: x122 :: x123 :: x124 :: x125 :: x126 :: x127 :: x128 :: x129 :: x130 :: x131 :: x132 :: x133 :: x134 :: x135 :: x136 :: x137 :: x138 :: x139 :: x140 :: x141 :: x142 :: x143 :: x144 :: x145 :: x146 :: x147 :: x148 :: x149 :: x150 :: x151 :: x152 :: x153 :: x154 :: x155 :: x156 :: x157 :: x158 :: x159 :: x160 :: x161 :: x162 :: x163 :: x164 :: x165 :: x166 :: x167 :: x168 :: x169 :: x170 :: x171 :: x172 :: x173 :: x174 :: x175 :: x176 :: x177 :: x178 :: x179 :: x180 :: x181 :: x182 :: x183 :: x184 :: x185 :: x186 :: x187 :: x188 :: x189 :: x190 :: x191 :: x192 :: x193 :: x194 :: x195 :: x196 :: x197 :: x198 :: x199 :: x200 :: x201 :: x202 :: x203 :: u204 :: u205 :: u206 :: u207 :: u208 :: u209 :: u210 :: u211 :: u212 :: u213 :: u214 :: u215 :: u216 :: u217 :: u218 :: u219 :: u220 :: u221 :: u222 :: u223 :: u224 :: u225 :: u226 :: u227 :: u228 :: u229 :: u230 :: u231 :: u232 :: u233 :: u234 :: u235 :: u236 :: u237 :: u238 :: u239 :: u240 :: u241 :: u242 :: u243 :: u244 :: u245 :: u246 :: u247 :: u248 :: u249 :: u250 :: u251 :: u252 :: u253 :: u254 :: u255 :: u256 :: u257 :: u258 :: u259 :: u260 :: u261 :: u262 :: u263 :: u264 :: u265 :: u266 :: u267 :: u268 :: u269 :: u270 :: u271 :: u272 :: u273 :: u274 :: u275 :: u276 :: u277 :: u278 :: u279 :: u280 :: u281 :: u282 :: u283 :: u284 :: u285 :: u286 :: u287 :: u288 :: u289 :: u290 :: u291 :: u292 :: u293 :: u294 :: u295 :: u296 :: u297 :: u298 :: u299 :: u300 :: u301 :: u302 :: u303 :: u304 :: u305 :: u306 :: u307 :: u308 :: u309 :: u310 :: u311 :: u312 :: u313 :: u314 :: u315 :: u316 :: u317 :: u318 :: u319 :: u320 :: u321 :: u322 :: u323 :: u324 :: u325 :: u326 :: u327 :: u328 :: u329 :: u330 :: u331 :: u332 :: u333 :: u334 :: u335 :: u336 :: u337 :: u338 :: u339 :: u340 :: u341 :: u342 :: u343 :: u344 :: u345 :: u346 :: u347 :: u348 :: u349 :: u350 :: u351 :: u352 :: u353 :: u354 :: u355 :: u356 :: u357 :: u358 :: u359 :: u360 :: u361 :: u362 :: u363 :: u364 :: u365 :: u366 :: u367 :: u368 :: u369 :: u370 :: u371 :: u372 :: u373 :: u374 :: u375 :: u376 :: u377 :: u378 :: u379 :: u380 :: u381 :: u382 :: u383 :: u384 :: u385 :: u386 :: u387 :: u388 :: u389 :: u390 :: u391 :: u392 :: u393 :: u394 :: u395 :: u396 :: u397 :: u398 :: u399 :: u400 :: u401 :: u402 :: u403 :: u404 :: u405 :: u406 :: u407 :: u408 :: u409 :: u410 :: u411 :: u412 :: u413 :: u414 :: u415 :: u416 :: u417 :: u418 :: u419 :: u420 :: u421 :: u422 :: u423 :: u424 :: u425 :: u426 :: u427 :: u428 :: u429 :: u430 :: u431 :: u432 :: u433 :: u434 :: u435 :: u436 :: u437 :: u438 :: u439 :: u440 :: u441 :: u442 :: u443 :: u444 :: u445 :: u446 :: u447 :: u448 :: u449 :: u450 :: u451 :: u452 :: u453 :: u454 :: u455 :: u456 :: u457 :: u458 :: u459 :: u460 :: u461 :: u462 :: u463 :: u464 :: u465 :: []).toArray, []⟩ wx)) :
    Code.wp Yba.prog (blkOf Yba.f17 2) (Exit.then K (fun _ _ _ => False)) ⟨(u0 :: .pointer (some ⟨Cb, 0, none⟩) :: u2 :: .pointer (some ⟨b1, 0, none⟩) :: u4 :: u5 :: u6 :: u7 :: u8 :: .slice aT T.length cT :: u10 :: .int .i64 (nW : Nat) :: .int .i64 ((T.length : Int) - 1) :: u13 :: u14 :: u15 :: u16 :: u17 :: u18 :: u19 :: u20 :: u21 :: u22 :: u23 :: u24 :: u25 :: u26 :: u27 :: u28 :: u29 :: u30 :: u31 :: u32 :: u33 :: u34 :: u35 :: u36 :: u37 :: u38 :: u39 :: u40 :: u41 :: u42 :: u43 :: u44 :: u45 :: u46 :: u47 :: u48 :: u49 :: u50 :: u51 :: u52 :: u53 :: u54 :: u55 :: u56 :: u57 :: u58 :: u59 :: u60 :: u61 :: u62 :: u63 :: u64 :: u65 :: u66 :: u67 :: u68 :: u69 :: u70 :: u71 :: u72 :: u73 :: u74 :: u75 :: u76 :: u77 :: u78 :: u79 :: u80 :: u81 :: u82 :: u83 :: u84 :: u85 :: u86 :: u87 :: u88 :: u89 :: u90 :: u91 :: u92 :: u93 :: u94 :: u95 :: u96 :: u97 :: u98 :: u99 :: u100 :: u101 :: u102 :: u103 :: u104 :: u105 :: u106 :: u107 :: u108 :: u109 :: u110 :: u111 :: u112 :: u113 :: u114 :: u115 :: u116 :: u117 :: u118 :: u119 :: u120 :: u121 :: u122 :: u123 :: u124 :: u125 :: u126 :: u127 :: u128 :: u129 :: u130 :: u131 :: u132 :: u133 :: u134 :: u135 :: u136 :: u137 :: u138 :: u139 :: u140 :: u141 :: u142 :: u143 :: u144 :: u145 :: u146 :: u147 :: u148 :: u149 :: u150 :: u151 :: u152 :: u153 :: u154 :: u155 :: u156 :: u157 :: u158 :: u159 :: u160 :: u161 :: u162 :: u163 :: u164 :: u165 :: u166 :: u167 :: u168 :: u169 :: u170 :: u171 :: u172 :: u173 :: u174 :: u175 :: u176 :: u177 :: u178 :: u179 :: u180 :: u181 :: u182 :: u183 :: u184 :: u185 :: u186 :: u187 :: u188 :: u189 :: u190 :: u191 :: u192 :: u193 :: u194 :: u195 :: u196 :: u197 :: u198 :: u199 :: u200 :: u201 :: u202 :: u203 :: u204 :: u205 :: u206 :: u207 :: u208 :: u209 :: u210 :: u211 :: u212 :: u213 :: u214 :: u215 :: u216 :: u217 :: u218 :: u219 :: u220 :: u221 :: u222 :: u223 :: u224 :: u225 :: u226 :: u227 :: u228 :: u229 :: u230 :: u231 :: u232 :: u233 :: u234 :: u235 :: u236 :: u237 :: u238 :: u239 :: u240 :: u241 :: u242 :: u243 :: u244 :: u245 :: u246 :: u247 :: u248 :: u249 :: u250 :: u251 :: u252 :: u253 :: u254 :: u255 :: u256 :: u257 :: u258 :: u259 :: u260 :: u261 :: u262 :: u263 :: u264 :: u265 :: u266 :: u267 :: u268 :: u269 :: u270 :: u271 :: u272 :: u273 :: u274 :: u275 :: u276 :: u277 :: u278 :: u279 :: u280 :: u281 :: u282 :: u283 :: u284 :: u285 :: u286 :: u287 :: u288 :: u289 :: u290 :: u291 :: u292 :: u293 :: u294 :: u295 :: u296 :: u297 :: u298 :: u299 :: u300 :: u301 :: u302 :: u303 :: u304 :: u305 :: u306 :: u307 :: u308 :: u309 :: u310 :: u311 :: u312 :: u313 :: u314 :: u315 :: u316 :: u317 :: u318 :: u319 :: u320 :: u321 :: u322 :: u323 :: u324 :: u325 :: u326 :: u327 :: u328 :: u329 :: u330 :: u331 :: u332 :: u333 :: u334 :: u335 :: u336 :: u337 :: u338 :: u339 :: u340 :: u341 :: u342 :: u343 :: u344 :: u345 :: u346 :: u347 :: u348 :: u349 :: u350 :: u351 :: u352 :: u353 :: u354 :: u355 :: u356 :: u357 :: u358 :: u359 :: u360 :: u361 :: u362 :: u363 :: u364 :: u365 :: u366 :: u367 :: u368 :: u369 :: u370 :: u371 :: u372 :: u373 :: u374 :: u375 :: u376 :: u377 :: u378 :: u379 :: u380 :: u381 :: u382 :: u383 :: u384 :: u385 :: u386 :: u387 :: u388 :: u389 :: u390 :: u391 :: u392 :: u393 :: u394 :: u395 :: u396 :: u397 :: u398 :: u399 :: u400 :: u401 :: u402 :: u403 :: u404 :: u405 :: u406 :: u407 :: u408 :: u409 :: u410 :: u411 :: u412 :: u413 :: u414 :: u415 :: u416 :: u417 :: u418 :: u419 :: u420 :: u421 :: u422 :: u423 :: u424 :: u425 :: u426 :: u427 :: u428 :: u429 :: u430 :: u431 :: u432 :: u433 :: u434 :: u435 :: u436 :: u437 :: u438 :: u439 :: u440 :: u441 :: u442 :: u443 :: u444 :: u445 :: u446 :: u447 :: u448 :: u449 :: u450 :: u451 :: u452 :: u453 :: u454 :: u455 :: u456 :: u457 :: u458 :: u459 :: u460 :: u461 :: u462 :: u463 :: u464 :: u465 :: []).toArray, []⟩ w := by
  conv => arg 2; whnf
  go_wp2
  go_loopw [12, 13, 14, 15, 17, 18, 19, 20] (fun i _ _ _ _ _ _ _ wr => ∃ k : Nat, k ≤ T.length ∧ i = .int .i64 ((k : Int) - 1) ∧ Rz H co po E (T.drop k) ρ w0 gR N wr) (fun i _ _ _ _ _ _ _ _ => (intOf i + 1).toNat)
  case atStart => exact ⟨T.length, Nat.le_refl _, rfl, by rw [List.drop_length]; exact hrz.out⟩
  case round =>
    clear hrz
    obtain ⟨k, hk, rfl, hg⟩ := hrel
    have HG := hide hg
    cases k with
    | zero =>
      clear hg
      go_wp2
      exact hK.out _ _ _ _ _ _ _ _ _ _ _ _ _ _ _ _ _ _ _ _ _ _ _ _ _ _ _ _ _ _ _ _ _ _ _ _ _ _ _ _ _ _ _ _ _ _ _ _ _ _ _ _ _ _ _ _ _ _ _ _ _ _ _ _ _ _ _ _ _ _ _ _ _ _ _ _ _ _ _ _ _ _ _ _ _ _ _ _ _ _ _ _ _ _ _ _ _ _ _ _ _ _ _ _ _ _ _ _ _ _ _ _ _ _ _ _ (by have := HG.out; rw [List.drop_zero] at this; exact this)
    | succ j =>
      have ej : (((j + 1 : Nat) : Int) - 1) = (j : Int) := by omega
      rw [ej]
      clear ej
      obtain ⟨f, hr, hws, hst⟩ := hg
      have HU : Hid (T[j]! ∉ T.drop (j + 1)) := drop_nin hnd.out (by omega)
      have HTD : Hid (∀ v ∈ sucs E T[j]!, v ∈ T.drop (j + 1)) := fun v hv => ord_tail hnd.out hord.out (by omega) (sucs_edge hv) (hTa.out v (sucs_lt hE.out hv).2)
      have HDA : Hid (T.drop j = T[j]! :: T.drop (j + 1)) := drop_at (by omega)
      have hun : T[j]! < O.length := hTn.out _ (by rw [getElem!_pos T j (by omega)]; exact List.getElem_mem _)
      have hnr := hT.out.keep hst (by decide)
      obtain ⟨gT, cT', hvT, _, _, _⟩ := Row.has hnr (by omega)
      cases hvT
      have hjT : j < T.length := by omega
      have y0 := hnr.cell (j := j) hjT
      obtain ⟨u, eu⟩ : ∃ u, u = T[j]! := ⟨_, rfl⟩
      rw [← eu] at HU HTD HDA hun y0
      have c3 := (hclo.out.keep hst (by decide)).cell 3 rfl
      have b10 := (hbx.out.keep hst (by decide)).cell 0 rfl
      have ix1 := fun wx => idx38 (b := gT) (c := cT) hjT wx
      obtain ⟨m, em⟩ : ∃ m, m = u * nW := ⟨_, rfl⟩
      have hm2 : m + nW ≤ N := by
        have := Nat.mul_le_mul_right nW (show u + 1 ≤ O.length from hun)
        rw [Nat.add_mul, Nat.one_mul, ← em] at this
        rw [hNe.out]; exact this
      have w1 : IntKind.i64.wrap ((u : Int) * (nW : Int)) = (m : Nat) := by
        have : (u : Int) * (nW : Int) = ((u * nW : Nat) : Int) := by simp
        rw [this, ← em]; simp [IntKind.wrap, IntKind.signed, IntKind.bits]; omega
      have w2 : IntKind.i64.wrap (((u : Int) + 1) * (nW : Int)) = (m : Nat) + (nW : Nat) := by
        have : ((u : Int) + 1) * (nW : Int) = ((u * nW + nW : Nat) : Int) := by rw [Int.add_mul]; simp
        rw [this, ← em]; clear w1; simp [IntKind.wrap, IntKind.signed, IntKind.bits]; omega
      have HM : Hid (m = u * H.length) := by show _ = _; rw [em, hW.out]
      have hWp : 0 < nW := by have := (hco.out.fwd u hun).1; rw [← hW.out] at this; omega
      have hNm : ¬ N = m := by omega
      clear em eu hr hws hst hnr f
      go_upto_block 4 with fail
      rw [Nat.add_sub_cancel_left]
      refine wp_then (blk17_4_any C Lb O Q P F vo vp vf vs vk vpc vps vsr vrd vsw Cb gof gat vW vR vL co po H E (T.drop (j + 1)) gR m nW N (N - m) u ρ w0 wr hco hE hH hW hsta HM hm2 hW3 HU (HG.out.rg u) _ _ _ _ _ _ _ _ _ _ _ _ _ _ _ _ _ _ _ _ _ _ _ _ _ _ _ _ _ _ _ _ _ _ _ _ _ _ _ _ _ _ _ _ _ _ _ _ _ _ _ _ _ _ _ _ _ _ _ _ _ _ _ _ _ _ _ _ _ _ _ _ _ _ _ _ _ _ _ _ _ _ _ _ _ _ _ _ _ _ _ _ _ _ _ _ _ _ _ _ _ _ _ _ _ _ _ _ _ _ _ _ _ _ _ _ _ _ _ _ _ _ _ _ _ _ _ _ _ _ _ _ _ _ _ _ _ _ _ _ _ _ _ _ _ _ _ _ _ _ _ _ _ _ _ _ _ _ _ _ _ _ _ _ _ _ _ _ _ _ _ _ _ _ _ _ _ _ _ _ _ _ _ _ _ _ _ _ _ _ _ _ _ _ _ _ _ _ _ _ _ _ _ _ _ _ _ _ _ _ _ _ _ _ _ _ _ _ _ _ _ _ _ _ _ _ _ _ _ _ _ _ _ _ _ _ _ _ _ _ _ _ _ _ _ _ _ _ _ _ _ _ _ _ _ _ _ _ _ _ _ _ _ _ _ _ _ _ _ _ _ _ _ _ _ _ _ _ _ _ _ _ _ _ _ _ _ _ _ _ _ _ _ _ _ _ _ _ _ _ _ _ _ _ _ _ _ _ _ _ _ _ _ _ _ _ _ _ _ _ _ _ _ _ _ _ _ _ _ _ _ _ _ _ _ _ _ _ _ _ _ _ _ _ _ _ _ _ _ _ _ _ _ _ _ _ _ _ _ _ _ _ _ _ _ _ _ _ _ _ _ _ _ _ _ _ _ _ _ _ _ _ _ _ _ _ _ _ _ _ _ _ _ _ _ _ _ _ _ _ _ _ _ _ _ _ _ _ _ _ _ _ _ _ _ _ _ _ _ _ _ _ _ _ _ _ _ _ _ _ _ _ _ _ _ _ _ _ _ _ _ _ _ _ _ _ _ _ _ _ _ _ _ _ _ _ _ _ _ _ _ _ _ ?_)
      rintro x15 x119 x120 x121 x122 x123 x124 x125 x126 x127 x128 x129 x130 x131 x132 x133 x134 W1 hg1
      have HG1 : Hid (Rf H co po E (T.drop (j + 1)) u 0 ρ w0 gR N W1) := by rw [hW.out] at hg1; exact hg1.done
      clear hg1 HG w1 w2 c3 b10 y0 ix1 hNm
      obtain ⟨f, hr, hws, hrw, hst⟩ := HG1.out
      have c2 := (hclo.out.keep hst (by decide)).cell 2 rfl
      have b10 := (hbx.out.keep hst (by decide)).cell 0 rfl
      have hg := hgr.out.keep hst (by decide) (by decide) (by simp) (by decide) (by simp)
      obtain ⟨vsS, hSl, hSr, hSn⟩ := hg.su.ex
      rw [succOf_len] at hSl hSr hSn
      obtain ⟨gS, cS, hvS, _, _, _⟩ := hSr.has (by omega)
      have g0 : W1.cell? ⟨G, 0, none⟩ = some (.slice (some ⟨gS, 0, none⟩) O.length cS) := by rw [← hvS]; exact hg.st.cell 0 rfl
      rw [hvS] at hSr
      have s1 := hSr.cell1 hun hSl
      obtain ⟨vsS0, hSl0, hSr0, hSn0⟩ := hgr.out.su.ex
      have hnS := hSn u hun
      rw [sucs_at E hun] at hnS
      obtain ⟨aX, cX, hvX, _, _⟩ := Row.form hnS
      rw [hvX] at s1 hnS
      have hSl1 : (sucs E u).length ≤ 100000 := by unfold sucs; rw [List.length_map]; exact Nat.le_trans (List.length_filter_le _ _) hEl
      have HNS := hide hnS
      have HSTA := hide (hsta.out.keep hst (fun _ h => RT.nr h))
      have HCLO := hide (hclo.out.keep hst (by decide))
      have HBX := hide (hbx.out.keep hst (by decide))
      have HST := hide hst
      have HG2 : Hid (Rf H co po E (T.drop (j + 1)) u 0 ρ W1 gR N W1) := ⟨f, hr, hws, hrw, Stp.refl _ _ _⟩
      have ix2 := fun wx => idx48 (b := gS) (c := cS) hun wx
      clear hr hws hrw hst hg hSl hSr hSn hvS hSl0 hSr0 hSn0 hnS hvX HG1
      go_upto_block 6 with fail
      refine wp_end (blk17_6_any C Lb O Q P F vo vp vf vs vk vpc vps vsr vrd vsw Cb gof gat vW vR vL co po H E (T.drop (j + 1)) B G b1 gR m nW N (N - m) u aX cX ρ W1 W1 hco hE hW HSTA HCLO HBX HNS hSl1 HM hm2 hNe hO hN6 hW3 HU HTD HG2 _ _ _ _ _ _ _ _ _ _ _ _ _ _ _ _ _ _ _ _ _ _ _ _ _ _ _ _ _ _ _ _ _ _ _ _ _ _ _ _ _ _ _ _ _ _ _ _ _ _ _ _ _ _ _ _ _ _ _ _ _ _ _ _ _ _ _ _ _ _ _ _ _ _ _ _ _ _ _ _ _ _ _ _ _ _ _ _ _ _ _ _ _ _ _ _ _ _ _ _ _ _ _ _ _ _ _ _ _ _ _ _ _ _ _ _ _ _ _ _ _ _ _ _ _ _ _ _ _ _ _ _ _ _ _ _ _ _ _ _ _ _ _ _ _ _ _ _ _ _ _ _ _ _ _ _ _ _ _ _ _ _ _ _ _ _ _ _ _ _ _ _ _ _ _ _ _ _ _ _ _ _ _ _ _ _ _ _ _ _ _ _ _ _ _ _ _ _ _ _ _ _ _ _ _ _ _ _ _ _ _ _ _ _ _ _ _ _ _ _ _ _ _ _ _ _ _ _ _ _ _ _ _ _ _ _ _ _ _ _ _ _ _ _ _ _ _ _ _ _ _ _ _ _ _ _ _ _ _ _ _ _ _ _ _ _ _ _ _ _ _ _ _ _ _ _ _ _ _ _ _ _ _ _ _ _ _ _ _ _ _ _ _ _ _ _ _ _ _ _ _ _ _ _ _ _ _ _ _ _ _ _ _ _ _ _ _ _ _ _ _ _ _ _ _ _ _ _ _ _ _ _ _ _ _ _ _ _ _ _ _ _ _ _ _ _ _ _ _ _ _ _ _ _ _ _ _ _ _ _ _ _ _ _ _ _ _ _ _ _ _ _ _ _ _ _ _ _ _ _ _ _ _ _ _ _ _ _ _ _ _ _ _ _ _ _ _ _ _ _ _ _ _ _ _ _ _ _ _ _ _ _ _ _ _ _ _ _ _ _ _ _ _ _ _ _ _ _ _ _ _ _ _ _ _ _ _ _ _ _ _ _ _ _ _ _ _ _ _ _ _ _ _ _ _ _ _ _ _ _ ?_)
      rintro x17 x18 x19 x20 x146 x147 x148 x149 x150 x151 x152 x153 x154 x155 x156 x157 x158 x159 x160 x161 x162 x163 x164 x165 x166 x167 x168 x169 x170 x171 x172 x173 x174 x175 x176 x177 x178 x179 x180 x181 x182 x183 x184 x185 x186 x187 x188 x189 x190 x191 x192 x193 x194 x195 x196 x197 x198 x199 x200 x201 x202 x203 W2 hg3
      have HG3 : Hid (Rz H co po E (T.drop j) ρ w0 gR N W2) := by
        obtain ⟨f, a, b, c⟩ := hg3.rz
        show Rz H co po E (T.drop j) ρ w0 gR N W2
        rw [HDA.out]; exact ⟨f, a, b, HST.out.trans c⟩
      clear hg3 HG2 c2 b10 g0 s1 ix2
      go_wp2
      go_roundw
      case rel => exact ⟨j, by omega, by go_num, HG3.out⟩
      case measure => simp [intOf]
end Go.Proofs.Ybulknju
