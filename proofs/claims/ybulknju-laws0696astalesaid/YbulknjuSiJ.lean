import Derived.Test.YbulknjuSiI
namespace Go.Proofs.Ybulknju
open Go.RowKit

set_option maxHeartbeats 8000000 in
set_option maxRecDepth 1000000 in
theorem blk17_24_any (C Lb : Nat) (O : List OpR) (Q : List Nat) (P : Nat → List Nat) (F : List (List Nat)) (vo vp vf vs vk vpc vps vsr vrd vsw : Value) (Cb gof gat : Nat) (vW vR vL : Value) (co po : Nat → Nat) (B G : Nat) (gs gp : Value) (gR : Nat) (vh : Value) (hon : Bool) (ρb : Rho) (wb w : World) (hO : O.length ≤ 2000) (hQ : Q.length ≤ 3) (hco : Hid (Col O.length (Q.map P) co po)) (hlk : Hid (Lks O (Q.map P) hon)) (e1 d1 : Nat) (he1 : e1 ≤ 20000000) (hd1 : d1 ≤ 20000000) (b1 b34 b36 r : Nat) (z : Int) (us : List Value) (aK : Option Addr) (cK kd : Nat) (hkd : Hid (kd = ky O r)) (hrn : r < O.length) (hrd : Hid ((opAt O r).rd = true)) (hz : Hid (z = sI O r)) (hus : Hid (us.length = Q.length)) (hnK : Hid (Row ρb wb (.wrK kd) 38 1 (.slice aK Q.length cK) Q.length us)) (hnU : Hid (∀ c, c < Q.length → NRow ρb wb (.wr kd c) us[c]! (wrL O (Q.map P) kd)[c]!)) (stl : Prop) (hstl : Hid (stl → Stl O (Q.map P) co po ∧ r = O.length - 1)) (hdq : Hid (Dq ρb wb C Lb O Q P F vo vp vf vs vk vpc vps vsr vrd vsw Cb gof gat vW vR vL co po B G gs gp gR vh e1 d1 [(b36, 3, #[.int .i64 z]), (b34, 3, #[.int .i64 (r : Nat)]), (b1, 25, #[.pointer (some ⟨B, 0, none⟩)])] w)) (K : Act → World → Prop) (R : Act → World → Prop) (u0 u1 u2 u4 u5 u6 u7 u8 u9 u10 u11 u12 u13 u14 u15 u16 u17 u18 u19 u20 u21 u23 u24 u25 u26 u27 u28 u29 u30 u31 u32 u33 u35 u37 u38 u39 u40 u41 u42 u43 u44 u45 u46 u47 u48 u49 u50 u51 u52 u53 u54 u55 u56 u57 u58 u59 u60 u61 u62 u63 u64 u65 u66 u67 u68 u69 u70 u71 u72 u73 u74 u75 u76 u77 u78 u79 u80 u81 u82 u83 u84 u85 u86 u87 u88 u89 u90 u91 u92 u93 u94 u95 u96 u97 u98 u99 u100 u101 u102 u103 u104 u105 u106 u107 u108 u109 u110 u111 u112 u113 u114 u115 u116 u117 u118 u119 u120 u121 u122 u123 u124 u125 u126 u127 u128 u129 u130 u131 u132 u133 u134 u135 u136 u137 u138 u139 u140 u141 u142 u143 u144 u145 u146 u147 u148 u149 u150 u151 u152 u153 u154 u155 u156 u157 u158 u159 u160 u161 u162 u163 u164 u165 u166 u167 u168 u169 u170 u171 u172 u173 u174 u175 u176 u177 u178 u179 u180 u181 u182 u183 u184 u185 u186 u187 u188 u189 u190 u191 u192 u193 u194 u195 u196 u197 u198 u199 u200 u201 u202 u203 u204 u205 u206 u207 u208 u209 u210 u211 u212 u213 u214 u215 u216 u217 u218 u219 u220 u221 u222 u223 u224 u225 u226 u227 u228 u229 u230 u231 u232 u233 u234 u235 u236 u237 u238 u239 u240 u241 u242 u243 u244 u245 u246 u247 u248 u249 u250 u251 u252 u253 u254 u255 u256 u257 u258 u259 u260 u261 u262 u263 u264 u265 u266 u267 u268 u269 u270 u271 u272 u273 u274 u275 u276 u277 u278 u279 u280 u281 u282 u283 u284 u285 u286 u287 u288 u289 u290 u291 u292 u293 u294 u295 u296 u297 u298 u299 u300 u301 u302 u303 u304 u305 u306 u307 u308 u309 u310 u311 u312 u313 u314 u315 u316 u317 u318 u319 u320 u321 u322 u323 u324 u325 u326 u327 u328 u329 u330 u331 u332 u333 u334 u335 u336 u337 u338 u339 u340 u341 u342 u343 u344 u345 u346 u347 u348 u349 u350 u351 u352 u353 u354 u355 u356 u357 u358 u359 u360 u361 u362 u363 u364 u365 u366 u367 u368 u369 u370 u371 u372 u373 u374 u375 u376 u377 u378 u379 u380 u381 u382 u383 u384 u385 u386 u387 u388 u389 u390 u391 u392 u393 u394 u395 u396 u397 u398 u399 u400 u401 u402 u403 u407 u408 u409 u410 u411 u412 u413 u414 u415 u416 u417 u418 u419 u420 u421 u422 u423 u424 u425 u426 u427 u428 u429 u430 u431 u432 u433 u434 u435 u436 u437 u438 u439 u440 u441 u442 u443 u444 u445 u446 u447 u448 u449 u450 u451 u452 u453 u454 u455 u456 u457 u458 u459 u460 u461 u462 u463 u464 u465 : Value)
    (hK : Hid (∀ (x6 x38 x39 x40 x406 x407 x408 x409 x410 x411 x412 x413 x414 x415 x416 x417 x418 x419 x420 x421 x422 x423 x424 x425 x426 x427 x428 x429 x430 x431 x432 x433 x434 x435 x436 x437 x438 x439 x440 x441 x442 x443 x444 x445 x446 x447 x448 x449 x450 x451 x452 x453 x454 x455 x456 x457 x458 x459 x460 x461 : Value) (wx : World), ¬ stl → Dq ρb wb C Lb O Q P F vo vp vf vs vk vpc vps vsr vrd vsw Cb gof gat vW vR vL co po B G gs gp gR vh e1 d1 [(b36, 3, #[.int .i64 z]), (b34, 3, #[.int .i64 (r : Nat)]), (b1, 25, #[.pointer (some ⟨B, 0, none⟩)])] wx → K ⟨(u0 :: u1 :: u2 :: .pointer (some ⟨b1, 0, none⟩) :: u4 :: u5 :: x6 :: u7 :: u8 :: u9 :: u10 :: u11 :: u12 :: u13 :: u14 :: u15 :: u16 :: u17 :: u18 :: u19 :: u20 :: u21 :: .int .i64 O.length :: u23 :: u24 :: u25 :: u26 :: u27 :: u28 :: u29 :: u30 :: u31 :: u32 :: u33 :: .pointer (some ⟨b34, 0, none⟩) :: u35 :: .pointer (some ⟨b36, 0, none⟩) :: u37 :: x38 :: x39 :: x40 :: u41 :: u42 :: u43 :: u44 :: u45 :: u46 :: u47 :: u48 :: u49 :: u50 :: u51 :: u52 :: u53 :: u54 :: u55 :: u56 :: u57 :: u58 :: u59 :: u60 :: u61 :: u62 :: u63 :: u64 :: u65 :: u66 :: u67 :: u68 :: u69 :: u70 :: u71 :: u72 :: u73 :: u74 :: u75 :: u76 :: u77 :: u78 :: u79 :: u80 :: u81 :: u82 :: u83 :: u84 :: u85 :: u86 :: u87 :: u88 :: u89 :: u90 :: u91 :: u92 :: u93 :: u94 :: u95 :: u96 :: u97 :: u98 :: u99 :: u100 :: u101 :: u102 :: u103 :: u104 :: u105 :: u106 :: u107 :: u108 :: u109 :: u110 :: u111 :: u112 :: u113 :: u114 :: u115 :: u116 :: u117 :: u118 :: u119 :: u120 :: u121 :: u122 :: u123 :: u124 :: u125 :: u126 :: u127 :: u128 :: u129 :: u130 :: u131 :: u132 :: u133 :: u134 :: u135 :: u136 :: u137 :: u138 :: u139 :: u140 :: u141 :: u142 :: u143 :: u144 :: u145 :: u146 :: u147 :: u148 :: u149 :: u150 :: u151 :: u152 :: u153 :: u154 :: u155 :: u156 :: u157 :: u158 :: u159 :: u160 :: u161 :: u162 :: u163 :: u164 :: u165 :: u166 :: u167 :: u168 :: u169 :: u170 :: u171 :: u172 :: u173 :: u174 :: u175 :: u176 :: u177 :: u178 :: u179 :: u180 :: u181 :: u182 :: u183 :: u184 :: u185 :: u186 :: u187 :: u188 :: u189 :: u190 :: u191 :: u192 :: u193 :: u194 :: u195 :: u196 :: u197 :: u198 :: u199 :: u200 :: u201 :: u202 :: u203 :: u204 :: u205 :: u206 :: u207 :: u208 :: u209 :: u210 :: u211 :: u212 :: u213 :: u214 :: u215 :: u216 :: u217 :: u218 :: u219 :: u220 :: u221 :: u222 :: u223 :: u224 :: u225 :: u226 :: u227 :: u228 :: u229 :: u230 :: u231 :: u232 :: u233 :: u234 :: u235 :: u236 :: u237 :: u238 :: u239 :: u240 :: u241 :: u242 :: u243 :: u244 :: u245 :: u246 :: u247 :: u248 :: u249 :: u250 :: u251 :: u252 :: u253 :: u254 :: u255 :: u256 :: u257 :: u258 :: u259 :: u260 :: u261 :: u262 :: u263 :: u264 :: u265 :: u266 :: u267 :: u268 :: u269 :: u270 :: u271 :: u272 :: u273 :: u274 :: u275 :: u276 :: u277 :: u278 :: u279 :: u280 :: u281 :: u282 :: u283 :: u284 :: u285 :: u286 :: u287 :: u288 :: u289 :: u290 :: u291 :: u292 :: u293 :: u294 :: u295 :: u296 :: u297 :: u298 :: u299 :: u300 :: u301 :: u302 :: u303 :: u304 :: u305 :: u306 :: u307 :: u308 :: u309 :: u310 :: u311 :: u312 :: u313 :: u314 :: u315 :: u316 :: u317 :: u318 :: u319 :: u320 :: u321 :: u322 :: u323 :: u324 :: u325 :: u326 :: u327 :: u328 :: u329 :: u330 :: u331 :: u332 :: u333 :: u334 :: u335 :: u336 :: u337 :: u338 :: u339 :: u340 :: u341 :: u342 :: u343 :: u344 :: u345 :: u346 :: u347 :: u348 :: u349 :: u350 :: u351 :: u352 :: u353 :: u354 :: u355 :: u356 :: u357 :: u358 :: u359 :: u360 :: u361 :: u362 :: u363 :: u364 :: u365 :: u366 :: u367 :: u368 :: u369 :: u370 :: u371 :: u372 :: u373 :: u374 :: u375 :: u376 :: u377 :: u378 :: u379 :: u380 :: u381 :: u382 :: u383 :: u384 :: u385 :: u386 :: u387 :: u388 :: u389 :: u390 :: u391 :: u392 :: u393 :: u394 :: u395 :: u396 :: u397 :: u398 :: u399 :: u400 :: u401 :: u402 :: u403 :: .slice aK Q.length cK :: .int .i64 Q.length :: x406 :: x407 :: x408 :: x409 :: x410 :: x411 :: x412 :: x413 :: x414 :: x415 :: x416 :: x417 :: x418 :: x419 :: x420 :: x421 :: x422 :: x423 :: x424 :: x425 :: x426 :: x427 :: x428 :: x429 :: x430 :: x431 :: x432 :: x433 :: x434 :: x435 :: x436 :: x437 :: x438 :: x439 :: x440 :: x441 :: x442 :: x443 :: x444 :: x445 :: x446 :: x447 :: x448 :: x449 :: x450 :: x451 :: x452 :: x453 :: x454 :: x455 :: x456 :: x457 :: x458 :: x459 :: x460 :: x461 :: u462 :: u463 :: u464 :: u465 :: []).toArray, []⟩ wx)) (hR : Hid (∀ (x38 x39 x40 x406 x407 x408 x409 x410 x411 x412 x413 x414 x415 x416 x417 x418 x419 x420 x421 x422 x423 x424 x425 x426 x427 x428 x429 x430 x431 x432 x433 x434 x435 x436 x437 x438 x439 x440 x441 x442 x443 x444 x445 x446 x447 x448 x449 x450 x451 x452 x453 x454 x455 x456 x457 x458 x459 x460 x461 : Value) (wx : World), hon = false → Dq ρb wb C Lb O Q P F vo vp vf vs vk vpc vps vsr vrd vsw Cb gof gat vW vR vL co po B G gs gp gR vh e1 d1 [(b36, 3, #[.int .i64 z]), (b34, 3, #[.int .i64 (r : Nat)]), (b1, 25, #[.pointer (some ⟨B, 0, none⟩)])] wx → R ⟨(u0 :: u1 :: u2 :: .pointer (some ⟨b1, 0, none⟩) :: u4 :: u5 :: .bool false :: u7 :: u8 :: u9 :: u10 :: u11 :: u12 :: u13 :: u14 :: u15 :: u16 :: u17 :: u18 :: u19 :: u20 :: u21 :: .int .i64 O.length :: u23 :: u24 :: u25 :: u26 :: u27 :: u28 :: u29 :: u30 :: u31 :: u32 :: u33 :: .pointer (some ⟨b34, 0, none⟩) :: u35 :: .pointer (some ⟨b36, 0, none⟩) :: u37 :: x38 :: x39 :: x40 :: u41 :: u42 :: u43 :: u44 :: u45 :: u46 :: u47 :: u48 :: u49 :: u50 :: u51 :: u52 :: u53 :: u54 :: u55 :: u56 :: u57 :: u58 :: u59 :: u60 :: u61 :: u62 :: u63 :: u64 :: u65 :: u66 :: u67 :: u68 :: u69 :: u70 :: u71 :: u72 :: u73 :: u74 :: u75 :: u76 :: u77 :: u78 :: u79 :: u80 :: u81 :: u82 :: u83 :: u84 :: u85 :: u86 :: u87 :: u88 :: u89 :: u90 :: u91 :: u92 :: u93 :: u94 :: u95 :: u96 :: u97 :: u98 :: u99 :: u100 :: u101 :: u102 :: u103 :: u104 :: u105 :: u106 :: u107 :: u108 :: u109 :: u110 :: u111 :: u112 :: u113 :: u114 :: u115 :: u116 :: u117 :: u118 :: u119 :: u120 :: u121 :: u122 :: u123 :: u124 :: u125 :: u126 :: u127 :: u128 :: u129 :: u130 :: u131 :: u132 :: u133 :: u134 :: u135 :: u136 :: u137 :: u138 :: u139 :: u140 :: u141 :: u142 :: u143 :: u144 :: u145 :: u146 :: u147 :: u148 :: u149 :: u150 :: u151 :: u152 :: u153 :: u154 :: u155 :: u156 :: u157 :: u158 :: u159 :: u160 :: u161 :: u162 :: u163 :: u164 :: u165 :: u166 :: u167 :: u168 :: u169 :: u170 :: u171 :: u172 :: u173 :: u174 :: u175 :: u176 :: u177 :: u178 :: u179 :: u180 :: u181 :: u182 :: u183 :: u184 :: u185 :: u186 :: u187 :: u188 :: u189 :: u190 :: u191 :: u192 :: u193 :: u194 :: u195 :: u196 :: u197 :: u198 :: u199 :: u200 :: u201 :: u202 :: u203 :: u204 :: u205 :: u206 :: u207 :: u208 :: u209 :: u210 :: u211 :: u212 :: u213 :: u214 :: u215 :: u216 :: u217 :: u218 :: u219 :: u220 :: u221 :: u222 :: u223 :: u224 :: u225 :: u226 :: u227 :: u228 :: u229 :: u230 :: u231 :: u232 :: u233 :: u234 :: u235 :: u236 :: u237 :: u238 :: u239 :: u240 :: u241 :: u242 :: u243 :: u244 :: u245 :: u246 :: u247 :: u248 :: u249 :: u250 :: u251 :: u252 :: u253 :: u254 :: u255 :: u256 :: u257 :: u258 :: u259 :: u260 :: u261 :: u262 :: u263 :: u264 :: u265 :: u266 :: u267 :: u268 :: u269 :: u270 :: u271 :: u272 :: u273 :: u274 :: u275 :: u276 :: u277 :: u278 :: u279 :: u280 :: u281 :: u282 :: u283 :: u284 :: u285 :: u286 :: u287 :: u288 :: u289 :: u290 :: u291 :: u292 :: u293 :: u294 :: u295 :: u296 :: u297 :: u298 :: u299 :: u300 :: u301 :: u302 :: u303 :: u304 :: u305 :: u306 :: u307 :: u308 :: u309 :: u310 :: u311 :: u312 :: u313 :: u314 :: u315 :: u316 :: u317 :: u318 :: u319 :: u320 :: u321 :: u322 :: u323 :: u324 :: u325 :: u326 :: u327 :: u328 :: u329 :: u330 :: u331 :: u332 :: u333 :: u334 :: u335 :: u336 :: u337 :: u338 :: u339 :: u340 :: u341 :: u342 :: u343 :: u344 :: u345 :: u346 :: u347 :: u348 :: u349 :: u350 :: u351 :: u352 :: u353 :: u354 :: u355 :: u356 :: u357 :: u358 :: u359 :: u360 :: u361 :: u362 :: u363 :: u364 :: u365 :: u366 :: u367 :: u368 :: u369 :: u370 :: u371 :: u372 :: u373 :: u374 :: u375 :: u376 :: u377 :: u378 :: u379 :: u380 :: u381 :: u382 :: u383 :: u384 :: u385 :: u386 :: u387 :: u388 :: u389 :: u390 :: u391 :: u392 :: u393 :: u394 :: u395 :: u396 :: u397 :: u398 :: u399 :: u400 :: u401 :: u402 :: u403 :: .slice aK Q.length cK :: .int .i64 Q.length :: x406 :: x407 :: x408 :: x409 :: x410 :: x411 :: x412 :: x413 :: x414 :: x415 :: x416 :: x417 :: x418 :: x419 :: x420 :: x421 :: x422 :: x423 :: x424 :: x425 :: x426 :: x427 :: x428 :: x429 :: x430 :: x431 :: x432 :: x433 :: x434 :: x435 :: x436 :: x437 :: x438 :: x439 :: x440 :: x441 :: x442 :: x443 :: x444 :: x445 :: x446 :: x447 :: x448 :: x449 :: x450 :: x451 :: x452 :: x453 :: x454 :: x455 :: x456 :: x457 :: x458 :: x459 :: x460 :: x461 :: u462 :: u463 :: u464 :: u465 :: []).toArray, []⟩ wx)) :
    Code.wp Yba.prog (blkOf Yba.f17 24) (Exit.then K (onRet R)) ⟨(u0 :: u1 :: u2 :: .pointer (some ⟨b1, 0, none⟩) :: u4 :: u5 :: u6 :: u7 :: u8 :: u9 :: u10 :: u11 :: u12 :: u13 :: u14 :: u15 :: u16 :: u17 :: u18 :: u19 :: u20 :: u21 :: .int .i64 O.length :: u23 :: u24 :: u25 :: u26 :: u27 :: u28 :: u29 :: u30 :: u31 :: u32 :: u33 :: .pointer (some ⟨b34, 0, none⟩) :: u35 :: .pointer (some ⟨b36, 0, none⟩) :: u37 :: u38 :: u39 :: u40 :: u41 :: u42 :: u43 :: u44 :: u45 :: u46 :: u47 :: u48 :: u49 :: u50 :: u51 :: u52 :: u53 :: u54 :: u55 :: u56 :: u57 :: u58 :: u59 :: u60 :: u61 :: u62 :: u63 :: u64 :: u65 :: u66 :: u67 :: u68 :: u69 :: u70 :: u71 :: u72 :: u73 :: u74 :: u75 :: u76 :: u77 :: u78 :: u79 :: u80 :: u81 :: u82 :: u83 :: u84 :: u85 :: u86 :: u87 :: u88 :: u89 :: u90 :: u91 :: u92 :: u93 :: u94 :: u95 :: u96 :: u97 :: u98 :: u99 :: u100 :: u101 :: u102 :: u103 :: u104 :: u105 :: u106 :: u107 :: u108 :: u109 :: u110 :: u111 :: u112 :: u113 :: u114 :: u115 :: u116 :: u117 :: u118 :: u119 :: u120 :: u121 :: u122 :: u123 :: u124 :: u125 :: u126 :: u127 :: u128 :: u129 :: u130 :: u131 :: u132 :: u133 :: u134 :: u135 :: u136 :: u137 :: u138 :: u139 :: u140 :: u141 :: u142 :: u143 :: u144 :: u145 :: u146 :: u147 :: u148 :: u149 :: u150 :: u151 :: u152 :: u153 :: u154 :: u155 :: u156 :: u157 :: u158 :: u159 :: u160 :: u161 :: u162 :: u163 :: u164 :: u165 :: u166 :: u167 :: u168 :: u169 :: u170 :: u171 :: u172 :: u173 :: u174 :: u175 :: u176 :: u177 :: u178 :: u179 :: u180 :: u181 :: u182 :: u183 :: u184 :: u185 :: u186 :: u187 :: u188 :: u189 :: u190 :: u191 :: u192 :: u193 :: u194 :: u195 :: u196 :: u197 :: u198 :: u199 :: u200 :: u201 :: u202 :: u203 :: u204 :: u205 :: u206 :: u207 :: u208 :: u209 :: u210 :: u211 :: u212 :: u213 :: u214 :: u215 :: u216 :: u217 :: u218 :: u219 :: u220 :: u221 :: u222 :: u223 :: u224 :: u225 :: u226 :: u227 :: u228 :: u229 :: u230 :: u231 :: u232 :: u233 :: u234 :: u235 :: u236 :: u237 :: u238 :: u239 :: u240 :: u241 :: u242 :: u243 :: u244 :: u245 :: u246 :: u247 :: u248 :: u249 :: u250 :: u251 :: u252 :: u253 :: u254 :: u255 :: u256 :: u257 :: u258 :: u259 :: u260 :: u261 :: u262 :: u263 :: u264 :: u265 :: u266 :: u267 :: u268 :: u269 :: u270 :: u271 :: u272 :: u273 :: u274 :: u275 :: u276 :: u277 :: u278 :: u279 :: u280 :: u281 :: u282 :: u283 :: u284 :: u285 :: u286 :: u287 :: u288 :: u289 :: u290 :: u291 :: u292 :: u293 :: u294 :: u295 :: u296 :: u297 :: u298 :: u299 :: u300 :: u301 :: u302 :: u303 :: u304 :: u305 :: u306 :: u307 :: u308 :: u309 :: u310 :: u311 :: u312 :: u313 :: u314 :: u315 :: u316 :: u317 :: u318 :: u319 :: u320 :: u321 :: u322 :: u323 :: u324 :: u325 :: u326 :: u327 :: u328 :: u329 :: u330 :: u331 :: u332 :: u333 :: u334 :: u335 :: u336 :: u337 :: u338 :: u339 :: u340 :: u341 :: u342 :: u343 :: u344 :: u345 :: u346 :: u347 :: u348 :: u349 :: u350 :: u351 :: u352 :: u353 :: u354 :: u355 :: u356 :: u357 :: u358 :: u359 :: u360 :: u361 :: u362 :: u363 :: u364 :: u365 :: u366 :: u367 :: u368 :: u369 :: u370 :: u371 :: u372 :: u373 :: u374 :: u375 :: u376 :: u377 :: u378 :: u379 :: u380 :: u381 :: u382 :: u383 :: u384 :: u385 :: u386 :: u387 :: u388 :: u389 :: u390 :: u391 :: u392 :: u393 :: u394 :: u395 :: u396 :: u397 :: u398 :: u399 :: u400 :: u401 :: u402 :: u403 :: .slice aK Q.length cK :: .int .i64 Q.length :: .int .i64 0 :: u407 :: u408 :: u409 :: u410 :: u411 :: u412 :: u413 :: u414 :: u415 :: u416 :: u417 :: u418 :: u419 :: u420 :: u421 :: u422 :: u423 :: u424 :: u425 :: u426 :: u427 :: u428 :: u429 :: u430 :: u431 :: u432 :: u433 :: u434 :: u435 :: u436 :: u437 :: u438 :: u439 :: u440 :: u441 :: u442 :: u443 :: u444 :: u445 :: u446 :: u447 :: u448 :: u449 :: u450 :: u451 :: u452 :: u453 :: u454 :: u455 :: u456 :: u457 :: u458 :: u459 :: u460 :: u461 :: u462 :: u463 :: u464 :: u465 :: []).toArray, []⟩ w := by
  conv => arg 2; whnf
  go_wp2
  go_loopw [6, 38, 39, 40, 406] (fun _ _ _ _ i wr => ∃ k : Nat, k ≤ Q.length ∧ i = .int .i64 k ∧ (stl → k = 0) ∧ Dq ρb wb C Lb O Q P F vo vp vf vs vk vpc vps vsr vrd vsw Cb gof gat vW vR vL co po B G gs gp gR vh e1 d1 [(b36, 3, #[.int .i64 z]), (b34, 3, #[.int .i64 (r : Nat)]), (b1, 25, #[.pointer (some ⟨B, 0, none⟩)])] wr) (fun _ _ _ _ i _ => Q.length - (intOf i).toNat)
  case atStart => exact ⟨0, by omega, rfl, fun _ => rfl, hdq.out⟩
  case round =>
    clear hdq
    obtain ⟨k, hk, rfl, hs0, hlq⟩ := hrel
    have HS0 := hide hs0
    have HLr := hide hlq
    clear hs0
    obtain ⟨ρr, vdr, Er, fr, Dr, hj, hbx, he, hd, hst⟩ := hlq
    by_cases hkW : k < Q.length
    · have hkr := hnK.out.keep hst (by simp [RK, RV, RG])
      obtain ⟨gK, cK', hvK, _, _, _⟩ := hkr.has (by omega)
      cases hvK
      have y0 := hkr.cell1 hkW hus.out
      have hnX0 := hnU.out k hkW
      have hkH : k < (Q.map P).length := by rw [col_len]; exact hkW
      obtain ⟨X, eX⟩ : ∃ X, X = (wrL O (Q.map P) kd)[k]! := ⟨_, rfl⟩
      rw [← eX] at hnX0
      obtain ⟨aX, cX, hvX, _, _⟩ := Row.form hnX0
      rw [hvX] at y0 hnX0
      have HEX := hide eX
      rw [wrL_at O (Q.map P) kd hkH] at eX
      have HXF := hide (fil_facts hco.out _ hkH eX)
      have hXl : X.length ≤ 3000 := by rw [eX]; exact Nat.le_trans (List.length_filter_le _ _) (hco.out.small k hkH)
      have HXN : Hid (∀ k, k < X.length → X[k]! < O.length) := fun i hi => (HXF.out i hi).1
      have HNX := hide hnX0
      have ix1 := fun wx => idx48 (b := gK) (c := cK) hkW wx
      have HQ1 := hide (Dq.box HLr.out 38 #[.slice aX X.length cX])
      clear hj hbx he hd hst hkr hnX0 hvX eX HLr
      go_upto_region 77 with fail
      obtain ⟨b38, eb38⟩ : ∃ b38, b38 = wr.heap.size := ⟨_, rfl⟩
      obtain ⟨W1, eW1⟩ : ∃ W1, W1 = wr.alloc (.cells #[.slice aX X.length cX] 38) := ⟨_, rfl⟩
      rw [← eb38, ← eW1] at HQ1
      rw [← eb38, ← eW1]
      clear eb38 eW1 y0 ix1
      obtain ⟨ρ1, vd1, E1, f1, D1, hj1, hbx1, _, _, hst1⟩ := HQ1.out
      have hb38 := hbx1 _ List.mem_cons_self
      have hb36 := hbx1 _ (List.mem_cons_of_mem _ List.mem_cons_self)
      have hb34 := hbx1 _ (List.mem_cons_of_mem _ (List.mem_cons_of_mem _ List.mem_cons_self))
      have hb1 := hbx1 _ (List.mem_cons_of_mem _ (List.mem_cons_of_mem _ (List.mem_cons_of_mem _ List.mem_cons_self)))
      have b380 := hb38.cell 0 rfl
      have HN1 := hide (HNX.out.keep hst1 (by simp [RK, RV, RG]))
      have SE := hide (search_any 30 #[.pointer (some ⟨b1, 0, none⟩), .pointer (some ⟨b38, 0, none⟩), .pointer (some ⟨b34, 0, none⟩)] X.length (fun i => !rch f1 Q.length co po X[i]! r) W1 eg30 (by omega) (fun q i hi => by
        obtain ⟨gX, cX', hvX, _, _, _⟩ := Row.has HN1.out (by omega)
        have hc := HN1.out
        rw [hvX] at hc
        have h7 := hb38.cell 0 rfl
        rw [hvX] at h7
        exact sat1_any C Lb O Q P F vo vp vf vs vk vpc vps vsr vrd vsw Cb gof gat vW vR vL co po B G gs gp gR vh vd1 E1 f1 D1 ρ1 (W1.drewN q) hO hQ hco.out (hj1.keep0 ((Stp.refl (fun _ => False) ρ1 W1).drewN q) (fun _ h => h.elim)) b1 b38 b34 gX cX' X.length i X[i]! r (hb1.cell 0 rfl) h7 (hb34.cell 0 rfl) hi (NRow.cell hc hi) (HXN.out i hi) hrn))
      have HINV := hide hj1.inv
      clear hj1 hbx1 hst1 hb38 hb36 hb34 hb1 HN1
      go_upto_region 78 with (go_at_call 29; refine SE.out.mono ?_; rintro e w8 ⟨i1, rfl, hi1, hp1, hp2, q8, rfl⟩)
      have HLK : Hid (0 < i1 → ¬ (X[i1 - 1]! : Int) = z → ∃ s : Nat, z = (s : Nat) ∧ s < O.length ∧ Lk (Q.map P) hon X[i1 - 1]! s) := fun h1 h2 => by
        obtain ⟨a1, a2, a3, _⟩ := HXF.out (i1 - 1) (by omega)
        simp only [Bool.and_eq_true, beq_iff_eq, Bool.not_eq_true'] at a2
        have h3 : rch f1 (Q.map P).length co po X[i1 - 1]! r = true := by rw [col_len]; simpa using hp2 h1
        have h4 := rch_lt HINV.out hco.out a1 hrn h3
        obtain ⟨s, e1, e2, e3⟩ := hlk.out.s1 r X[i1 - 1]! hrn a1 hrd.out a2.1 (by rw [a2.2, hkd.out]) h4 (by rw [← hz.out]; exact fun e => h2 e.symm)
        exact ⟨s, by rw [hz.out]; exact e1, e2, e3⟩
      have HST : Hid (stl → 0 < i1 ∧ ¬ (X[i1 - 1]! : Int) = z ∧ z ≤ (X[i1 - 1]! : Nat)) := fun h => by
        obtain ⟨s1, s2⟩ := hstl.out h
        obtain rfl := HS0.out h
        have e0 : X = (wrL O (Q.map P) (ky O (O.length - 1)))[0]! := by rw [HEX.out, hkd.out, s2]
        have hne := s1.ne
        rw [← e0] at hne
        have hil : i1 = X.length := by
          rcases Nat.lt_or_ge i1 X.length with h1 | h1
          · have h2 := hp1 h1
            have h3 := s1.rch f1 E1 D1 HINV.out X[i1]! (by rw [← e0, getElem!_pos X i1 h1]; exact List.getElem_mem _)
            rw [col_len, ← s2] at h3
            rw [h3] at h2; cases h2
          · omega
        have h5 := s1.last (i1 - 1) (by rw [← e0]; omega)
        rw [← e0, ← s2, ← hz.out] at h5
        exact ⟨by omega, h5.1, h5.2⟩
      clear SE hp1 hp2 b380
      refine wp_then (reg17_78_any C Lb O Q P F vo vp vf vs vk vpc vps vsr vrd vsw Cb gof gat vW vR vL co po B G gs gp gR vh hon ρb wb (W1.drewN q8) hO hQ hco e1 d1 he1 hd1 b1 b34 b36 b38 r i1 z _ X aX cX kd k (by show _ = _; rfl) hi1 hXl HNX HXN HLK stl HST (HQ1.out.drew q8) _ _ _ _ _ _ _ _ _ _ _ _ _ _ _ _ _ _ _ _ _ _ _ _ _ _ _ _ _ _ _ _ _ _ _ _ _ _ _ _ _ _ _ _ _ _ _ _ _ _ _ _ _ _ _ _ _ _ _ _ _ _ _ _ _ _ _ _ _ _ _ _ _ _ _ _ _ _ _ _ _ _ _ _ _ _ _ _ _ _ _ _ _ _ _ _ _ _ _ _ _ _ _ _ _ _ _ _ _ _ _ _ _ _ _ _ _ _ _ _ _ _ _ _ _ _ _ _ _ _ _ _ _ _ _ _ _ _ _ _ _ _ _ _ _ _ _ _ _ _ _ _ _ _ _ _ _ _ _ _ _ _ _ _ _ _ _ _ _ _ _ _ _ _ _ _ _ _ _ _ _ _ _ _ _ _ _ _ _ _ _ _ _ _ _ _ _ _ _ _ _ _ _ _ _ _ _ _ _ _ _ _ _ _ _ _ _ _ _ _ _ _ _ _ _ _ _ _ _ _ _ _ _ _ _ _ _ _ _ _ _ _ _ _ _ _ _ _ _ _ _ _ _ _ _ _ _ _ _ _ _ _ _ _ _ _ _ _ _ _ _ _ _ _ _ _ _ _ _ _ _ _ _ _ _ _ _ _ _ _ _ _ _ _ _ _ _ _ _ _ _ _ _ _ _ _ _ _ _ _ _ _ _ _ _ _ _ _ _ _ _ _ _ _ _ _ _ _ _ _ _ _ _ _ _ _ _ _ _ _ _ _ _ _ _ _ _ _ _ _ _ _ _ _ _ _ _ _ _ _ _ _ _ _ _ _ _ _ _ _ _ _ _ _ _ _ _ _ _ _ _ _ _ _ _ _ _ _ _ _ _ _ _ _ _ _ _ _ _ _ _ _ _ _ _ _ _ _ _ _ _ _ _ _ _ _ _ _ _ _ _ _ _ _ _ _ _ _ _ _ _ _ _ _ _ _ _ _ _ _ _ _ _ _ _ _ _ _ _ _ _ _ _ _ _ _ _ _ _ _ _ _ ?_)
      rintro x415 x416 x417 x418 x419 x420 x421 x422 x423 x424 x425 x426 x427 x428 x429 x430 x431 x432 x433 x434 x435 x436 x437 x438 bb W3 ho3 hs3 hq3
      have HO3 := hide ho3
      have HS3 := hide hs3
      have HQ3 := hide hq3
      clear ho3 hs3 hq3 HQ1 HLK HST HINV
      cases bb with
      | true =>
        have HON : Hid (hon = false) := HO3.out rfl
        clear HO3
        go_wp2
        exact hR.out _ _ _ _ _ _ _ _ _ _ _ _ _ _ _ _ _ _ _ _ _ _ _ _ _ _ _ _ _ _ _ _ _ _ _ _ _ _ _ _ _ _ _ _ _ _ _ _ _ _ _ _ _ _ _ _ _ _ _ _ HON.out (HQ3.out.less (fun b hb => List.mem_cons_of_mem _ hb))
      | false =>
        have NST : Hid (¬ stl) := fun h => Bool.noConfusion (HS3.out h)
        clear HO3 HS3
        obtain ⟨ρ3, vd3, E3, f3, D3, hj3, hbx3, _, _, hst3⟩ := HQ3.out
        have hb38 := hbx3 _ List.mem_cons_self
        have hb36 := hbx3 _ (List.mem_cons_of_mem _ List.mem_cons_self)
        have hb34 := hbx3 _ (List.mem_cons_of_mem _ (List.mem_cons_of_mem _ List.mem_cons_self))
        have hb1 := hbx3 _ (List.mem_cons_of_mem _ (List.mem_cons_of_mem _ (List.mem_cons_of_mem _ List.mem_cons_self)))
        have b360 := hb36.cell 0 rfl
        have b380 := hb38.cell 0 rfl
        by_cases hzn : z < (O.length : Nat)
        · have hz0 := (hlk.out.src r hrn hrd.out).1
          rw [← hz.out] at hz0
          obtain ⟨s, es⟩ : ∃ s : Nat, z = (s : Nat) := ⟨z.toNat, by omega⟩
          have hsn : s < O.length := by omega
          have hsn2 : decide ((s : Int) < (O.length : Int)) = true := decide_eq_true (by omega)
          have b36s : W3.cell? ⟨b36, 0, none⟩ = some (.int .i64 (s : Nat)) := by rw [← es]; exact b360
          have HZS := hide es
          have HN1 := hide (HNX.out.keep hst3 (by simp [RK, RV, RG]))
          have SE := hide (search_any 32 #[.pointer (some ⟨b1, 0, none⟩), .pointer (some ⟨b36, 0, none⟩), .pointer (some ⟨b38, 0, none⟩)] X.length (fun i => rch f3 Q.length co po s X[i]!) W3 eg32 (by omega) (fun q i hi => by
        obtain ⟨gX, cX', hvX, _, _, _⟩ := Row.has HN1.out (by omega)
        have hc := HN1.out
        rw [hvX] at hc
        have h7 := hb38.cell 0 rfl
        rw [hvX] at h7
        exact sat2_any C Lb O Q P F vo vp vf vs vk vpc vps vsr vrd vsw Cb gof gat vW vR vL co po B G gs gp gR vh vd3 E3 f3 D3 ρ3 (W3.drewN q) hO hQ hco.out (hj3.keep0 ((Stp.refl (fun _ => False) ρ3 W3).drewN q) (fun _ h => h.elim)) b1 b36 b38 gX cX' X.length i X[i]! s (hb1.cell 0 rfl) b36s h7 hi (NRow.cell hc hi) (HXN.out i hi) hsn))
          have HINV := hide hj3.inv
          clear hj3 hbx3 hst3 hb38 hb36 hb34 hb1 HN1 b360 es hzn hz0
          go_upto_region 83 with (go_at_call 29; refine SE.out.mono ?_; rintro e w9 ⟨fi, rfl, hfi, hp1, hp2, q9, rfl⟩)
          have HLF : Hid (fi < X.length → Lk (Q.map P) hon r X[fi]!) := fun h1 => by
            obtain ⟨a1, a2, a3, _⟩ := HXF.out fi h1
            simp only [Bool.and_eq_true, beq_iff_eq, Bool.not_eq_true'] at a2
            have h3 : rch f3 (Q.map P).length co po s X[fi]! = true := by rw [col_len]; exact hp1 h1
            have h4 := rch_lt HINV.out hco.out hsn a1 h3
            exact hlk.out.s2 r X[fi]! s hrn a1 hrd.out (by rw [← hz.out]; exact HZS.out) hsn a2.1 (by rw [a2.2, hkd.out]) h4
          clear SE hp1 hp2 b380 b36s HINV
          refine wp_then (reg17_83_any C Lb O Q P F vo vp vf vs vk vpc vps vsr vrd vsw Cb gof gat vW vR vL co po B G gs gp gR vh hon ρb wb (W3.drewN q9) hO hQ hco e1 d1 he1 hd1 b1 b34 b36 b38 r fi z X aX cX kd k hrn hXl HNX HXN HLF (HQ3.out.drew q9) _ _ _ _ _ _ _ _ _ _ _ _ _ _ _ _ _ _ _ _ _ _ _ _ _ _ _ _ _ _ _ _ _ _ _ _ _ _ _ _ _ _ _ _ _ _ _ _ _ _ _ _ _ _ _ _ _ _ _ _ _ _ _ _ _ _ _ _ _ _ _ _ _ _ _ _ _ _ _ _ _ _ _ _ _ _ _ _ _ _ _ _ _ _ _ _ _ _ _ _ _ _ _ _ _ _ _ _ _ _ _ _ _ _ _ _ _ _ _ _ _ _ _ _ _ _ _ _ _ _ _ _ _ _ _ _ _ _ _ _ _ _ _ _ _ _ _ _ _ _ _ _ _ _ _ _ _ _ _ _ _ _ _ _ _ _ _ _ _ _ _ _ _ _ _ _ _ _ _ _ _ _ _ _ _ _ _ _ _ _ _ _ _ _ _ _ _ _ _ _ _ _ _ _ _ _ _ _ _ _ _ _ _ _ _ _ _ _ _ _ _ _ _ _ _ _ _ _ _ _ _ _ _ _ _ _ _ _ _ _ _ _ _ _ _ _ _ _ _ _ _ _ _ _ _ _ _ _ _ _ _ _ _ _ _ _ _ _ _ _ _ _ _ _ _ _ _ _ _ _ _ _ _ _ _ _ _ _ _ _ _ _ _ _ _ _ _ _ _ _ _ _ _ _ _ _ _ _ _ _ _ _ _ _ _ _ _ _ _ _ _ _ _ _ _ _ _ _ _ _ _ _ _ _ _ _ _ _ _ _ _ _ _ _ _ _ _ _ _ _ _ _ _ _ _ _ _ _ _ _ _ _ _ _ _ _ _ _ _ _ _ _ _ _ _ _ _ _ _ _ _ _ _ _ _ _ _ _ _ _ _ _ _ _ _ _ _ _ _ _ _ _ _ _ _ _ _ _ _ _ _ _ _ _ _ _ _ _ _ _ _ _ _ _ _ _ _ _ _ _ _ _ _ _ _ _ _ _ _ _ _ _ _ _ _ _ _ _ _ _ _ _ _ _ _ _ _ _ _ _ _ _ _ ?_)
          rintro x447 x448 x449 x450 x451 x452 x453 x454 x455 x456 x457 x458 x459 bb W4 ho4 hq4
          have HO4 := hide ho4
          have HQ4 := hide (hq4.less (fun b hb => List.mem_cons_of_mem _ hb) (by' := [(b36, 3, #[.int .i64 z]), (b34, 3, #[.int .i64 (r : Nat)]), (b1, 25, #[.pointer (some ⟨B, 0, none⟩)])]))
          clear ho4 hq4
          cases bb with
          | true =>
            have HON : Hid (hon = false) := HO4.out rfl
            clear HO4
            go_wp2
            exact hR.out _ _ _ _ _ _ _ _ _ _ _ _ _ _ _ _ _ _ _ _ _ _ _ _ _ _ _ _ _ _ _ _ _ _ _ _ _ _ _ _ _ _ _ _ _ _ _ _ _ _ _ _ _ _ _ _ _ _ _ _ HON.out HQ4.out
          | false =>
            go_wp2
            go_roundw
            case rel => exact ⟨k + 1, by omega, by go_num, fun h => absurd h NST.out, HQ4.out⟩
            case measure => simp [intOf]; omega
        · have hzn2 : decide (z < (O.length : Int)) = false := decide_eq_false hzn
          have HLF : Hid (0 < X.length → Lk (Q.map P) hon r X[0]!) := fun h1 => by
            obtain ⟨a1, a2, a3, _⟩ := HXF.out 0 h1
            simp only [Bool.and_eq_true, beq_iff_eq, Bool.not_eq_true'] at a2
            exact hlk.out.s3 r X[0]! hrn a1 hrd.out (by rw [← hz.out]; omega) a2.1 (by rw [a2.2, hkd.out])
          clear hj3 hbx3 hst3 hb38 hb36 hb34 hb1
          go_upto_region 83 with fail
          clear b380 b360 hzn2
          refine wp_then (reg17_83_any C Lb O Q P F vo vp vf vs vk vpc vps vsr vrd vsw Cb gof gat vW vR vL co po B G gs gp gR vh hon ρb wb W3 hO hQ hco e1 d1 he1 hd1 b1 b34 b36 b38 r 0 z X aX cX kd k hrn hXl HNX HXN HLF HQ3 _ _ _ _ _ _ _ _ _ _ _ _ _ _ _ _ _ _ _ _ _ _ _ _ _ _ _ _ _ _ _ _ _ _ _ _ _ _ _ _ _ _ _ _ _ _ _ _ _ _ _ _ _ _ _ _ _ _ _ _ _ _ _ _ _ _ _ _ _ _ _ _ _ _ _ _ _ _ _ _ _ _ _ _ _ _ _ _ _ _ _ _ _ _ _ _ _ _ _ _ _ _ _ _ _ _ _ _ _ _ _ _ _ _ _ _ _ _ _ _ _ _ _ _ _ _ _ _ _ _ _ _ _ _ _ _ _ _ _ _ _ _ _ _ _ _ _ _ _ _ _ _ _ _ _ _ _ _ _ _ _ _ _ _ _ _ _ _ _ _ _ _ _ _ _ _ _ _ _ _ _ _ _ _ _ _ _ _ _ _ _ _ _ _ _ _ _ _ _ _ _ _ _ _ _ _ _ _ _ _ _ _ _ _ _ _ _ _ _ _ _ _ _ _ _ _ _ _ _ _ _ _ _ _ _ _ _ _ _ _ _ _ _ _ _ _ _ _ _ _ _ _ _ _ _ _ _ _ _ _ _ _ _ _ _ _ _ _ _ _ _ _ _ _ _ _ _ _ _ _ _ _ _ _ _ _ _ _ _ _ _ _ _ _ _ _ _ _ _ _ _ _ _ _ _ _ _ _ _ _ _ _ _ _ _ _ _ _ _ _ _ _ _ _ _ _ _ _ _ _ _ _ _ _ _ _ _ _ _ _ _ _ _ _ _ _ _ _ _ _ _ _ _ _ _ _ _ _ _ _ _ _ _ _ _ _ _ _ _ _ _ _ _ _ _ _ _ _ _ _ _ _ _ _ _ _ _ _ _ _ _ _ _ _ _ _ _ _ _ _ _ _ _ _ _ _ _ _ _ _ _ _ _ _ _ _ _ _ _ _ _ _ _ _ _ _ _ _ _ _ _ _ _ _ _ _ _ _ _ _ _ _ _ _ _ _ _ _ _ _ _ _ _ _ _ _ _ _ _ _ _ _ _ ?_)
          rintro x447 x448 x449 x450 x451 x452 x453 x454 x455 x456 x457 x458 x459 bb W4 ho4 hq4
          have HO4 := hide ho4
          have HQ4 := hide (hq4.less (fun b hb => List.mem_cons_of_mem _ hb) (by' := [(b36, 3, #[.int .i64 z]), (b34, 3, #[.int .i64 (r : Nat)]), (b1, 25, #[.pointer (some ⟨B, 0, none⟩)])]))
          clear ho4 hq4
          cases bb with
          | true =>
            have HON : Hid (hon = false) := HO4.out rfl
            clear HO4
            go_wp2
            exact hR.out _ _ _ _ _ _ _ _ _ _ _ _ _ _ _ _ _ _ _ _ _ _ _ _ _ _ _ _ _ _ _ _ _ _ _ _ _ _ _ _ _ _ _ _ _ _ _ _ _ _ _ _ _ _ _ _ _ _ _ _ HON.out HQ4.out
          | false =>
            go_wp2
            go_roundw
            case rel => exact ⟨k + 1, by omega, by go_num, fun h => absurd h NST.out, HQ4.out⟩
            case measure => simp [intOf]; omega
    · have hkq : k = Q.length := by omega
      have NST : Hid (¬ stl) := fun h => by
        have h1 := HS0.out h
        have h2 := (hstl.out h).1.wid
        rw [col_len] at h2
        omega
      clear hj hbx he hd hst
      go_wp2
      exact hK.out _ _ _ _ _ _ _ _ _ _ _ _ _ _ _ _ _ _ _ _ _ _ _ _ _ _ _ _ _ _ _ _ _ _ _ _ _ _ _ _ _ _ _ _ _ _ _ _ _ _ _ _ _ _ _ _ _ _ _ _ _ NST.out HLr.out
end Go.Proofs.Ybulknju
