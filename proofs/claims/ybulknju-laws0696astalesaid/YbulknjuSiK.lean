import Derived.Test.YbulknjuSiJ
import Derived.Test.YbulknjuDrN
namespace Go.Proofs.Ybulknju
open Go.RowKit

set_option maxHeartbeats 8000000 in
set_option maxRecDepth 1000000 in
theorem blk17_22_any (C Lb : Nat) (O : List OpR) (Q : List Nat) (P : Nat → List Nat) (F : List (List Nat)) (vo vp vf vs vk vpc vps vsr vrd vsw : Value) (Cb gof gat : Nat) (vW vR vL : Value) (co po : Nat → Nat) (B G : Nat) (gs gp : Value) (gR : Nat) (vh : Value) (hon : Bool) (ρb : Rho) (wb w : World) (hO : O.length ≤ 2000) (hQ : Q.length ≤ 3) (hco : Hid (Col O.length (Q.map P) co po)) (hlk : Hid (Lks O (Q.map P) hon)) (hrd : Hid (RdOk O O.length F)) (hsta : Hid (Sta ρb wb C Lb O Q P F vo vp vf vs vk vpc vps vsr vrd vsw Cb gof gat vW vR vL co po)) (e1 d1 : Nat) (he1 : e1 ≤ 20000000) (hd1 : d1 ≤ 20000000) (b1 : Nat) (ao : Option Addr) (cao : Nat) (hvo : Hid (vo = .slice ao O.length cao)) (stl : Prop) (hstl : Hid (stl → Stl O (Q.map P) co po)) (hdq : Hid (Dq ρb wb C Lb O Q P F vo vp vf vs vk vpc vps vsr vrd vsw Cb gof gat vW vR vL co po B G gs gp gR vh e1 d1 [(b1, 25, #[.pointer (some ⟨B, 0, none⟩)])] w)) (K : Act → World → Prop) (R : Act → World → Prop) (u0 u2 u4 u5 u6 u7 u8 u9 u10 u11 u12 u13 u14 u15 u16 u17 u18 u19 u20 u21 u23 u24 u25 u26 u27 u28 u29 u30 u31 u32 u33 u34 u35 u36 u37 u38 u39 u40 u41 u42 u43 u44 u45 u46 u47 u48 u49 u50 u51 u52 u53 u54 u55 u56 u57 u58 u59 u60 u61 u62 u63 u64 u65 u66 u67 u68 u69 u70 u71 u72 u73 u74 u75 u76 u77 u78 u79 u80 u81 u82 u83 u84 u85 u86 u87 u88 u89 u90 u91 u92 u93 u94 u95 u96 u97 u98 u99 u100 u101 u102 u103 u104 u105 u106 u107 u108 u109 u110 u111 u112 u113 u114 u115 u116 u117 u118 u119 u120 u121 u122 u123 u124 u125 u126 u127 u128 u129 u130 u131 u132 u133 u134 u135 u136 u137 u138 u139 u140 u141 u142 u143 u144 u145 u146 u147 u148 u149 u150 u151 u152 u153 u154 u155 u156 u157 u158 u159 u160 u161 u162 u163 u164 u165 u166 u167 u168 u169 u170 u171 u172 u173 u174 u175 u176 u177 u178 u179 u180 u181 u182 u183 u184 u185 u186 u187 u188 u189 u190 u191 u192 u193 u194 u195 u196 u197 u198 u199 u200 u201 u202 u203 u204 u205 u206 u207 u208 u209 u210 u211 u212 u213 u214 u215 u216 u217 u218 u219 u220 u221 u222 u223 u224 u225 u226 u227 u228 u229 u230 u231 u232 u233 u234 u235 u236 u237 u238 u239 u240 u241 u242 u243 u244 u245 u246 u247 u248 u249 u250 u251 u252 u253 u254 u255 u256 u257 u258 u259 u260 u261 u262 u263 u264 u265 u266 u267 u268 u269 u270 u271 u272 u273 u274 u275 u276 u277 u278 u279 u280 u281 u282 u283 u284 u285 u286 u287 u288 u289 u290 u291 u292 u293 u294 u295 u296 u297 u298 u299 u300 u301 u302 u303 u304 u305 u306 u307 u308 u309 u310 u311 u312 u313 u314 u315 u316 u317 u318 u319 u320 u321 u322 u323 u324 u325 u326 u327 u328 u329 u330 u331 u332 u333 u334 u335 u336 u337 u338 u339 u340 u341 u342 u343 u344 u345 u346 u347 u348 u349 u350 u351 u352 u353 u354 u355 u356 u357 u358 u359 u360 u361 u362 u363 u364 u365 u366 u367 u368 u372 u373 u374 u375 u376 u377 u378 u379 u380 u381 u382 u383 u384 u385 u386 u387 u388 u389 u390 u391 u392 u393 u394 u395 u396 u397 u398 u399 u400 u401 u402 u403 u404 u405 u406 u407 u408 u409 u410 u411 u412 u413 u414 u415 u416 u417 u418 u419 u420 u421 u422 u423 u424 u425 u426 u427 u428 u429 u430 u431 u432 u433 u434 u435 u436 u437 u438 u439 u440 u441 u442 u443 u444 u445 u446 u447 u448 u449 u450 u451 u452 u453 u454 u455 u456 u457 u458 u459 u460 u461 u462 u463 u464 u465 : Value)
    (hK : Hid (∀ (x6 x34 x35 x36 x38 x39 x40 x371 x372 x373 x374 x375 x376 x377 x378 x379 x380 x381 x382 x383 x384 x385 x386 x387 x388 x389 x390 x391 x392 x393 x394 x395 x396 x397 x398 x399 x400 x401 x402 x403 x404 x405 x406 x407 x408 x409 x410 x411 x412 x413 x414 x415 x416 x417 x418 x419 x420 x421 x422 x423 x424 x425 x426 x427 x428 x429 x430 x431 x432 x433 x434 x435 x436 x437 x438 x439 x440 x441 x442 x443 x444 x445 x446 x447 x448 x449 x450 x451 x452 x453 x454 x455 x456 x457 x458 x459 x460 x461 x462 x463 x464 x465 : Value) (wx : World), ¬ stl → Dq ρb wb C Lb O Q P F vo vp vf vs vk vpc vps vsr vrd vsw Cb gof gat vW vR vL co po B G gs gp gR vh e1 d1 [(b1, 25, #[.pointer (some ⟨B, 0, none⟩)])] wx → K ⟨(u0 :: .pointer (some ⟨Cb, 0, none⟩) :: u2 :: .pointer (some ⟨b1, 0, none⟩) :: u4 :: u5 :: x6 :: u7 :: u8 :: u9 :: u10 :: u11 :: u12 :: u13 :: u14 :: u15 :: u16 :: u17 :: u18 :: u19 :: u20 :: u21 :: .int .i64 O.length :: u23 :: u24 :: u25 :: u26 :: u27 :: u28 :: u29 :: u30 :: u31 :: u32 :: u33 :: x34 :: x35 :: x36 :: u37 :: x38 :: x39 :: x40 :: u41 :: u42 :: u43 :: u44 :: u45 :: u46 :: u47 :: u48 :: u49 :: u50 :: u51 :: u52 :: u53 :: u54 :: u55 :: u56 :: u57 :: u58 :: u59 :: u60 :: u61 :: u62 :: u63 :: u64 :: u65 :: u66 :: u67 :: u68 :: u69 :: u70 :: u71 :: u72 :: u73 :: u74 :: u75 :: u76 :: u77 :: u78 :: u79 :: u80 :: u81 :: u82 :: u83 :: u84 :: u85 :: u86 :: u87 :: u88 :: u89 :: u90 :: u91 :: u92 :: u93 :: u94 :: u95 :: u96 :: u97 :: u98 :: u99 :: u100 :: u101 :: u102 :: u103 :: u104 :: u105 :: u106 :: u107 :: u108 :: u109 :: u110 :: u111 :: u112 :: u113 :: u114 :: u115 :: u116 :: u117 :: u118 :: u119 :: u120 :: u121 :: u122 :: u123 :: u124 :: u125 :: u126 :: u127 :: u128 :: u129 :: u130 :: u131 :: u132 :: u133 :: u134 :: u135 :: u136 :: u137 :: u138 :: u139 :: u140 :: u141 :: u142 :: u143 :: u144 :: u145 :: u146 :: u147 :: u148 :: u149 :: u150 :: u151 :: u152 :: u153 :: u154 :: u155 :: u156 :: u157 :: u158 :: u159 :: u160 :: u161 :: u162 :: u163 :: u164 :: u165 :: u166 :: u167 :: u168 :: u169 :: u170 :: u171 :: u172 :: u173 :: u174 :: u175 :: u176 :: u177 :: u178 :: u179 :: u180 :: u181 :: u182 :: u183 :: u184 :: u185 :: u186 :: u187 :: u188 :: u189 :: u190 :: u191 :: u192 :: u193 :: u194 :: u195 :: u196 :: u197 :: u198 :: u199 :: u200 :: u201 :: u202 :: u203 :: u204 :: u205 :: u206 :: u207 :: u208 :: u209 :: u210 :: u211 :: u212 :: u213 :: u214 :: u215 :: u216 :: u217 :: u218 :: u219 :: u220 :: u221 :: u222 :: u223 :: u224 :: u225 :: u226 :: u227 :: u228 :: u229 :: u230 :: u231 :: u232 :: u233 :: u234 :: u235 :: u236 :: u237 :: u238 :: u239 :: u240 :: u241 :: u242 :: u243 :: u244 :: u245 :: u246 :: u247 :: u248 :: u249 :: u250 :: u251 :: u252 :: u253 :: u254 :: u255 :: u256 :: u257 :: u258 :: u259 :: u260 :: u261 :: u262 :: u263 :: u264 :: u265 :: u266 :: u267 :: u268 :: u269 :: u270 :: u271 :: u272 :: u273 :: u274 :: u275 :: u276 :: u277 :: u278 :: u279 :: u280 :: u281 :: u282 :: u283 :: u284 :: u285 :: u286 :: u287 :: u288 :: u289 :: u290 :: u291 :: u292 :: u293 :: u294 :: u295 :: u296 :: u297 :: u298 :: u299 :: u300 :: u301 :: u302 :: u303 :: u304 :: u305 :: u306 :: u307 :: u308 :: u309 :: u310 :: u311 :: u312 :: u313 :: u314 :: u315 :: u316 :: u317 :: u318 :: u319 :: u320 :: u321 :: u322 :: u323 :: u324 :: u325 :: u326 :: u327 :: u328 :: u329 :: u330 :: u331 :: u332 :: u333 :: u334 :: u335 :: u336 :: u337 :: u338 :: u339 :: u340 :: u341 :: u342 :: u343 :: u344 :: u345 :: u346 :: u347 :: u348 :: u349 :: u350 :: u351 :: u352 :: u353 :: u354 :: u355 :: u356 :: u357 :: u358 :: u359 :: u360 :: u361 :: u362 :: u363 :: u364 :: u365 :: u366 :: u367 :: u368 :: .slice ao O.length cao :: .int .i64 O.length :: x371 :: x372 :: x373 :: x374 :: x375 :: x376 :: x377 :: x378 :: x379 :: x380 :: x381 :: x382 :: x383 :: x384 :: x385 :: x386 :: x387 :: x388 :: x389 :: x390 :: x391 :: x392 :: x393 :: x394 :: x395 :: x396 :: x397 :: x398 :: x399 :: x400 :: x401 :: x402 :: x403 :: x404 :: x405 :: x406 :: x407 :: x408 :: x409 :: x410 :: x411 :: x412 :: x413 :: x414 :: x415 :: x416 :: x417 :: x418 :: x419 :: x420 :: x421 :: x422 :: x423 :: x424 :: x425 :: x426 :: x427 :: x428 :: x429 :: x430 :: x431 :: x432 :: x433 :: x434 :: x435 :: x436 :: x437 :: x438 :: x439 :: x440 :: x441 :: x442 :: x443 :: x444 :: x445 :: x446 :: x447 :: x448 :: x449 :: x450 :: x451 :: x452 :: x453 :: x454 :: x455 :: x456 :: x457 :: x458 :: x459 :: x460 :: x461 :: x462 :: x463 :: x464 :: x465 :: []).toArray, []⟩ wx)) (hR : Hid (∀ (x34 x35 x36 x38 x39 x40 x371 x372 x373 x374 x375 x376 x377 x378 x379 x380 x381 x382 x383 x384 x385 x386 x387 x388 x389 x390 x391 x392 x393 x394 x395 x396 x397 x398 x399 x400 x401 x402 x403 x404 x405 x406 x407 x408 x409 x410 x411 x412 x413 x414 x415 x416 x417 x418 x419 x420 x421 x422 x423 x424 x425 x426 x427 x428 x429 x430 x431 x432 x433 x434 x435 x436 x437 x438 x439 x440 x441 x442 x443 x444 x445 x446 x447 x448 x449 x450 x451 x452 x453 x454 x455 x456 x457 x458 x459 x460 x461 x462 x463 x464 x465 : Value) (wx : World), hon = false → Dq ρb wb C Lb O Q P F vo vp vf vs vk vpc vps vsr vrd vsw Cb gof gat vW vR vL co po B G gs gp gR vh e1 d1 [(b1, 25, #[.pointer (some ⟨B, 0, none⟩)])] wx → R ⟨(u0 :: .pointer (some ⟨Cb, 0, none⟩) :: u2 :: .pointer (some ⟨b1, 0, none⟩) :: u4 :: u5 :: .bool false :: u7 :: u8 :: u9 :: u10 :: u11 :: u12 :: u13 :: u14 :: u15 :: u16 :: u17 :: u18 :: u19 :: u20 :: u21 :: .int .i64 O.length :: u23 :: u24 :: u25 :: u26 :: u27 :: u28 :: u29 :: u30 :: u31 :: u32 :: u33 :: x34 :: x35 :: x36 :: u37 :: x38 :: x39 :: x40 :: u41 :: u42 :: u43 :: u44 :: u45 :: u46 :: u47 :: u48 :: u49 :: u50 :: u51 :: u52 :: u53 :: u54 :: u55 :: u56 :: u57 :: u58 :: u59 :: u60 :: u61 :: u62 :: u63 :: u64 :: u65 :: u66 :: u67 :: u68 :: u69 :: u70 :: u71 :: u72 :: u73 :: u74 :: u75 :: u76 :: u77 :: u78 :: u79 :: u80 :: u81 :: u82 :: u83 :: u84 :: u85 :: u86 :: u87 :: u88 :: u89 :: u90 :: u91 :: u92 :: u93 :: u94 :: u95 :: u96 :: u97 :: u98 :: u99 :: u100 :: u101 :: u102 :: u103 :: u104 :: u105 :: u106 :: u107 :: u108 :: u109 :: u110 :: u111 :: u112 :: u113 :: u114 :: u115 :: u116 :: u117 :: u118 :: u119 :: u120 :: u121 :: u122 :: u123 :: u124 :: u125 :: u126 :: u127 :: u128 :: u129 :: u130 :: u131 :: u132 :: u133 :: u134 :: u135 :: u136 :: u137 :: u138 :: u139 :: u140 :: u141 :: u142 :: u143 :: u144 :: u145 :: u146 :: u147 :: u148 :: u149 :: u150 :: u151 :: u152 :: u153 :: u154 :: u155 :: u156 :: u157 :: u158 :: u159 :: u160 :: u161 :: u162 :: u163 :: u164 :: u165 :: u166 :: u167 :: u168 :: u169 :: u170 :: u171 :: u172 :: u173 :: u174 :: u175 :: u176 :: u177 :: u178 :: u179 :: u180 :: u181 :: u182 :: u183 :: u184 :: u185 :: u186 :: u187 :: u188 :: u189 :: u190 :: u191 :: u192 :: u193 :: u194 :: u195 :: u196 :: u197 :: u198 :: u199 :: u200 :: u201 :: u202 :: u203 :: u204 :: u205 :: u206 :: u207 :: u208 :: u209 :: u210 :: u211 :: u212 :: u213 :: u214 :: u215 :: u216 :: u217 :: u218 :: u219 :: u220 :: u221 :: u222 :: u223 :: u224 :: u225 :: u226 :: u227 :: u228 :: u229 :: u230 :: u231 :: u232 :: u233 :: u234 :: u235 :: u236 :: u237 :: u238 :: u239 :: u240 :: u241 :: u242 :: u243 :: u244 :: u245 :: u246 :: u247 :: u248 :: u249 :: u250 :: u251 :: u252 :: u253 :: u254 :: u255 :: u256 :: u257 :: u258 :: u259 :: u260 :: u261 :: u262 :: u263 :: u264 :: u265 :: u266 :: u267 :: u268 :: u269 :: u270 :: u271 :: u272 :: u273 :: u274 :: u275 :: u276 :: u277 :: u278 :: u279 :: u280 :: u281 :: u282 :: u283 :: u284 :: u285 :: u286 :: u287 :: u288 :: u289 :: u290 :: u291 :: u292 :: u293 :: u294 :: u295 :: u296 :: u297 :: u298 :: u299 :: u300 :: u301 :: u302 :: u303 :: u304 :: u305 :: u306 :: u307 :: u308 :: u309 :: u310 :: u311 :: u312 :: u313 :: u314 :: u315 :: u316 :: u317 :: u318 :: u319 :: u320 :: u321 :: u322 :: u323 :: u324 :: u325 :: u326 :: u327 :: u328 :: u329 :: u330 :: u331 :: u332 :: u333 :: u334 :: u335 :: u336 :: u337 :: u338 :: u339 :: u340 :: u341 :: u342 :: u343 :: u344 :: u345 :: u346 :: u347 :: u348 :: u349 :: u350 :: u351 :: u352 :: u353 :: u354 :: u355 :: u356 :: u357 :: u358 :: u359 :: u360 :: u361 :: u362 :: u363 :: u364 :: u365 :: u366 :: u367 :: u368 :: .slice ao O.length cao :: .int .i64 O.length :: x371 :: x372 :: x373 :: x374 :: x375 :: x376 :: x377 :: x378 :: x379 :: x380 :: x381 :: x382 :: x383 :: x384 :: x385 :: x386 :: x387 :: x388 :: x389 :: x390 :: x391 :: x392 :: x393 :: x394 :: x395 :: x396 :: x397 :: x398 :: x399 :: x400 :: x401 :: x402 :: x403 :: x404 :: x405 :: x406 :: x407 :: x408 :: x409 :: x410 :: x411 :: x412 :: x413 :: x414 :: x415 :: x416 :: x417 :: x418 :: x419 :: x420 :: x421 :: x422 :: x423 :: x424 :: x425 :: x426 :: x427 :: x428 :: x429 :: x430 :: x431 :: x432 :: x433 :: x434 :: x435 :: x436 :: x437 :: x438 :: x439 :: x440 :: x441 :: x442 :: x443 :: x444 :: x445 :: x446 :: x447 :: x448 :: x449 :: x450 :: x451 :: x452 :: x453 :: x454 :: x455 :: x456 :: x457 :: x458 :: x459 :: x460 :: x461 :: x462 :: x463 :: x464 :: x465 :: []).toArray, []⟩ wx)) :
    Code.wp Yba.prog (blkOf Yba.f17 22) (Exit.then K (onRet R)) ⟨(u0 :: .pointer (some ⟨Cb, 0, none⟩) :: u2 :: .pointer (some ⟨b1, 0, none⟩) :: u4 :: u5 :: u6 :: u7 :: u8 :: u9 :: u10 :: u11 :: u12 :: u13 :: u14 :: u15 :: u16 :: u17 :: u18 :: u19 :: u20 :: u21 :: .int .i64 O.length :: u23 :: u24 :: u25 :: u26 :: u27 :: u28 :: u29 :: u30 :: u31 :: u32 :: u33 :: u34 :: u35 :: u36 :: u37 :: u38 :: u39 :: u40 :: u41 :: u42 :: u43 :: u44 :: u45 :: u46 :: u47 :: u48 :: u49 :: u50 :: u51 :: u52 :: u53 :: u54 :: u55 :: u56 :: u57 :: u58 :: u59 :: u60 :: u61 :: u62 :: u63 :: u64 :: u65 :: u66 :: u67 :: u68 :: u69 :: u70 :: u71 :: u72 :: u73 :: u74 :: u75 :: u76 :: u77 :: u78 :: u79 :: u80 :: u81 :: u82 :: u83 :: u84 :: u85 :: u86 :: u87 :: u88 :: u89 :: u90 :: u91 :: u92 :: u93 :: u94 :: u95 :: u96 :: u97 :: u98 :: u99 :: u100 :: u101 :: u102 :: u103 :: u104 :: u105 :: u106 :: u107 :: u108 :: u109 :: u110 :: u111 :: u112 :: u113 :: u114 :: u115 :: u116 :: u117 :: u118 :: u119 :: u120 :: u121 :: u122 :: u123 :: u124 :: u125 :: u126 :: u127 :: u128 :: u129 :: u130 :: u131 :: u132 :: u133 :: u134 :: u135 :: u136 :: u137 :: u138 :: u139 :: u140 :: u141 :: u142 :: u143 :: u144 :: u145 :: u146 :: u147 :: u148 :: u149 :: u150 :: u151 :: u152 :: u153 :: u154 :: u155 :: u156 :: u157 :: u158 :: u159 :: u160 :: u161 :: u162 :: u163 :: u164 :: u165 :: u166 :: u167 :: u168 :: u169 :: u170 :: u171 :: u172 :: u173 :: u174 :: u175 :: u176 :: u177 :: u178 :: u179 :: u180 :: u181 :: u182 :: u183 :: u184 :: u185 :: u186 :: u187 :: u188 :: u189 :: u190 :: u191 :: u192 :: u193 :: u194 :: u195 :: u196 :: u197 :: u198 :: u199 :: u200 :: u201 :: u202 :: u203 :: u204 :: u205 :: u206 :: u207 :: u208 :: u209 :: u210 :: u211 :: u212 :: u213 :: u214 :: u215 :: u216 :: u217 :: u218 :: u219 :: u220 :: u221 :: u222 :: u223 :: u224 :: u225 :: u226 :: u227 :: u228 :: u229 :: u230 :: u231 :: u232 :: u233 :: u234 :: u235 :: u236 :: u237 :: u238 :: u239 :: u240 :: u241 :: u242 :: u243 :: u244 :: u245 :: u246 :: u247 :: u248 :: u249 :: u250 :: u251 :: u252 :: u253 :: u254 :: u255 :: u256 :: u257 :: u258 :: u259 :: u260 :: u261 :: u262 :: u263 :: u264 :: u265 :: u266 :: u267 :: u268 :: u269 :: u270 :: u271 :: u272 :: u273 :: u274 :: u275 :: u276 :: u277 :: u278 :: u279 :: u280 :: u281 :: u282 :: u283 :: u284 :: u285 :: u286 :: u287 :: u288 :: u289 :: u290 :: u291 :: u292 :: u293 :: u294 :: u295 :: u296 :: u297 :: u298 :: u299 :: u300 :: u301 :: u302 :: u303 :: u304 :: u305 :: u306 :: u307 :: u308 :: u309 :: u310 :: u311 :: u312 :: u313 :: u314 :: u315 :: u316 :: u317 :: u318 :: u319 :: u320 :: u321 :: u322 :: u323 :: u324 :: u325 :: u326 :: u327 :: u328 :: u329 :: u330 :: u331 :: u332 :: u333 :: u334 :: u335 :: u336 :: u337 :: u338 :: u339 :: u340 :: u341 :: u342 :: u343 :: u344 :: u345 :: u346 :: u347 :: u348 :: u349 :: u350 :: u351 :: u352 :: u353 :: u354 :: u355 :: u356 :: u357 :: u358 :: u359 :: u360 :: u361 :: u362 :: u363 :: u364 :: u365 :: u366 :: u367 :: u368 :: .slice ao O.length cao :: .int .i64 O.length :: .int .i64 0 :: u372 :: u373 :: u374 :: u375 :: u376 :: u377 :: u378 :: u379 :: u380 :: u381 :: u382 :: u383 :: u384 :: u385 :: u386 :: u387 :: u388 :: u389 :: u390 :: u391 :: u392 :: u393 :: u394 :: u395 :: u396 :: u397 :: u398 :: u399 :: u400 :: u401 :: u402 :: u403 :: u404 :: u405 :: u406 :: u407 :: u408 :: u409 :: u410 :: u411 :: u412 :: u413 :: u414 :: u415 :: u416 :: u417 :: u418 :: u419 :: u420 :: u421 :: u422 :: u423 :: u424 :: u425 :: u426 :: u427 :: u428 :: u429 :: u430 :: u431 :: u432 :: u433 :: u434 :: u435 :: u436 :: u437 :: u438 :: u439 :: u440 :: u441 :: u442 :: u443 :: u444 :: u445 :: u446 :: u447 :: u448 :: u449 :: u450 :: u451 :: u452 :: u453 :: u454 :: u455 :: u456 :: u457 :: u458 :: u459 :: u460 :: u461 :: u462 :: u463 :: u464 :: u465 :: []).toArray, []⟩ w := by
  conv => arg 2; whnf
  go_wp2
  go_loopw [6, 34, 35, 36, 38, 39, 40, 371] (fun _ _ _ _ _ _ _ i wr => ∃ k : Nat, k ≤ O.length ∧ i = .int .i64 k ∧ (stl → k < O.length) ∧ Dq ρb wb C Lb O Q P F vo vp vf vs vk vpc vps vsr vrd vsw Cb gof gat vW vR vL co po B G gs gp gR vh e1 d1 [(b1, 25, #[.pointer (some ⟨B, 0, none⟩)])] wr) (fun _ _ _ _ _ _ _ i _ => O.length - (intOf i).toNat)
  case atStart => exact ⟨0, by omega, rfl, fun h => (hstl.out h).pos, hdq.out⟩
  case round =>
    clear hdq
    obtain ⟨k, hk, rfl, hs0, hlq⟩ := hrel
    have HS0 := hide hs0
    have HLr := hide hlq
    clear hs0
    by_cases hlt : k < O.length
    · obtain ⟨ρr, vdr, Er, fr, Dr, hj, hbx, he, hd, hst⟩ := hlq
      have hor : Row ρr wr .ops 74 6 (.slice ao O.length cao) O.length (flatO O) := by rw [← hvo.out]; exact hj.sta.base.chk.ops
      obtain ⟨gO, cO, hvO, _, _, _⟩ := hor.has (by omega)
      cases hvO
      obtain ⟨x, hx⟩ : ∃ x, x = (opAt O k) := ⟨_, rfl⟩
      have hop := hor.op rfl hlt
      rw [← hx] at hop
      obtain ⟨p0, p1, p2, p3, p4, p5⟩ := hop
      have hidx := fun wx => idx47 (b := gO) (c := cao) hlt wx
      have HX := hide hx
      have HQ1 := hide ((HLr.out.box 3 #[.int .i64 (k : Nat)]).box 74 #[.int .i64 0, .string (kd x.rd), .string (kn x.kx), .string ⟨#[]⟩, .string ⟨#[]⟩, .int .i64 0])
      have hsz : (wr.alloc (.cells #[.int .i64 (k : Nat)] 3)).heap.size = wr.heap.size + 1 := by simp
      rw [hsz] at HQ1
      clear hj hbx he hd hst hor hx hsz HLr
      go_upto_region 72 with fail
      obtain ⟨b34, eb34⟩ : ∃ b34, b34 = wr.heap.size := ⟨_, rfl⟩
      obtain ⟨b35, eb35⟩ : ∃ b35, b35 = wr.heap.size + 1 := ⟨_, rfl⟩
      obtain ⟨W1, eW1⟩ : ∃ W1, W1 = (wr.alloc (.cells #[.int .i64 (k : Nat)] 3)).alloc (.cells #[.int .i64 0, .string (kd x.rd), .string (kn x.kx), .string ⟨#[]⟩, .string ⟨#[]⟩, .int .i64 0] 74) := ⟨_, rfl⟩
      rw [← eb35, ← eb34, ← eW1] at HQ1
      rw [← eb35, ← eb34, ← eW1]
      clear eb35 eb34 eW1 p0 p1 p2 p3 p4 p5 hidx
      obtain ⟨ρ1, vd1, E1, f1, D1, hj1, hbx1, _, _, hst1⟩ := HQ1.out
      have hb35 := hbx1 _ List.mem_cons_self
      have hb34 := hbx1 _ (List.mem_cons_of_mem _ List.mem_cons_self)
      have hb1 := hbx1 _ (List.mem_cons_of_mem _ (List.mem_cons_of_mem _ List.mem_cons_self))
      have b351 := hb35.cell 1 rfl
      cases hrdx : x.rd with
      | false =>
        rw [hrdx] at b351
        have hkd : kd false = ⟨#[119, 114, 105, 116, 101]⟩ := rfl
        rw [hkd] at b351
        have HS1 : Hid (stl → k + 1 < O.length) := fun h => by
          have h1 := (hstl.out h).rd
          rcases Nat.lt_or_ge (k + 1) O.length with h2 | h2
          · exact h2
          · have h3 : O.length - 1 = k := by omega
            rw [h3, ← HX.out, hrdx] at h1; cases h1
        clear hj1 hbx1 hst1 hb35 hb34 hb1 hrdx hkd
        go_wp2
        go_roundw
        case rel => exact ⟨k + 1, by omega, by go_num, HS1.out, HQ1.out.less (fun b hb => List.mem_cons_of_mem _ (List.mem_cons_of_mem _ (hb)))⟩
        case measure => simp [intOf]; omega
      | true =>
        rw [hrdx] at b351
        have hkd : kd true = ⟨#[114, 101, 97, 100]⟩ := rfl
        rw [hkd] at b351
        have HRD : Hid ((opAt O k).rd = true) := by show _ = _; rw [← HX.out]; exact hrdx
        obtain ⟨gS, cS, hvS, _, _, _⟩ := Row.has hj1.sta.base.src (by omega)
        have l5 : W1.cell? ⟨Lb, 5, none⟩ = some (.slice (some ⟨gS, 0, none⟩) O.length cS) := by rw [← hvS]; exact hj1.sta.base.st.cell 5 rfl
        have sc : W1.cell? ⟨gS, k, none⟩ = some (.int .i64 (sI O k)) := by have := hj1.sta.base.src; rw [hvS] at this; exact FRow.cell this hlt
        have c0 := hj1.dyn.clo.cell 0 rfl
        have b100 := hb1.cell 0 rfl
        have b340 := hb34.cell 0 rfl
        clear hj1 hbx1 hst1 hb35 hb34 hb1 hrdx hkd hvS
        obtain ⟨z, ez⟩ : ∃ z, z = sI O k := ⟨_, rfl⟩
        rw [← ez] at sc
        have HZ := hide ez
        clear ez
        have HQ2 := hide ((HQ1.out.box 3 #[.int .i64 z]).drew 1)
        go_upto_region 73 with fail
        refine wp_then (reg17_73_any b1 B Lb gS O.length cS b34 k z W1 hlt b100 c0 l5 b340 sc _ _ _ _ _ _ _ _ _ _ _ _ _ _ _ _ _ _ _ _ _ _ _ _ _ _ _ _ _ _ _ _ _ _ _ _ _ _ _ _ _ _ _ _ _ _ _ _ _ _ _ _ _ _ _ _ _ _ _ _ _ _ _ _ _ _ _ _ _ _ _ _ _ _ _ _ _ _ _ _ _ _ _ _ _ _ _ _ _ _ _ _ _ _ _ _ _ _ _ _ _ _ _ _ _ _ _ _ _ _ _ _ _ _ _ _ _ _ _ _ _ _ _ _ _ _ _ _ _ _ _ _ _ _ _ _ _ _ _ _ _ _ _ _ _ _ _ _ _ _ _ _ _ _ _ _ _ _ _ _ _ _ _ _ _ _ _ _ _ _ _ _ _ _ _ _ _ _ _ _ _ _ _ _ _ _ _ _ _ _ _ _ _ _ _ _ _ _ _ _ _ _ _ _ _ _ _ _ _ _ _ _ _ _ _ _ _ _ _ _ _ _ _ _ _ _ _ _ _ _ _ _ _ _ _ _ _ _ _ _ _ _ _ _ _ _ _ _ _ _ _ _ _ _ _ _ _ _ _ _ _ _ _ _ _ _ _ _ _ _ _ _ _ _ _ _ _ _ _ _ _ _ _ _ _ _ _ _ _ _ _ _ _ _ _ _ _ _ _ _ _ _ _ _ _ _ _ _ _ _ _ _ _ _ _ _ _ _ _ _ _ _ _ _ _ _ _ _ _ _ _ _ _ _ _ _ _ _ _ _ _ _ _ _ _ _ _ _ _ _ _ _ _ _ _ _ _ _ _ _ _ _ _ _ _ _ _ _ _ _ _ _ _ _ _ _ _ _ _ _ _ _ _ _ _ _ _ _ _ _ _ _ _ _ _ _ _ _ _ _ _ _ _ _ _ _ _ _ _ _ _ _ _ _ _ _ _ _ _ _ _ _ _ _ _ _ _ _ _ _ _ _ _ _ _ _ _ _ _ _ _ _ _ _ _ _ _ _ _ _ _ _ _ _ _ _ _ _ _ _ _ _ _ _ _ ?_)
        rintro x379 x380 x381 x382 x383 x384 x385 x386 x387 x388
        obtain ⟨b36, eb36⟩ : ∃ b36, b36 = W1.heap.size := ⟨_, rfl⟩
        obtain ⟨W2, eW2⟩ : ∃ W2, W2 = (W1.alloc (.cells #[.int .i64 z] 3)).drew := ⟨_, rfl⟩
        have HQ3 : Hid (Dq ρb wb C Lb O Q P F vo vp vf vs vk vpc vps vsr vrd vsw Cb gof gat vW vR vL co po B G gs gp gR vh e1 d1 [(b36, 3, #[.int .i64 z]), (b34, 3, #[.int .i64 (k : Nat)]), (b1, 25, #[.pointer (some ⟨B, 0, none⟩)])] W2) := by
          rw [eb36, eW2]
          refine HQ2.out.less fun b hb => ?_
          simp only [List.mem_cons, List.not_mem_nil, or_false] at hb ⊢
          rcases hb with h | h | h
          · exact .inl h
          · exact .inr (.inr (.inl h))
          · exact .inr (.inr (.inr h))
        rw [← eb36, ← eW2]
        clear eb36 eW2 HQ1 HQ2 l5 sc c0 b100 b340 b351
        obtain ⟨ρ3, vd3, E3, f3, D3, hj3, hbx3, _, _, hst3⟩ := HQ3.out
        have hb34 := hbx3 _ (List.mem_cons_of_mem _ List.mem_cons_self)
        have hb1 := hbx3 _ (List.mem_cons_of_mem _ (List.mem_cons_of_mem _ List.mem_cons_self))
        have b100 := hb1.cell 0 rfl
        have b340 := hb34.cell 0 rfl
        have c0 := hj3.dyn.clo.cell 0 rfl
        obtain ⟨gk, ck, hvk, _, _, _⟩ := Row.has hj3.sta.base.key (by omega)
        have l2 : W2.cell? ⟨Lb, 2, none⟩ = some (.slice (some ⟨gk, 0, none⟩) O.length ck) := by rw [← hvk]; exact hj3.sta.base.st.cell 2 rfl
        have kc : W2.cell? ⟨gk, k, none⟩ = some (.int .i64 ((ky O k : Nat) : Int)) := by have := hj3.sta.base.key; rw [hvk] at this; exact FRow.cell this hlt
        have hkk := hlk.out.key k hlt
        obtain ⟨kr, ekr⟩ : ∃ kr, kr = ky O k := ⟨_, rfl⟩
        rw [← ekr] at kc hkk
        have EKR := hide ekr
        obtain ⟨vsR, hRl, hRr, hRk⟩ := hsta.out.wr.ex
        have hRr3 := hRr.keep hst3 (by simp [RK, RV, RG])
        obtain ⟨gV, cV, hvV, _, _, _⟩ := hRr3.has (by omega)
        have k3 : W2.cell? ⟨Cb, 3, none⟩ = some (.slice (some ⟨gV, 0, none⟩) (kk O) cV) := by rw [← hvV]; exact hj3.sta.cst.cell 3 rfl
        rw [hvV] at hRr3
        have rr0 := hRr3.cell1 hkk hRl
        obtain ⟨us, hul, hur, hun⟩ := (hRk kr hkk).ex
        have hrl : (wrL O (Q.map P) kr).length = Q.length := by simp [wrL]
        rw [hrl] at hul hur hun
        obtain ⟨aK, cK, hvK, _, _⟩ := hur.form
        rw [hvK] at rr0 hur
        have HUS := hide hul
        have HNK := hide hur
        have HNU := hide hun
        have ix1 := fun wx => idx38 (b := gk) (c := ck) hlt wx
        have ix2 := fun wx => idx101 (b := gV) (c := cV) hkk wx
        clear hj3 hbx3 hst3 hb34 hb1 hvk ekr hRl hRr hRk hRr3 hvV hrl hul hur hun hvK
        go_upto_region 74 with fail
        go_quiet (fail)
        go_upto_block 24 with fail
        refine wp_thenRet (blk17_24_any C Lb O Q P F vo vp vf vs vk vpc vps vsr vrd vsw Cb gof gat vW vR vL co po B G gs gp gR vh hon ρb wb (W2.drewN nq) hO hQ hco hlk e1 d1 he1 hd1 b1 b34 b36 k z us aK cK kr EKR hlt HRD HZ HUS HNK HNU (stl ∧ k = O.length - 1) (fun h => ⟨hstl.out h.1, h.2⟩) (HQ3.out.drew nq) _ _ _ _ _ _ _ _ _ _ _ _ _ _ _ _ _ _ _ _ _ _ _ _ _ _ _ _ _ _ _ _ _ _ _ _ _ _ _ _ _ _ _ _ _ _ _ _ _ _ _ _ _ _ _ _ _ _ _ _ _ _ _ _ _ _ _ _ _ _ _ _ _ _ _ _ _ _ _ _ _ _ _ _ _ _ _ _ _ _ _ _ _ _ _ _ _ _ _ _ _ _ _ _ _ _ _ _ _ _ _ _ _ _ _ _ _ _ _ _ _ _ _ _ _ _ _ _ _ _ _ _ _ _ _ _ _ _ _ _ _ _ _ _ _ _ _ _ _ _ _ _ _ _ _ _ _ _ _ _ _ _ _ _ _ _ _ _ _ _ _ _ _ _ _ _ _ _ _ _ _ _ _ _ _ _ _ _ _ _ _ _ _ _ _ _ _ _ _ _ _ _ _ _ _ _ _ _ _ _ _ _ _ _ _ _ _ _ _ _ _ _ _ _ _ _ _ _ _ _ _ _ _ _ _ _ _ _ _ _ _ _ _ _ _ _ _ _ _ _ _ _ _ _ _ _ _ _ _ _ _ _ _ _ _ _ _ _ _ _ _ _ _ _ _ _ _ _ _ _ _ _ _ _ _ _ _ _ _ _ _ _ _ _ _ _ _ _ _ _ _ _ _ _ _ _ _ _ _ _ _ _ _ _ _ _ _ _ _ _ _ _ _ _ _ _ _ _ _ _ _ _ _ _ _ _ _ _ _ _ _ _ _ _ _ _ _ _ _ _ _ _ _ _ _ _ _ _ _ _ _ _ _ _ _ _ _ _ _ _ _ _ _ _ _ _ _ _ _ _ _ _ _ _ _ _ _ _ _ _ _ _ _ _ _ _ _ _ _ _ _ _ _ _ _ _ _ _ _ _ _ _ _ _ _ _ _ _ _ _ _ _ _ _ _ _ _ _ _ _ _ _ _ _ _ _ _ _ _ _ _ _ _ _ _ _ _ _ _ _ _ _ _ _ _ _ _ _ _ _ _ ?_ ?_)
        rotate_left
        · rintro x38 x39 x40 x406 x407 x408 x409 x410 x411 x412 x413 x414 x415 x416 x417 x418 x419 x420 x421 x422 x423 x424 x425 x426 x427 x428 x429 x430 x431 x432 x433 x434 x435 x436 x437 x438 x439 x440 x441 x442 x443 x444 x445 x446 x447 x448 x449 x450 x451 x452 x453 x454 x455 x456 x457 x458 x459 x460 x461 wx h1 h2
          have HX1 := hide (And.intro h1 (h2.less (by' := [(b1, 25, #[.pointer (some ⟨B, 0, none⟩)])]) (fun b hb => List.mem_cons_of_mem _ (List.mem_cons_of_mem _ (hb)))))
          clear h1 h2
          exact hR.out _ _ _ _ _ _ _ _ _ _ _ _ _ _ _ _ _ _ _ _ _ _ _ _ _ _ _ _ _ _ _ _ _ _ _ _ _ _ _ _ _ _ _ _ _ _ _ _ _ _ _ _ _ _ _ _ _ _ _ _ _ _ _ _ _ _ _ _ _ _ _ _ _ _ _ _ _ _ _ _ _ _ _ _ _ _ _ _ _ _ _ _ _ _ _ _ _ _ _ _ _ _ HX1.out.1 HX1.out.2
        rintro x6 x38 x39 x40 x406 x407 x408 x409 x410 x411 x412 x413 x414 x415 x416 x417 x418 x419 x420 x421 x422 x423 x424 x425 x426 x427 x428 x429 x430 x431 x432 x433 x434 x435 x436 x437 x438 x439 x440 x441 x442 x443 x444 x445 x446 x447 x448 x449 x450 x451 x452 x453 x454 x455 x456 x457 x458 x459 x460 x461 W4 ns4 hq4
        have HNS := hide ns4
        have HQ4 := hide (hq4.less (by' := [(b1, 25, #[.pointer (some ⟨B, 0, none⟩)])]) (fun b hb => List.mem_cons_of_mem _ (List.mem_cons_of_mem _ (hb))))
        clear ns4 hq4 HQ3 b100 b340 c0 l2 kc k3 rr0 ix1 ix2
        have HS1 : Hid (stl → k + 1 < O.length) := fun h => by
          rcases Nat.lt_or_ge (k + 1) O.length with h2 | h2
          · exact h2
          · exact absurd ⟨h, by omega⟩ HNS.out
        obtain ⟨ρ4, vd4, E4, f4, D4, hj4, hbx4, he4, hd4, hst4⟩ := HQ4.out
        have b100 := (hbx4 _ List.mem_cons_self).cell 0 rfl
        have DA := hide (drain_any C Lb O Q P F vo vp vf vs vk vpc vps vsr vrd vsw Cb gof gat vW vR vL co po B G gs gp gR vh vd4 E4 f4 D4 hon ρ4 W4 hO hQ hco.out hlk.out hrd.out hj4 (by omega) (by omega))
        have HE4 := hide (And.intro he4 hd4)
        have HB4 := hide hbx4
        have HT4 := hide hst4
        clear hj4 hbx4 he4 hd4 hst4 HNS HQ4
        go_wp2_with (go_at_call 28; refine DA.out.mono ?_; rintro e w5 ⟨bb, rfl, hb5, hl5⟩; have HB5 := hide hb5; have HL5 := hide hl5; clear hb5 hl5; cases bb)
        · have HON : hon = false := by
            cases hon with
            | false => rfl
            | true => exact absurd (HB5.out rfl) (by decide)
          exact hR.out _ _ _ _ _ _ _ _ _ _ _ _ _ _ _ _ _ _ _ _ _ _ _ _ _ _ _ _ _ _ _ _ _ _ _ _ _ _ _ _ _ _ _ _ _ _ _ _ _ _ _ _ _ _ _ _ _ _ _ _ _ _ _ _ _ _ _ _ _ _ _ _ _ _ _ _ _ _ _ _ _ _ _ _ _ _ _ _ _ _ _ _ _ _ _ _ _ _ _ _ _ _ HON (Dq.link HL5.out HB4.out HE4.out.1 HE4.out.2 HT4.out)
        · go_roundw
          case rel => exact ⟨k + 1, by omega, by go_num, HS1.out, Dq.link HL5.out HB4.out HE4.out.1 HE4.out.2 HT4.out⟩
          case measure => simp [intOf]; omega
    · have hkq : k = O.length := by omega
      have NST : Hid (¬ stl) := fun h => by have := HS0.out h; omega
      clear hlq
      go_wp2
      exact hK.out _ _ _ _ _ _ _ _ _ _ _ _ _ _ _ _ _ _ _ _ _ _ _ _ _ _ _ _ _ _ _ _ _ _ _ _ _ _ _ _ _ _ _ _ _ _ _ _ _ _ _ _ _ _ _ _ _ _ _ _ _ _ _ _ _ _ _ _ _ _ _ _ _ _ _ _ _ _ _ _ _ _ _ _ _ _ _ _ _ _ _ _ _ _ _ _ _ _ _ _ _ _ _ NST.out HLr.out
end Go.Proofs.Ybulknju
