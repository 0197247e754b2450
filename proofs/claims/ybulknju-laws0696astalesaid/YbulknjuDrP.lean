import Derived.Test.YbulknjuDrM
namespace Go.Proofs.Ybulknju
open Go.RowKit

theorem fil_facts {n : Nat} {H : List (List Nat)} {co po : Nat → Nat} (hc : Col n H co po) (p : Nat → Bool) {c : Nat} (hcl : c < H.length) {X : List Nat} (hX : X = (H[c]!).filter p) (k : Nat) (hk : k < X.length) : X[k]! < n ∧ p X[k]! = true ∧ co X[k]! = c ∧ ∀ j, j < k → po X[j]! < po X[k]! := by
  have hin : ∀ k, k < X.length → p X[k]! = true ∧ ∃ i, i < (H[c]!).length ∧ (H[c]!)[i]! = X[k]! := fun k hk => by
    have hm : X[k]! ∈ (H[c]!).filter p := by rw [← hX, getElem!_pos X k hk]; exact List.getElem_mem _
    obtain ⟨h1, h2⟩ := List.mem_filter.1 hm
    obtain ⟨i, hi, e⟩ := List.getElem_of_mem h1
    exact ⟨h2, i, hi, by rw [getElem!_pos _ i hi]; exact e⟩
  have hpw : ((H[c]!).filter p).Pairwise (· < ·) := by
    apply List.Pairwise.filter
    rw [List.pairwise_iff_getElem]
    intro i j hi hj hij
    have := hc.inc c i j hcl hij hj
    rw [getElem!_pos (H[c]!) i hi, getElem!_pos (H[c]!) j hj] at this
    exact this
  rw [← hX, List.pairwise_iff_getElem] at hpw
  obtain ⟨h1, i, hi, e⟩ := hin k hk
  obtain ⟨b1, b2, b3⟩ := hc.bwd c i hcl hi
  rw [e] at b1 b2 b3
  refine ⟨b1, h1, b2, fun j hj => ?_⟩
  obtain ⟨_, i', hi', e'⟩ := hin j (by omega)
  obtain ⟨_, _, c3⟩ := hc.bwd c i' hcl hi'
  rw [e'] at c3
  have hlt : X[j]! < X[k]! := by
    have := hpw j k (by omega) hk hj
    rw [getElem!_pos X j (by omega), getElem!_pos X k hk]; exact this
  rw [c3, b3]
  rcases Nat.lt_or_ge i' i with h | h
  · exact h
  · rcases Nat.lt_or_ge i i' with h' | h'
    · have := hc.inc c i i' hcl h' hi'
      rw [e, e'] at this; omega
    · have : i = i' := by omega
      subst this
      rw [e] at e'; omega
theorem drop_lt {n : Nat} {H : List (List Nat)} {co po : Nat → Nat} (hc : Col n H co po) {c u r : Nat} {now : Int} (hcl : c < H.length) (hd : u < (H[c]!)[now.toNat]!) (h0 : 0 ≤ now) (hr : r < n) (hcr : co r = c) (hnr : now ≤ (po r : Nat)) : u < r := by
  obtain ⟨_, a2, a3⟩ := hc.fwd r hr
  rw [hcr] at a2 a3
  rcases Nat.lt_or_ge now.toNat (po r) with h | h
  · have := hc.inc c now.toNat (po r) hcl h a2
    omega
  · have : now.toNat = po r := by omega
    rw [this, a3] at hd; exact hd
theorem reL_at (O : List OpR) (H : List (List Nat)) (k : Nat) {c : Nat} (h : c < H.length) : (reL O H k)[c]! = (H[c]!).filter fun o => (opAt O o).rd && ky O o == k := by
  rw [getElem!_pos _ c (by simpa [reL] using h), getElem!_pos H c h]; simp [reL]
theorem wrL_at (O : List OpR) (H : List (List Nat)) (k : Nat) {c : Nat} (h : c < H.length) : (wrL O H k)[c]! = (H[c]!).filter fun o => !(opAt O o).rd && ky O o == k := by
  rw [getElem!_pos _ c (by simpa [wrL] using h), getElem!_pos H c h]; simp [wrL]
theorem Dq.lift {ρ ρb : Rho} {w wb : World} {C Lb : Nat} {O : List OpR} {Q : List Nat} {P : Nat → List Nat} {F : List (List Nat)} {vo vp vf vs vk vpc vps vsr vrd vsw : Value} {Cb gof gat : Nat} {vW vR vL : Value} {co po : Nat → Nat} {B G : Nat} {gs gp : Value} {gR : Nat} {vh : Value} {e0 d0 e1 d1 : Nat} {bx by' : List (Nat × Nat × Array Value)} {wr : World} (h : Dq ρb wb C Lb O Q P F vo vp vf vs vk vpc vps vsr vrd vsw Cb gof gat vW vR vL co po B G gs gp gR vh e1 d1 bx wr) (hs : Stp RK ρ w ρb wb) (he : e1 ≤ e0) (hd : d1 ≤ d0) (hb : ∀ b ∈ by', b ∈ bx) : Dq ρ w C Lb O Q P F vo vp vf vs vk vpc vps vsr vrd vsw Cb gof gat vW vR vL co po B G gs gp gR vh e0 d0 by' wr := by
  obtain ⟨ρr, vdr, Er, fr, Dr, hj, hbx, he', hd', hs'⟩ := h
  exact ⟨ρr, vdr, Er, fr, Dr, hj, fun b h => hbx b (hb b h), by omega, by omega, hs.trans hs'⟩
theorem Dq.toLink {ρ : Rho} {w : World} {C Lb : Nat} {O : List OpR} {Q : List Nat} {P : Nat → List Nat} {F : List (List Nat)} {vo vp vf vs vk vpc vps vsr vrd vsw : Value} {Cb gof gat : Nat} {vW vR vL : Value} {co po : Nat → Nat} {B G : Nat} {gs gp : Value} {gR : Nat} {vh : Value} {E : List (Nat × Nat)} {f : Nat → Int} {D : List Drp} {bx : List (Nat × Nat × Array Value)} {wr : World} (h : Dq ρ w C Lb O Q P F vo vp vf vs vk vpc vps vsr vrd vsw Cb gof gat vW vR vL co po B G gs gp gR vh (E.length + Ybulknju.mu (O.length * Q.length) f) (D.length + Ybulknju.mu (O.length * Q.length) f) bx wr) : LinkP ρ w C Lb O Q P F vo vp vf vs vk vpc vps vsr vrd vsw Cb gof gat vW vR vL co po B G gs gp gR vh E f D wr := by
  obtain ⟨ρr, vdr, Er, fr, Dr, hj, _, he, hd, hs⟩ := h
  exact ⟨ρr, vdr, Er, fr, Dr, hj, he, hd, hs⟩
theorem wp_end {P : Program} {c : Code} {Q : Exit → Act → World → Prop} {a : Act} {w : World} (h : c.wp P (Exit.then (fun a w => Q .normal a w) (fun _ _ _ => False)) a w) : c.wp P Q a w :=
  wp_mono h fun e a w hq => by
    cases e with
    | normal => exact hq
    | _ => exact hq.elim
theorem eg55 : ∀ args w, (callFunc 55 args).run Yba.prog w = .ok (.enter 55 args) w := enters_of Yba.func55 (by kernel_rfl) rfl

set_option maxHeartbeats 4000000 in
set_option maxRecDepth 1000000 in
theorem blk28_6_any (b13 : Nat) (w : World) (hb : w.cell? ⟨b13, 0, none⟩ = some (.slice none 0 0)) (K : Act → World → Prop) (u0 u1 u2 u3 u4 u5 u6 u7 u9 u10 u11 u12 u14 u15 u16 u17 u18 u19 u20 u21 u22 u23 u24 u25 u26 u27 u28 u29 u30 u31 u32 u33 u34 u35 u36 u37 u38 u39 u40 u41 u42 u43 u44 u45 u46 u47 u48 u49 u50 u51 u52 u53 u54 u55 u56 u57 u58 u59 u60 u61 u62 u63 u64 u65 u66 u67 u68 u69 u70 u71 u72 u73 u74 u75 u76 u77 u78 u79 u80 u81 u82 u83 u84 u85 u86 u87 u88 u89 u90 u91 u92 u93 u94 u95 u96 u97 u98 u99 u100 u101 u102 u103 u104 u105 u106 u107 u108 u109 u110 u111 u112 u113 u114 u115 u116 u117 u118 u119 u120 u121 u122 u123 u124 u125 u126 u127 u128 u129 u130 u131 u132 u133 u134 u135 u136 u137 u138 u139 u140 u141 u142 u143 u144 u145 u146 u147 u148 u149 u150 u151 u152 u153 u154 u155 u156 u157 u158 u159 u160 u161 u162 u163 u164 u165 u166 u167 u168 u169 u170 u171 u172 u173 u174 u175 u176 u177 u178 u179 u180 u181 u182 u183 u184 u185 u186 u187 u188 u189 u190 u191 u192 u193 u194 u195 u196 u197 u198 u199 u200 u201 u202 u203 u204 u205 u206 u207 u208 u209 u210 u211 u212 u213 u214 u215 u216 u217 u218 u219 u220 u221 u222 u223 u224 u225 u226 u227 u228 u229 u230 u231 u232 u233 u234 u235 u236 u237 u238 u239 u240 u241 u242 u243 u244 u245 u246 u247 u248 u249 u250 u251 u252 u253 u254 u255 u256 u257 u258 u259 u260 u261 u262 u263 u264 u265 u266 u267 u268 u269 u270 u271 u272 u273 u274 u275 u276 u277 u278 u279 u280 u281 u282 u283 u284 u285 u286 u287 u288 u289 u290 u291 u292 u293 u294 u295 u296 u297 u298 u299 u300 u301 u302 u303 u304 u305 u306 u307 u308 u309 u310 u311 u312 u313 : Value)
    (hK : Hid (∀ (q : Nat) (x2 x8 x15 x271 x272 x273 x274 x275 x276 x277 x278 x279 x280 x281 x282 x283 x284 x285 x286 x287 x288 x289 x290 x291 x292 x293 x294 x295 x296 x297 x298 x299 x300 x301 x302 x303 x304 x305 x306 x307 x308 x309 x310 x311 x312 x313 : Value), K ⟨(u0 :: u1 :: x2 :: u3 :: u4 :: u5 :: u6 :: u7 :: x8 :: u9 :: u10 :: u11 :: u12 :: .pointer (some ⟨b13, 0, none⟩) :: u14 :: x15 :: u16 :: u17 :: u18 :: u19 :: u20 :: u21 :: u22 :: u23 :: u24 :: u25 :: u26 :: u27 :: u28 :: u29 :: u30 :: u31 :: u32 :: u33 :: u34 :: u35 :: u36 :: u37 :: u38 :: u39 :: u40 :: u41 :: u42 :: u43 :: u44 :: u45 :: u46 :: u47 :: u48 :: u49 :: u50 :: u51 :: u52 :: u53 :: u54 :: u55 :: u56 :: u57 :: u58 :: u59 :: u60 :: u61 :: u62 :: u63 :: u64 :: u65 :: u66 :: u67 :: u68 :: u69 :: u70 :: u71 :: u72 :: u73 :: u74 :: u75 :: u76 :: u77 :: u78 :: u79 :: u80 :: u81 :: u82 :: u83 :: u84 :: u85 :: u86 :: u87 :: u88 :: u89 :: u90 :: u91 :: u92 :: u93 :: u94 :: u95 :: u96 :: u97 :: u98 :: u99 :: u100 :: u101 :: u102 :: u103 :: u104 :: u105 :: u106 :: u107 :: u108 :: u109 :: u110 :: u111 :: u112 :: u113 :: u114 :: u115 :: u116 :: u117 :: u118 :: u119 :: u120 :: u121 :: u122 :: u123 :: u124 :: u125 :: u126 :: u127 :: u128 :: u129 :: u130 :: u131 :: u132 :: u133 :: u134 :: u135 :: u136 :: u137 :: u138 :: u139 :: u140 :: u141 :: u142 :: u143 :: u144 :: u145 :: u146 :: u147 :: u148 :: u149 :: u150 :: u151 :: u152 :: u153 :: u154 :: u155 :: u156 :: u157 :: u158 :: u159 :: u160 :: u161 :: u162 :: u163 :: u164 :: u165 :: u166 :: u167 :: u168 :: u169 :: u170 :: u171 :: u172 :: u173 :: u174 :: u175 :: u176 :: u177 :: u178 :: u179 :: u180 :: u181 :: u182 :: u183 :: u184 :: u185 :: u186 :: u187 :: u188 :: u189 :: u190 :: u191 :: u192 :: u193 :: u194 :: u195 :: u196 :: u197 :: u198 :: u199 :: u200 :: u201 :: u202 :: u203 :: u204 :: u205 :: u206 :: u207 :: u208 :: u209 :: u210 :: u211 :: u212 :: u213 :: u214 :: u215 :: u216 :: u217 :: u218 :: u219 :: u220 :: u221 :: u222 :: u223 :: u224 :: u225 :: u226 :: u227 :: u228 :: u229 :: u230 :: u231 :: u232 :: u233 :: u234 :: u235 :: u236 :: u237 :: u238 :: u239 :: u240 :: u241 :: u242 :: u243 :: u244 :: u245 :: u246 :: u247 :: u248 :: u249 :: u250 :: u251 :: u252 :: u253 :: u254 :: u255 :: u256 :: u257 :: u258 :: u259 :: u260 :: u261 :: u262 :: u263 :: u264 :: u265 :: u266 :: u267 :: u268 :: u269 :: u270 :: x271 :: x272 :: x273 :: x274 :: x275 :: x276 :: x277 :: x278 :: x279 :: x280 :: x281 :: x282 :: x283 :: x284 :: x285 :: x286 :: x287 :: x288 :: x289 :: x290 :: x291 :: x292 :: x293 :: x294 :: x295 :: x296 :: x297 :: x298 :: x299 :: x300 :: x301 :: x302 :: x303 :: x304 :: x305 :: x306 :: x307 :: x308 :: x309 :: x310 :: x311 :: x312 :: x313 :: []).toArray, []⟩ (w.drewN q))) :
    Code.wp Yba.prog (blkOf Yba.f28 6) (Exit.then K (fun _ _ _ => False)) ⟨(u0 :: u1 :: u2 :: u3 :: u4 :: u5 :: u6 :: u7 :: .int .i64 0 :: u9 :: u10 :: u11 :: u12 :: .pointer (some ⟨b13, 0, none⟩) :: u14 :: u15 :: u16 :: u17 :: u18 :: u19 :: u20 :: u21 :: u22 :: u23 :: u24 :: u25 :: u26 :: u27 :: u28 :: u29 :: u30 :: u31 :: u32 :: u33 :: u34 :: u35 :: u36 :: u37 :: u38 :: u39 :: u40 :: u41 :: u42 :: u43 :: u44 :: u45 :: u46 :: u47 :: u48 :: u49 :: u50 :: u51 :: u52 :: u53 :: u54 :: u55 :: u56 :: u57 :: u58 :: u59 :: u60 :: u61 :: u62 :: u63 :: u64 :: u65 :: u66 :: u67 :: u68 :: u69 :: u70 :: u71 :: u72 :: u73 :: u74 :: u75 :: u76 :: u77 :: u78 :: u79 :: u80 :: u81 :: u82 :: u83 :: u84 :: u85 :: u86 :: u87 :: u88 :: u89 :: u90 :: u91 :: u92 :: u93 :: u94 :: u95 :: u96 :: u97 :: u98 :: u99 :: u100 :: u101 :: u102 :: u103 :: u104 :: u105 :: u106 :: u107 :: u108 :: u109 :: u110 :: u111 :: u112 :: u113 :: u114 :: u115 :: u116 :: u117 :: u118 :: u119 :: u120 :: u121 :: u122 :: u123 :: u124 :: u125 :: u126 :: u127 :: u128 :: u129 :: u130 :: u131 :: u132 :: u133 :: u134 :: u135 :: u136 :: u137 :: u138 :: u139 :: u140 :: u141 :: u142 :: u143 :: u144 :: u145 :: u146 :: u147 :: u148 :: u149 :: u150 :: u151 :: u152 :: u153 :: u154 :: u155 :: u156 :: u157 :: u158 :: u159 :: u160 :: u161 :: u162 :: u163 :: u164 :: u165 :: u166 :: u167 :: u168 :: u169 :: u170 :: u171 :: u172 :: u173 :: u174 :: u175 :: u176 :: u177 :: u178 :: u179 :: u180 :: u181 :: u182 :: u183 :: u184 :: u185 :: u186 :: u187 :: u188 :: u189 :: u190 :: u191 :: u192 :: u193 :: u194 :: u195 :: u196 :: u197 :: u198 :: u199 :: u200 :: u201 :: u202 :: u203 :: u204 :: u205 :: u206 :: u207 :: u208 :: u209 :: u210 :: u211 :: u212 :: u213 :: u214 :: u215 :: u216 :: u217 :: u218 :: u219 :: u220 :: u221 :: u222 :: u223 :: u224 :: u225 :: u226 :: u227 :: u228 :: u229 :: u230 :: u231 :: u232 :: u233 :: u234 :: u235 :: u236 :: u237 :: u238 :: u239 :: u240 :: u241 :: u242 :: u243 :: u244 :: u245 :: u246 :: u247 :: u248 :: u249 :: u250 :: u251 :: u252 :: u253 :: u254 :: u255 :: u256 :: u257 :: u258 :: u259 :: u260 :: u261 :: u262 :: u263 :: u264 :: u265 :: u266 :: u267 :: u268 :: u269 :: u270 :: u271 :: u272 :: u273 :: u274 :: u275 :: u276 :: u277 :: u278 :: u279 :: u280 :: u281 :: u282 :: u283 :: u284 :: u285 :: u286 :: u287 :: u288 :: u289 :: u290 :: u291 :: u292 :: u293 :: u294 :: u295 :: u296 :: u297 :: u298 :: u299 :: u300 :: u301 :: u302 :: u303 :: u304 :: u305 :: u306 :: u307 :: u308 :: u309 :: u310 :: u311 :: u312 :: u313 :: []).toArray, []⟩ w := by
  conv => arg 2; whnf
  go_wp2
  go_loopw [8] (fun i wr => i = .int .i64 0 ∧ ∃ q, wr = w.drewN q) (fun _ _ => 0)
  case atStart => exact ⟨rfl, 0, rfl⟩
  case round =>
    obtain ⟨rfl, q, rfl⟩ := hrel
    go_upto_region 29 with fail
    go_quiet (fail)
    go_wp2
    rw [World.drewN_drewN]
    exact hK.out _ _ _ _ _ _ _ _ _ _ _ _ _ _ _ _ _ _ _ _ _ _ _ _ _ _ _ _ _ _ _ _ _ _ _ _ _ _ _ _ _ _ _ _ _ _ _

end Go.Proofs.Ybulknju
