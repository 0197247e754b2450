import Derived.Test.YbulknjuDrR
namespace Go.Proofs.Ybulknju
open Go.RowKit

/-- A block of a body, by its number. -/
def findBlk (n : Nat) : Code → Option Code
  | .block m c => if m = n then some (.block m c) else findBlk n c
  | .seq a b => match findBlk n a with
    | some c => some c
    | none => findBlk n b
  | .scope c => findBlk n c
  | .loop c => findBlk n c
  | .cond _ a b => match findBlk n a with
    | some c => some c
    | none => findBlk n b
  | _ => none
/-- The block n of the function f. -/
def blkOf (f : Func) (n : Nat) : Code := ((f.body).bind (findBlk n)).getD .skip

set_option maxHeartbeats 8000000 in
set_option maxRecDepth 1000000 in
theorem blk28_2_any (C Lb : Nat) (O : List OpR) (Q : List Nat) (P : Nat → List Nat) (F : List (List Nat)) (vo vp vf vs vk vpc vps vsr vrd vsw : Value) (Cb gof gat : Nat) (vW vR vL : Value) (co po : Nat → Nat) (B G : Nat) (gs gp : Value) (gR : Nat) (vh : Value) (hon : Bool) (ρb : Rho) (wb w : World) (hO : O.length ≤ 2000) (hQ : Q.length ≤ 3) (hco : Hid (Col O.length (Q.map P) co po)) (hlk : Hid (Lks O (Q.map P) hon)) (e1 d1 : Nat) (he1 : e1 ≤ 20000000) (hd1 : d1 ≤ 20000000) (b1 b5 b7 du dc i0 : Nat) (dold dnow : Int) (X : List Nat) (aX : Option Addr) (cX kd : Nat) (hXl : X.length ≤ 3000) (hnX : Hid (NRow ρb wb (.re kd dc) (.slice aX X.length cX) X)) (hdu : du < O.length) (hdw : Hid ((opAt O du).rd = false)) (hdo : 0 ≤ dold ∧ dold ≤ 3000) (hX : Hid (∀ k, i0 ≤ k → k < X.length → X[k]! < O.length ∧ (opAt O (X[k]!)).rd = true ∧ ky O X[k]! = ky O du ∧ du < X[k]!)) (hi0 : i0 ≤ X.length) (hdq : Hid (Dq ρb wb C Lb O Q P F vo vp vf vs vk vpc vps vsr vrd vsw Cb gof gat vW vR vL co po B G gs gp gR vh e1 d1 [(b7, 38, #[.slice aX X.length cX]), (b5, 106, #[.int .i64 (du : Nat), .int .i64 (dc : Nat), .int .i32 dold, .int .i32 dnow]), (b1, 25, #[.pointer (some ⟨B, 0, none⟩)])] w)) (K : Act → World → Prop) (R : Act → World → Prop) (u0 u2 u4 u6 u9 u10 u11 u12 u13 u14 u15 u16 u17 u18 u19 u20 u21 u22 u23 u24 u25 u26 u27 u28 u29 u30 u31 u32 u33 u34 u35 u36 u37 u38 u39 u40 u41 u42 u43 u44 u45 u46 u47 u48 u49 u50 u51 u52 u53 u54 u55 u56 u57 u58 u59 u60 u61 u62 u63 u64 u65 u66 u67 u68 u69 u70 u71 u72 u73 u74 u75 u76 u77 u78 u79 u80 u81 u82 u83 u84 u85 u86 u87 u88 u89 u90 u91 u92 u93 u94 u95 u96 u97 u98 u99 u100 u101 u102 u103 u104 u105 u106 u107 u108 u109 u110 u111 u112 u113 u114 u115 u116 u117 u118 u119 u120 u121 u122 u123 u124 u125 u126 u127 u128 u129 u130 u131 u132 u133 u134 u135 u136 u137 u138 u139 u140 u141 u142 u143 u144 u145 u146 u147 u148 u149 u150 u151 u152 u153 u154 u155 u156 u157 u158 u159 u160 u161 u162 u163 u164 u165 u166 u167 u168 u169 u170 u171 u172 u173 u174 u175 u176 u177 u178 u179 u180 u181 u182 u183 u184 u185 u186 u187 u188 u189 u190 u191 u192 u193 u194 u195 u196 u197 u198 u199 u200 u201 u202 u203 u204 u205 u206 u207 u208 u209 u210 u211 u212 u213 u214 u215 u216 u217 u218 u219 u220 u221 u222 u223 u224 u225 u226 u227 u228 u229 u230 u231 u232 u233 u234 u235 u236 u237 u238 u239 u240 u241 u242 u243 u244 u245 u246 u247 u248 u249 u250 u251 u252 u253 u254 u255 u256 u257 u258 u259 u260 u261 u262 u263 u264 u265 u266 u267 u268 u269 u270 u271 u272 u273 u274 u275 u276 u277 u278 u279 u280 u281 u282 u283 u284 u285 u286 u287 u288 u289 u290 u291 u292 u293 u294 u295 u296 u297 u298 u299 u300 u301 u302 u303 u304 u305 u306 u307 u308 u309 u310 u311 u312 u313 : Value)
    (hK : Hid (∀ (x2 x8 x9 x135 x136 x137 x138 x139 x140 x141 x142 x143 x144 x145 x146 x147 x148 x149 x150 x151 x152 x153 x154 x155 x156 x157 x158 x159 x160 x161 x162 x163 x164 x165 x166 x167 x168 x169 x170 x171 x172 x173 x174 x175 x176 x177 x178 x179 x180 x181 x182 x183 x184 x185 x186 x187 x188 x189 : Value) (wx : World), Dq ρb wb C Lb O Q P F vo vp vf vs vk vpc vps vsr vrd vsw Cb gof gat vW vR vL co po B G gs gp gR vh e1 d1 [(b7, 38, #[.slice aX X.length cX]), (b5, 106, #[.int .i64 (du : Nat), .int .i64 (dc : Nat), .int .i32 dold, .int .i32 dnow]), (b1, 25, #[.pointer (some ⟨B, 0, none⟩)])] wx → K ⟨(u0 :: .pointer (some ⟨b1, 0, none⟩) :: x2 :: .int .i64 O.length :: u4 :: .pointer (some ⟨b5, 0, none⟩) :: u6 :: .pointer (some ⟨b7, 0, none⟩) :: x8 :: x9 :: u10 :: u11 :: u12 :: u13 :: u14 :: u15 :: u16 :: u17 :: u18 :: u19 :: u20 :: u21 :: u22 :: u23 :: u24 :: u25 :: u26 :: u27 :: u28 :: u29 :: u30 :: u31 :: u32 :: u33 :: u34 :: u35 :: u36 :: u37 :: u38 :: u39 :: u40 :: u41 :: u42 :: u43 :: u44 :: u45 :: u46 :: u47 :: u48 :: u49 :: u50 :: u51 :: u52 :: u53 :: u54 :: u55 :: u56 :: u57 :: u58 :: u59 :: u60 :: u61 :: u62 :: u63 :: u64 :: u65 :: u66 :: u67 :: u68 :: u69 :: u70 :: u71 :: u72 :: u73 :: u74 :: u75 :: u76 :: u77 :: u78 :: u79 :: u80 :: u81 :: u82 :: u83 :: u84 :: u85 :: u86 :: u87 :: u88 :: u89 :: u90 :: u91 :: u92 :: u93 :: u94 :: u95 :: u96 :: u97 :: u98 :: u99 :: u100 :: u101 :: u102 :: u103 :: u104 :: u105 :: u106 :: u107 :: u108 :: u109 :: u110 :: u111 :: u112 :: u113 :: u114 :: u115 :: u116 :: u117 :: u118 :: u119 :: u120 :: u121 :: u122 :: u123 :: u124 :: u125 :: u126 :: u127 :: u128 :: u129 :: u130 :: u131 :: u132 :: u133 :: u134 :: x135 :: x136 :: x137 :: x138 :: x139 :: x140 :: x141 :: x142 :: x143 :: x144 :: x145 :: x146 :: x147 :: x148 :: x149 :: x150 :: x151 :: x152 :: x153 :: x154 :: x155 :: x156 :: x157 :: x158 :: x159 :: x160 :: x161 :: x162 :: x163 :: x164 :: x165 :: x166 :: x167 :: x168 :: x169 :: x170 :: x171 :: x172 :: x173 :: x174 :: x175 :: x176 :: x177 :: x178 :: x179 :: x180 :: x181 :: x182 :: x183 :: x184 :: x185 :: x186 :: x187 :: x188 :: x189 :: u190 :: u191 :: u192 :: u193 :: u194 :: u195 :: u196 :: u197 :: u198 :: u199 :: u200 :: u201 :: u202 :: u203 :: u204 :: u205 :: u206 :: u207 :: u208 :: u209 :: u210 :: u211 :: u212 :: u213 :: u214 :: u215 :: u216 :: u217 :: u218 :: u219 :: u220 :: u221 :: u222 :: u223 :: u224 :: u225 :: u226 :: u227 :: u228 :: u229 :: u230 :: u231 :: u232 :: u233 :: u234 :: u235 :: u236 :: u237 :: u238 :: u239 :: u240 :: u241 :: u242 :: u243 :: u244 :: u245 :: u246 :: u247 :: u248 :: u249 :: u250 :: u251 :: u252 :: u253 :: u254 :: u255 :: u256 :: u257 :: u258 :: u259 :: u260 :: u261 :: u262 :: u263 :: u264 :: u265 :: u266 :: u267 :: u268 :: u269 :: u270 :: u271 :: u272 :: u273 :: u274 :: u275 :: u276 :: u277 :: u278 :: u279 :: u280 :: u281 :: u282 :: u283 :: u284 :: u285 :: u286 :: u287 :: u288 :: u289 :: u290 :: u291 :: u292 :: u293 :: u294 :: u295 :: u296 :: u297 :: u298 :: u299 :: u300 :: u301 :: u302 :: u303 :: u304 :: u305 :: u306 :: u307 :: u308 :: u309 :: u310 :: u311 :: u312 :: u313 :: []).toArray, []⟩ wx)) (hR : Hid (∀ (x8 x9 x135 x136 x137 x138 x139 x140 x141 x142 x143 x144 x145 x146 x147 x148 x149 x150 x151 x152 x153 x154 x155 x156 x157 x158 x159 x160 x161 x162 x163 x164 x165 x166 x167 x168 x169 x170 x171 x172 x173 x174 x175 x176 x177 x178 x179 x180 x181 x182 x183 x184 x185 x186 x187 x188 x189 : Value) (wx : World), hon = false → Dq ρb wb C Lb O Q P F vo vp vf vs vk vpc vps vsr vrd vsw Cb gof gat vW vR vL co po B G gs gp gR vh e1 d1 [(b7, 38, #[.slice aX X.length cX]), (b5, 106, #[.int .i64 (du : Nat), .int .i64 (dc : Nat), .int .i32 dold, .int .i32 dnow]), (b1, 25, #[.pointer (some ⟨B, 0, none⟩)])] wx → R ⟨(u0 :: .pointer (some ⟨b1, 0, none⟩) :: .bool false :: .int .i64 O.length :: u4 :: .pointer (some ⟨b5, 0, none⟩) :: u6 :: .pointer (some ⟨b7, 0, none⟩) :: x8 :: x9 :: u10 :: u11 :: u12 :: u13 :: u14 :: u15 :: u16 :: u17 :: u18 :: u19 :: u20 :: u21 :: u22 :: u23 :: u24 :: u25 :: u26 :: u27 :: u28 :: u29 :: u30 :: u31 :: u32 :: u33 :: u34 :: u35 :: u36 :: u37 :: u38 :: u39 :: u40 :: u41 :: u42 :: u43 :: u44 :: u45 :: u46 :: u47 :: u48 :: u49 :: u50 :: u51 :: u52 :: u53 :: u54 :: u55 :: u56 :: u57 :: u58 :: u59 :: u60 :: u61 :: u62 :: u63 :: u64 :: u65 :: u66 :: u67 :: u68 :: u69 :: u70 :: u71 :: u72 :: u73 :: u74 :: u75 :: u76 :: u77 :: u78 :: u79 :: u80 :: u81 :: u82 :: u83 :: u84 :: u85 :: u86 :: u87 :: u88 :: u89 :: u90 :: u91 :: u92 :: u93 :: u94 :: u95 :: u96 :: u97 :: u98 :: u99 :: u100 :: u101 :: u102 :: u103 :: u104 :: u105 :: u106 :: u107 :: u108 :: u109 :: u110 :: u111 :: u112 :: u113 :: u114 :: u115 :: u116 :: u117 :: u118 :: u119 :: u120 :: u121 :: u122 :: u123 :: u124 :: u125 :: u126 :: u127 :: u128 :: u129 :: u130 :: u131 :: u132 :: u133 :: u134 :: x135 :: x136 :: x137 :: x138 :: x139 :: x140 :: x141 :: x142 :: x143 :: x144 :: x145 :: x146 :: x147 :: x148 :: x149 :: x150 :: x151 :: x152 :: x153 :: x154 :: x155 :: x156 :: x157 :: x158 :: x159 :: x160 :: x161 :: x162 :: x163 :: x164 :: x165 :: x166 :: x167 :: x168 :: x169 :: x170 :: x171 :: x172 :: x173 :: x174 :: x175 :: x176 :: x177 :: x178 :: x179 :: x180 :: x181 :: x182 :: x183 :: x184 :: x185 :: x186 :: x187 :: x188 :: x189 :: u190 :: u191 :: u192 :: u193 :: u194 :: u195 :: u196 :: u197 :: u198 :: u199 :: u200 :: u201 :: u202 :: u203 :: u204 :: u205 :: u206 :: u207 :: u208 :: u209 :: u210 :: u211 :: u212 :: u213 :: u214 :: u215 :: u216 :: u217 :: u218 :: u219 :: u220 :: u221 :: u222 :: u223 :: u224 :: u225 :: u226 :: u227 :: u228 :: u229 :: u230 :: u231 :: u232 :: u233 :: u234 :: u235 :: u236 :: u237 :: u238 :: u239 :: u240 :: u241 :: u242 :: u243 :: u244 :: u245 :: u246 :: u247 :: u248 :: u249 :: u250 :: u251 :: u252 :: u253 :: u254 :: u255 :: u256 :: u257 :: u258 :: u259 :: u260 :: u261 :: u262 :: u263 :: u264 :: u265 :: u266 :: u267 :: u268 :: u269 :: u270 :: u271 :: u272 :: u273 :: u274 :: u275 :: u276 :: u277 :: u278 :: u279 :: u280 :: u281 :: u282 :: u283 :: u284 :: u285 :: u286 :: u287 :: u288 :: u289 :: u290 :: u291 :: u292 :: u293 :: u294 :: u295 :: u296 :: u297 :: u298 :: u299 :: u300 :: u301 :: u302 :: u303 :: u304 :: u305 :: u306 :: u307 :: u308 :: u309 :: u310 :: u311 :: u312 :: u313 :: []).toArray, []⟩ wx)) :
    Code.wp Yba.prog (blkOf Yba.f28 2) (Exit.then K (onRet R)) ⟨(u0 :: .pointer (some ⟨b1, 0, none⟩) :: u2 :: .int .i64 O.length :: u4 :: .pointer (some ⟨b5, 0, none⟩) :: u6 :: .pointer (some ⟨b7, 0, none⟩) :: .int .i64 (i0 : Nat) :: u9 :: u10 :: u11 :: u12 :: u13 :: u14 :: u15 :: u16 :: u17 :: u18 :: u19 :: u20 :: u21 :: u22 :: u23 :: u24 :: u25 :: u26 :: u27 :: u28 :: u29 :: u30 :: u31 :: u32 :: u33 :: u34 :: u35 :: u36 :: u37 :: u38 :: u39 :: u40 :: u41 :: u42 :: u43 :: u44 :: u45 :: u46 :: u47 :: u48 :: u49 :: u50 :: u51 :: u52 :: u53 :: u54 :: u55 :: u56 :: u57 :: u58 :: u59 :: u60 :: u61 :: u62 :: u63 :: u64 :: u65 :: u66 :: u67 :: u68 :: u69 :: u70 :: u71 :: u72 :: u73 :: u74 :: u75 :: u76 :: u77 :: u78 :: u79 :: u80 :: u81 :: u82 :: u83 :: u84 :: u85 :: u86 :: u87 :: u88 :: u89 :: u90 :: u91 :: u92 :: u93 :: u94 :: u95 :: u96 :: u97 :: u98 :: u99 :: u100 :: u101 :: u102 :: u103 :: u104 :: u105 :: u106 :: u107 :: u108 :: u109 :: u110 :: u111 :: u112 :: u113 :: u114 :: u115 :: u116 :: u117 :: u118 :: u119 :: u120 :: u121 :: u122 :: u123 :: u124 :: u125 :: u126 :: u127 :: u128 :: u129 :: u130 :: u131 :: u132 :: u133 :: u134 :: u135 :: u136 :: u137 :: u138 :: u139 :: u140 :: u141 :: u142 :: u143 :: u144 :: u145 :: u146 :: u147 :: u148 :: u149 :: u150 :: u151 :: u152 :: u153 :: u154 :: u155 :: u156 :: u157 :: u158 :: u159 :: u160 :: u161 :: u162 :: u163 :: u164 :: u165 :: u166 :: u167 :: u168 :: u169 :: u170 :: u171 :: u172 :: u173 :: u174 :: u175 :: u176 :: u177 :: u178 :: u179 :: u180 :: u181 :: u182 :: u183 :: u184 :: u185 :: u186 :: u187 :: u188 :: u189 :: u190 :: u191 :: u192 :: u193 :: u194 :: u195 :: u196 :: u197 :: u198 :: u199 :: u200 :: u201 :: u202 :: u203 :: u204 :: u205 :: u206 :: u207 :: u208 :: u209 :: u210 :: u211 :: u212 :: u213 :: u214 :: u215 :: u216 :: u217 :: u218 :: u219 :: u220 :: u221 :: u222 :: u223 :: u224 :: u225 :: u226 :: u227 :: u228 :: u229 :: u230 :: u231 :: u232 :: u233 :: u234 :: u235 :: u236 :: u237 :: u238 :: u239 :: u240 :: u241 :: u242 :: u243 :: u244 :: u245 :: u246 :: u247 :: u248 :: u249 :: u250 :: u251 :: u252 :: u253 :: u254 :: u255 :: u256 :: u257 :: u258 :: u259 :: u260 :: u261 :: u262 :: u263 :: u264 :: u265 :: u266 :: u267 :: u268 :: u269 :: u270 :: u271 :: u272 :: u273 :: u274 :: u275 :: u276 :: u277 :: u278 :: u279 :: u280 :: u281 :: u282 :: u283 :: u284 :: u285 :: u286 :: u287 :: u288 :: u289 :: u290 :: u291 :: u292 :: u293 :: u294 :: u295 :: u296 :: u297 :: u298 :: u299 :: u300 :: u301 :: u302 :: u303 :: u304 :: u305 :: u306 :: u307 :: u308 :: u309 :: u310 :: u311 :: u312 :: u313 :: []).toArray, []⟩ w := by
  conv => arg 2; whnf
  go_wp2
  go_loopw [8, 9] (fun i _ wr => ∃ k : Nat, i0 ≤ k ∧ k ≤ X.length ∧ i = .int .i64 k ∧ Dq ρb wb C Lb O Q P F vo vp vf vs vk vpc vps vsr vrd vsw Cb gof gat vW vR vL co po B G gs gp gR vh e1 d1 [(b7, 38, #[.slice aX X.length cX]), (b5, 106, #[.int .i64 (du : Nat), .int .i64 (dc : Nat), .int .i32 dold, .int .i32 dnow]), (b1, 25, #[.pointer (some ⟨B, 0, none⟩)])] wr) (fun i _ _ => X.length - (intOf i).toNat)
  case atStart => exact ⟨i0, Nat.le_refl _, hi0, rfl, hdq.out⟩
  case round =>
    clear hdq
    obtain ⟨k, hik, hk, rfl, hlq⟩ := hrel
    have HLr := hide hlq
    obtain ⟨ρr, vdr, Er, fr, Dr, hj, hbx, he, hd, hst⟩ := hlq
    have hb7 := hbx _ List.mem_cons_self
    have hb5 := hbx _ (List.mem_cons_of_mem _ List.mem_cons_self)
    have hb1 := hbx _ (List.mem_cons_of_mem _ (List.mem_cons_of_mem _ List.mem_cons_self))
    have b10 := hb1.cell 0 rfl
    have b70 := hb7.cell 0 rfl
    by_cases hkX : k < X.length
    · have hnr := hnX.out.keep hst (by simp [RK, RV, RG])
      obtain ⟨gX, cX', hvX, _, _, _⟩ := Row.has hnr (by omega)
      cases hvX
      have y0 := hnr.cell (j := k) hkX
      obtain ⟨hr1, hr2, hr3, hr4⟩ := hX.out k hik hkX
      obtain ⟨r, er⟩ : ∃ r, r = X[k]! := ⟨_, rfl⟩
      rw [← er] at y0 hr1 hr2 hr3 hr4
      clear er hnr
      have b50 := hb5.cell 0 rfl
      have b52 := hb5.cell 2 rfl
      have c1 := hj.dyn.clo.cell 1 rfl
      have c0 := hj.dyn.clo.cell 0 rfl
      have k1 := hj.sta.cst.cell 1 rfl
      have o2 := hj.sta.pos.cell hr1
      obtain ⟨gs', cs', hvs, _, _, _⟩ := Row.has hj.sta.base.src (by omega)
      have l5 : wr.cell? ⟨Lb, 5, none⟩ = some (.slice (some ⟨gs', 0, none⟩) O.length cs') := by rw [← hvs]; exact hj.sta.base.st.cell 5 rfl
      have sc : wr.cell? ⟨gs', r, none⟩ = some (.int .i64 (sI O r)) := by have := hj.sta.base.src; rw [hvs] at this; exact FRow.cell this hr1
      have hsr := hlk.out.src r hr1 hr2
      have HS1 := hide (hlk.out.s1 r du hr1 hdu hr2 hdw.out hr3 hr4)
      obtain ⟨pr, epr⟩ : ∃ pr, pr = po r := ⟨_, rfl⟩
      have hpr : pr ≤ 3000 := by rw [epr]; have h1 := hco.out.fwd r hr1; have h2 := hco.out.small _ h1.1; omega
      obtain ⟨z, ez⟩ : ∃ z, z = sI O r := ⟨_, rfl⟩
      rw [← epr] at o2
      rw [← ez] at sc hsr HS1
      have ix1 := fun wx => idx38 (b := gX) (c := cX) hkX wx
      have ix2 := fun wx => idx38 (b := gat) (c := O.length) hr1 wx
      have ix3 := fun wx => idx38 (b := gs') (c := cs') hr1 wx
      have HJ := hide hj
      have HBX := hide hbx
      have HST := hide hst
      have hl1 : decide ((k : Int) < (X.length : Int)) = true := decide_eq_true (by omega)
      clear hj hbx hst hb7 hb5 hb1 epr ez hvs hr2 hr3
      by_cases hlo : (pr : Int) < dold
      · have hl2 : decide ((pr : Int) < dold) = true := decide_eq_true hlo
        go_upto_region 13 with fail
        go_quiet (fail)
        go_upto_region 15 with fail
        go_quiet (fail)
        go_upto_region 16 with fail
        by_cases hz : z = (du : Nat)
        · subst hz
          clear HJ HBX HST HS1
          go_wp2
          go_roundw
          case rel => exact ⟨k + 1, by omega, by omega, by go_num, HLr.out.drew _⟩
          case measure => simp [intOf]; omega
        · obtain ⟨s, hzs, hsn, hLk⟩ := HS1.out hz
          subst hzs
          have hne : ((s : Int) == (du : Int)) = false := by rw [beq_eq_false_iff_ne]; exact hz
          have hge : decide ((O.length : Int) ≤ (s : Int)) = false := decide_eq_false (by omega)
          have LA : Hid (∀ q, Calls Yba.prog 27 #[.pointer (some ⟨B, 0, none⟩), .int .i64 du, .int .i64 s] (wr.drewN q) fun e w' => e = .returned (.bool (decide (du < s))) ∧ LinkP ρr (wr.drewN q) C Lb O Q P F vo vp vf vs vk vpc vps vsr vrd vsw Cb gof gat vW vR vL co po B G gs gp gR vh Er fr Dr w') := fun q => link_any C Lb O Q P F vo vp vf vs vk vpc vps vsr vrd vsw Cb gof gat vW vR vL co po B G gs gp gR vh vdr Er fr Dr ρr (wr.drewN q) hO hQ hco.out (HJ.out.keep0 ((Stp.refl (fun _ => False) ρr wr).drewN q) (fun _ h => h.elim)) (by omega) (by omega) du s hdu hsn hLk.or
          have HB := hide (fun (q : Nat) b hb => (HBX.out b hb).keep ((Stp.refl (fun _ => False) ρr wr).drewN q) (fun h => h))
          have HSQ : Hid (∀ q, Stp RK ρb wb ρr (wr.drewN q)) := fun q => HST.out.drewN q
          by_cases hlt : du < s
          · rw [decide_eq_true hlt] at LA
            clear HJ HBX HST HS1 HLr hLk
            go_wp2_with (go_at_call 27; refine (LA.out _).mono ?_; rintro e w5 ⟨rfl, hl5⟩; have HL5 := hide hl5; clear hl5)
            go_roundw
            case rel => exact ⟨k + 1, by omega, by omega, by go_num, Dq.link HL5.out (HB.out _) he hd (HSQ.out _)⟩
            case measure => simp [intOf]; omega
          · rw [decide_eq_false hlt] at LA
            have HON : Hid (hon = false) := (hLk.resolve_left hlt).1
            clear HJ HBX HST HS1 HLr hLk
            go_wp2_with (go_at_call 27; refine (LA.out _).mono ?_; rintro e w5 ⟨rfl, hl5⟩; have HL5 := hide hl5; clear hl5)
            exact hR.out _ _ _ _ _ _ _ _ _ _ _ _ _ _ _ _ _ _ _ _ _ _ _ _ _ _ _ _ _ _ _ _ _ _ _ _ _ _ _ _ _ _ _ _ _ _ _ _ _ _ _ _ _ _ _ _ _ _ HON.out (Dq.link HL5.out (HB.out _) he hd (HSQ.out _))
      · have hl2 : decide ((pr : Int) < dold) = false := decide_eq_false hlo
        clear HJ HBX HST HS1
        go_upto_region 13 with fail
        go_quiet (fail)
        go_wp2
        exact hK.out _ _ _ _ _ _ _ _ _ _ _ _ _ _ _ _ _ _ _ _ _ _ _ _ _ _ _ _ _ _ _ _ _ _ _ _ _ _ _ _ _ _ _ _ _ _ _ _ _ _ _ _ _ _ _ _ _ _ _ (HLr.out.drew _)
    · have hl1 : decide ((k : Int) < (X.length : Int)) = false := decide_eq_false (by omega)
      clear hj hbx hst hb7 hb5 hb1 he hd
      go_upto_region 13 with fail
      go_quiet (fail)
      go_wp2
      exact hK.out _ _ _ _ _ _ _ _ _ _ _ _ _ _ _ _ _ _ _ _ _ _ _ _ _ _ _ _ _ _ _ _ _ _ _ _ _ _ _ _ _ _ _ _ _ _ _ _ _ _ _ _ _ _ _ _ _ _ _ (HLr.out.drew _)
end Go.Proofs.Ybulknju
