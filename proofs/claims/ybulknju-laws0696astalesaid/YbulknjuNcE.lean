import Derived.Test.YbulknjuNcB
import Derived.Test.YbulknjuHeld
namespace Go.Proofs.Ybulknju
open Go.RowKit

set_option maxHeartbeats 8000000 in
set_option maxRecDepth 1000000 in
theorem reg33_23_any (Cb gA gB cA cB nK nW c o k : Nat) (aX : Option Addr) (cX : Nat) (X : List Nat) (us : List Value) (ρ : Rho) (w : World) (h0 : w.cell? ⟨Cb, 4, none⟩ = some (.slice (some ⟨gA, 0, none⟩) nK cA)) (h1 : w.cell? ⟨gA, k, none⟩ = some (.slice (some ⟨gB, 0, none⟩) nW cB)) (h2 : w.cell? ⟨gB, c, none⟩ = some (.slice aX X.length cX)) (hk : k < nK) (hc : c < nW) (hXl : X.length ≤ 3000) (hus : us.length = nW) (vs : List Value) (hvs : vs.length = nK) (hvk : Hid (vs[k]! = .slice (some ⟨gB, 0, none⟩) nW cB)) (cs : Array Value) (hcs : Hid (cs[4]? = some (.slice (some ⟨gA, 0, none⟩) nK cA))) (hCs : Hid (St ρ w .cols Cb 103 cs)) (hA : Hid (Row ρ w .reH 48 1 (.slice (some ⟨gA, 0, none⟩) nK cA) nK vs)) (hB : Hid (Row ρ w (.reK k) 38 1 (.slice (some ⟨gB, 0, none⟩) nW cB) nW us)) (hrow : Hid (NRow ρ w (.re k c) (.slice aX X.length cX) X)) (K : Act → World → Prop) (u0 u1 u2 u3 u4 u5 u7 u9 u10 u13 u14 u15 u16 u17 u18 u19 u20 u21 u22 u23 u24 u25 u26 u27 u28 u29 u30 u31 u32 u33 u34 u35 u36 u37 u38 u39 u40 u41 u42 u43 u44 u45 u46 u47 u48 u49 u50 u51 u52 u53 u54 u55 u56 u57 u58 u59 u60 u61 u62 u63 u64 u65 u66 u67 u68 u69 u70 u71 u72 u73 u74 u75 u76 u77 u78 u79 u80 u81 u82 u83 u84 u85 u86 u87 u88 u89 u90 u91 u92 u93 u94 u95 u96 u97 u98 u99 u100 u101 u102 u103 u104 u105 u106 u107 u108 u109 u110 u111 u112 u113 u114 u115 u116 u117 u118 u119 u120 u121 u122 u123 u124 u125 u126 u127 u128 u129 u130 u131 u132 u133 u134 u135 u136 u137 u138 u139 u140 u141 u142 u143 u144 u145 u146 u147 u148 u149 u150 u151 u152 u153 u154 u155 u156 u157 u158 u159 u160 u161 u162 u163 u164 u165 u166 u167 u168 u169 u170 u171 u172 u173 u174 u175 u176 u177 u178 u179 u180 u181 u182 u183 u184 u185 u186 u187 u188 u189 u190 u191 u192 u193 u194 u195 u196 u197 u198 u199 u200 u201 u202 u203 u204 u205 u206 u207 u208 u209 u210 u211 u212 u213 u214 u215 : Value)
    (hK : Hid (∀ (g' c' : Nat) (w9 : World) (x150 x151 x152 x153 x154 x155 x156 x157 x158 x159 x160 x161 x162 x163 x164 x165 x166 x167 x168 x169 x170 x171 : Value), Row (ext ρ w (.re k c)) w9 (.re k c) 3 1 (.slice (some ⟨g', 0, none⟩) (X.length + 1) c') (X.length + 1) (X.map nv ++ [.int .i64 (o : Nat)]) ∧ Stp (fun q => q = .re k c) ρ w (ext ρ w (.re k c)) w9 → K ⟨(u0 :: u1 :: u2 :: u3 :: u4 :: u5 :: .pointer (some ⟨Cb, 0, none⟩) :: u7 :: .int .i64 (c : Nat) :: u9 :: u10 :: .int .i64 (o : Nat) :: .int .i64 (k : Nat) :: u13 :: u14 :: u15 :: u16 :: u17 :: u18 :: u19 :: u20 :: u21 :: u22 :: u23 :: u24 :: u25 :: u26 :: u27 :: u28 :: u29 :: u30 :: u31 :: u32 :: u33 :: u34 :: u35 :: u36 :: u37 :: u38 :: u39 :: u40 :: u41 :: u42 :: u43 :: u44 :: u45 :: u46 :: u47 :: u48 :: u49 :: u50 :: u51 :: u52 :: u53 :: u54 :: u55 :: u56 :: u57 :: u58 :: u59 :: u60 :: u61 :: u62 :: u63 :: u64 :: u65 :: u66 :: u67 :: u68 :: u69 :: u70 :: u71 :: u72 :: u73 :: u74 :: u75 :: u76 :: u77 :: u78 :: u79 :: u80 :: u81 :: u82 :: u83 :: u84 :: u85 :: u86 :: u87 :: u88 :: u89 :: u90 :: u91 :: u92 :: u93 :: u94 :: u95 :: u96 :: u97 :: u98 :: u99 :: u100 :: u101 :: u102 :: u103 :: u104 :: u105 :: u106 :: u107 :: u108 :: u109 :: u110 :: u111 :: u112 :: u113 :: u114 :: u115 :: u116 :: u117 :: u118 :: u119 :: u120 :: u121 :: u122 :: u123 :: u124 :: u125 :: u126 :: u127 :: u128 :: u129 :: u130 :: u131 :: u132 :: u133 :: u134 :: u135 :: u136 :: u137 :: u138 :: u139 :: u140 :: u141 :: u142 :: u143 :: u144 :: u145 :: u146 :: u147 :: u148 :: u149 :: x150 :: x151 :: x152 :: x153 :: x154 :: x155 :: x156 :: x157 :: x158 :: x159 :: x160 :: x161 :: x162 :: x163 :: x164 :: x165 :: x166 :: x167 :: x168 :: x169 :: x170 :: x171 :: u172 :: u173 :: u174 :: u175 :: u176 :: u177 :: u178 :: u179 :: u180 :: u181 :: u182 :: u183 :: u184 :: u185 :: u186 :: u187 :: u188 :: u189 :: u190 :: u191 :: u192 :: u193 :: u194 :: u195 :: u196 :: u197 :: u198 :: u199 :: u200 :: u201 :: u202 :: u203 :: u204 :: u205 :: u206 :: u207 :: u208 :: u209 :: u210 :: u211 :: u212 :: u213 :: u214 :: u215 :: []).toArray, []⟩ (w9.setCell ⟨gB, c, none⟩ (.slice (some ⟨g', 0, none⟩) (X.length + 1) c')))) :
    Code.wp Yba.prog (regOf Yba.f33 23) (Exit.then K (fun _ _ _ => False)) ⟨(u0 :: u1 :: u2 :: u3 :: u4 :: u5 :: .pointer (some ⟨Cb, 0, none⟩) :: u7 :: .int .i64 (c : Nat) :: u9 :: u10 :: .int .i64 (o : Nat) :: .int .i64 (k : Nat) :: u13 :: u14 :: u15 :: u16 :: u17 :: u18 :: u19 :: u20 :: u21 :: u22 :: u23 :: u24 :: u25 :: u26 :: u27 :: u28 :: u29 :: u30 :: u31 :: u32 :: u33 :: u34 :: u35 :: u36 :: u37 :: u38 :: u39 :: u40 :: u41 :: u42 :: u43 :: u44 :: u45 :: u46 :: u47 :: u48 :: u49 :: u50 :: u51 :: u52 :: u53 :: u54 :: u55 :: u56 :: u57 :: u58 :: u59 :: u60 :: u61 :: u62 :: u63 :: u64 :: u65 :: u66 :: u67 :: u68 :: u69 :: u70 :: u71 :: u72 :: u73 :: u74 :: u75 :: u76 :: u77 :: u78 :: u79 :: u80 :: u81 :: u82 :: u83 :: u84 :: u85 :: u86 :: u87 :: u88 :: u89 :: u90 :: u91 :: u92 :: u93 :: u94 :: u95 :: u96 :: u97 :: u98 :: u99 :: u100 :: u101 :: u102 :: u103 :: u104 :: u105 :: u106 :: u107 :: u108 :: u109 :: u110 :: u111 :: u112 :: u113 :: u114 :: u115 :: u116 :: u117 :: u118 :: u119 :: u120 :: u121 :: u122 :: u123 :: u124 :: u125 :: u126 :: u127 :: u128 :: u129 :: u130 :: u131 :: u132 :: u133 :: u134 :: u135 :: u136 :: u137 :: u138 :: u139 :: u140 :: u141 :: u142 :: u143 :: u144 :: u145 :: u146 :: u147 :: u148 :: u149 :: u150 :: u151 :: u152 :: u153 :: u154 :: u155 :: u156 :: u157 :: u158 :: u159 :: u160 :: u161 :: u162 :: u163 :: u164 :: u165 :: u166 :: u167 :: u168 :: u169 :: u170 :: u171 :: u172 :: u173 :: u174 :: u175 :: u176 :: u177 :: u178 :: u179 :: u180 :: u181 :: u182 :: u183 :: u184 :: u185 :: u186 :: u187 :: u188 :: u189 :: u190 :: u191 :: u192 :: u193 :: u194 :: u195 :: u196 :: u197 :: u198 :: u199 :: u200 :: u201 :: u202 :: u203 :: u204 :: u205 :: u206 :: u207 :: u208 :: u209 :: u210 :: u211 :: u212 :: u213 :: u214 :: u215 :: []).toArray, []⟩ w := by
  conv => arg 2; whnf
  have a0 := fun o => cell?_alloc_old o h0
  have a1 := fun o => cell?_alloc_old o h1
  have a2 := fun o => cell?_alloc_old o h2
  have ix1 := fun wx => idx101 (b := gA) (c := cA) hk wx
  have ix2 := fun wx => idx48 (b := gB) (c := cB) hc wx
  refine wp_region_S (fun wx => wx.cell? ⟨Cb, 4, none⟩ = some (.slice (some ⟨gA, 0, none⟩) nK cA) ∧ wx.cell? ⟨gA, k, none⟩ = some (.slice (some ⟨gB, 0, none⟩) nW cB) ∧ wx.cell? ⟨gB, c, none⟩ = some (.slice aX X.length cX)) 22 (by as_aux_lemma => kernel_rfl) ?_
  have hS0 : (fun wx => wx.cell? ⟨Cb, 4, none⟩ = some (.slice (some ⟨gA, 0, none⟩) nK cA) ∧ wx.cell? ⟨gA, k, none⟩ = some (.slice (some ⟨gB, 0, none⟩) nW cB) ∧ wx.cell? ⟨gB, c, none⟩ = some (.slice aX X.length cX)) w.drew := ⟨h0, h1, h2⟩
  have huc : Hid (us[c]! = .slice aX X.length cX) := by
    have h3 := hB.out.cell1 hc hus
    rw [h2] at h3
    exact (Option.some.inj h3).symm
  have hS1 : ∀ o, (fun wx => wx.cell? ⟨Cb, 4, none⟩ = some (.slice (some ⟨gA, 0, none⟩) nK cA) ∧ wx.cell? ⟨gA, k, none⟩ = some (.slice (some ⟨gB, 0, none⟩) nW cB) ∧ wx.cell? ⟨gB, c, none⟩ = some (.slice aX X.length cX)) (w.alloc o).drew := fun o => ⟨a0 o, a1 o, a2 o⟩
  refine wpS_take (i := 0) (v := ?_) rfl (by as_aux_lemma => kernel_rfl) (by as_aux_lemma => kernel_rfl) (by as_aux_lemma => kernel_rfl) (by as_aux_lemma => kernel_rfl) (fun _ _ _ h => h) (Or.inl ⟨by rfl, fun wx hSx => ?_⟩) hS0 ?_
  rotate_left
  · obtain ⟨t1, t2, t3⟩ := hSx
    first | (go_simp; done) | (go_simp; with_reducible rfl)
  simp only [Act.put, List.setIfInBounds_toArray, List.set_cons_zero, List.set_cons_succ]
  refine wpS_take (i := 1) (v := ?_) rfl (by as_aux_lemma => kernel_rfl) (by as_aux_lemma => kernel_rfl) (by as_aux_lemma => kernel_rfl) (by as_aux_lemma => kernel_rfl) (fun _ _ _ h => h) (Or.inl ⟨by rfl, fun wx hSx => ?_⟩) hS0 ?_
  rotate_left
  · obtain ⟨t1, t2, t3⟩ := hSx
    first | (go_simp; done) | (go_simp; with_reducible rfl)
  simp only [Act.put, List.setIfInBounds_toArray, List.set_cons_zero, List.set_cons_succ]
  refine wpS_take (i := 2) (v := ?_) rfl (by as_aux_lemma => kernel_rfl) (by as_aux_lemma => kernel_rfl) (by as_aux_lemma => kernel_rfl) (by as_aux_lemma => kernel_rfl) (fun _ _ _ h => h) (Or.inl ⟨by rfl, fun wx hSx => ?_⟩) hS0 ?_
  rotate_left
  · obtain ⟨t1, t2, t3⟩ := hSx
    first | (go_simp; done) | (go_simp; with_reducible rfl)
  simp only [Act.put, List.setIfInBounds_toArray, List.set_cons_zero, List.set_cons_succ]
  refine wpS_take (i := 3) (v := ?_) rfl (by as_aux_lemma => kernel_rfl) (by as_aux_lemma => kernel_rfl) (by as_aux_lemma => kernel_rfl) (by as_aux_lemma => kernel_rfl) (fun _ _ _ h => h) (Or.inl ⟨by rfl, fun wx hSx => ?_⟩) hS0 ?_
  rotate_left
  · obtain ⟨t1, t2, t3⟩ := hSx
    first | (go_simp; done) | (go_simp; with_reducible rfl)
  simp only [Act.put, List.setIfInBounds_toArray, List.set_cons_zero, List.set_cons_succ]
  refine wpS_take (i := 4) (v := ?_) rfl (by as_aux_lemma => kernel_rfl) (by as_aux_lemma => kernel_rfl) (by as_aux_lemma => kernel_rfl) (by as_aux_lemma => kernel_rfl) (fun _ _ _ h => h) (Or.inl ⟨by rfl, fun wx hSx => ?_⟩) hS0 ?_
  rotate_left
  · obtain ⟨t1, t2, t3⟩ := hSx
    first | (go_simp; done) | (go_simp; with_reducible rfl)
  simp only [Act.put, List.setIfInBounds_toArray, List.set_cons_zero, List.set_cons_succ]
  refine wpS_take (i := 5) (v := ?_) rfl (by as_aux_lemma => kernel_rfl) (by as_aux_lemma => kernel_rfl) (by as_aux_lemma => kernel_rfl) (by as_aux_lemma => kernel_rfl) (fun _ _ _ h => h) (Or.inl ⟨by rfl, fun wx hSx => ?_⟩) hS0 ?_
  rotate_left
  · obtain ⟨t1, t2, t3⟩ := hSx
    first | (go_simp; done) | (go_simp; with_reducible rfl)
  simp only [Act.put, List.setIfInBounds_toArray, List.set_cons_zero, List.set_cons_succ]
  refine wpS_take (i := 6) (v := ?_) rfl (by as_aux_lemma => kernel_rfl) (by as_aux_lemma => kernel_rfl) (by as_aux_lemma => kernel_rfl) (by as_aux_lemma => kernel_rfl) (fun _ _ _ h => h) (Or.inl ⟨by rfl, fun wx hSx => ?_⟩) hS0 ?_
  rotate_left
  · obtain ⟨t1, t2, t3⟩ := hSx
    first | (go_simp; done) | (go_simp; with_reducible rfl)
  simp only [Act.put, List.setIfInBounds_toArray, List.set_cons_zero, List.set_cons_succ]
  refine wpS_take (i := 7) (v := ?_) rfl (by as_aux_lemma => kernel_rfl) (by as_aux_lemma => kernel_rfl) (by as_aux_lemma => kernel_rfl) (by as_aux_lemma => kernel_rfl) (fun _ _ _ h => h) (Or.inl ⟨by rfl, fun wx hSx => ?_⟩) hS0 ?_
  rotate_left
  · obtain ⟨t1, t2, t3⟩ := hSx
    first | (go_simp; done) | (go_simp; with_reducible rfl)
  simp only [Act.put, List.setIfInBounds_toArray, List.set_cons_zero, List.set_cons_succ]
  refine wpS_take (i := 8) (v := ?_) rfl (by as_aux_lemma => kernel_rfl) (by as_aux_lemma => kernel_rfl) (by as_aux_lemma => kernel_rfl) (by as_aux_lemma => kernel_rfl) (fun _ _ _ h => h) (Or.inl ⟨by rfl, fun wx hSx => ?_⟩) hS0 ?_
  rotate_left
  · obtain ⟨t1, t2, t3⟩ := hSx
    first | (go_simp; done) | (go_simp; with_reducible rfl)
  simp only [Act.put, List.setIfInBounds_toArray, List.set_cons_zero, List.set_cons_succ]
  refine wpS_take (i := 9) (v := ?_) rfl (by as_aux_lemma => kernel_rfl) (by as_aux_lemma => kernel_rfl) (by as_aux_lemma => kernel_rfl) (by as_aux_lemma => kernel_rfl) (fun _ _ _ h => h) (Or.inl ⟨by rfl, fun wx hSx => ?_⟩) hS0 ?_
  rotate_left
  · obtain ⟨t1, t2, t3⟩ := hSx
    first | (go_simp; done) | (go_simp; with_reducible rfl)
  simp only [Act.put, List.setIfInBounds_toArray, List.set_cons_zero, List.set_cons_succ]
  refine wpS_take (i := 10) (v := ?_) rfl (by as_aux_lemma => kernel_rfl) (by as_aux_lemma => kernel_rfl) (by as_aux_lemma => kernel_rfl) (by as_aux_lemma => kernel_rfl) (fun _ _ _ h => h) (Or.inl ⟨by rfl, fun wx hSx => ?_⟩) hS0 ?_
  rotate_left
  · obtain ⟨t1, t2, t3⟩ := hSx
    first | (go_simp; done) | (go_simp; with_reducible rfl)
  simp only [Act.put, List.setIfInBounds_toArray, List.set_cons_zero, List.set_cons_succ]
  refine wpS_take (i := 11) (v := ?_) rfl (by as_aux_lemma => kernel_rfl) (by as_aux_lemma => kernel_rfl) (by as_aux_lemma => kernel_rfl) (by as_aux_lemma => kernel_rfl) (fun _ _ _ h => h) (Or.inl ⟨by rfl, fun wx hSx => ?_⟩) hS0 ?_
  rotate_left
  · obtain ⟨t1, t2, t3⟩ := hSx
    first | (go_simp; done) | (go_simp; with_reducible rfl)
  simp only [Act.put, List.setIfInBounds_toArray, List.set_cons_zero, List.set_cons_succ]
  refine wpS_take (i := 12) (v := ?_) rfl (by as_aux_lemma => kernel_rfl) (by as_aux_lemma => kernel_rfl) (by as_aux_lemma => kernel_rfl) (by as_aux_lemma => kernel_rfl) (fun _ _ _ h => h) (Or.inl ⟨by rfl, fun wx hSx => ?_⟩) hS0 ?_
  rotate_left
  · obtain ⟨t1, t2, t3⟩ := hSx
    first | (go_simp; done) | (go_simp; with_reducible rfl)
  simp only [Act.put, List.setIfInBounds_toArray, List.set_cons_zero, List.set_cons_succ]
  refine wpS_take (i := 13) (v := ?_) rfl (by as_aux_lemma => kernel_rfl) (by as_aux_lemma => kernel_rfl) (by as_aux_lemma => kernel_rfl) (by as_aux_lemma => kernel_rfl) (fun _ _ _ h => h) (Or.inl ⟨by rfl, fun wx hSx => ?_⟩) hS0 ?_
  rotate_left
  · obtain ⟨t1, t2, t3⟩ := hSx
    first | (go_simp; done) | (go_simp; with_reducible rfl)
  simp only [Act.put, List.setIfInBounds_toArray, List.set_cons_zero, List.set_cons_succ]
  refine wpS_take (i := 14) (v := ?_) rfl (by as_aux_lemma => kernel_rfl) (by as_aux_lemma => kernel_rfl) (by as_aux_lemma => kernel_rfl) (by as_aux_lemma => kernel_rfl) (fun _ _ _ h => h) (Or.inl ⟨by rfl, fun wx hSx => ?_⟩) hS0 ?_
  rotate_left
  · obtain ⟨t1, t2, t3⟩ := hSx
    first | (go_simp; done) | (go_simp; with_reducible rfl)
  simp only [Act.put, List.setIfInBounds_toArray, List.set_cons_zero, List.set_cons_succ]
  refine wpS_take (i := 15) (v := ?_) rfl (by as_aux_lemma => kernel_rfl) (by as_aux_lemma => kernel_rfl) (by as_aux_lemma => kernel_rfl) (by as_aux_lemma => kernel_rfl) (fun _ _ _ h => h) (Or.inl ⟨by rfl, fun wx hSx => ?_⟩) hS0 ?_
  rotate_left
  · obtain ⟨t1, t2, t3⟩ := hSx
    first | (go_simp; done) | (go_simp; with_reducible rfl)
  simp only [Act.put, List.setIfInBounds_toArray, List.set_cons_zero, List.set_cons_succ]
  refine wpS_take (i := 16) (v := ?_) rfl (by as_aux_lemma => kernel_rfl) (by as_aux_lemma => kernel_rfl) (by as_aux_lemma => kernel_rfl) (by as_aux_lemma => kernel_rfl) (fun _ _ _ h => h) (Or.inl ⟨by rfl, fun wx hSx => ?_⟩) hS0 ?_
  rotate_left
  · obtain ⟨t1, t2, t3⟩ := hSx
    first | (go_simp; done) | (go_simp; with_reducible rfl)
  simp only [Act.put, List.setIfInBounds_toArray, List.set_cons_zero, List.set_cons_succ]
  refine wpS_take (i := 17) (v := ?_) rfl (by as_aux_lemma => kernel_rfl) (by as_aux_lemma => kernel_rfl) (by as_aux_lemma => kernel_rfl) (by as_aux_lemma => kernel_rfl) (fun _ _ _ h => h) (Or.inl ⟨by rfl, fun wx hSx => ?_⟩) hS0 ?_
  rotate_left
  · obtain ⟨t1, t2, t3⟩ := hSx
    first | (go_simp; done) | (go_simp; with_reducible rfl)
  simp only [Act.put, List.setIfInBounds_toArray, List.set_cons_zero, List.set_cons_succ]
  refine wpS_take (i := 18) (v := ?_) rfl (by as_aux_lemma => kernel_rfl) (by as_aux_lemma => kernel_rfl) (by as_aux_lemma => kernel_rfl) (by as_aux_lemma => kernel_rfl) (fun _ _ _ h => h) (Or.inl ⟨by rfl, fun wx hSx => ?_⟩) hS0 ?_
  rotate_left
  · obtain ⟨t1, t2, t3⟩ := hSx
    first | (go_simp; done) | (go_simp; with_reducible rfl)
  simp only [Act.put, List.setIfInBounds_toArray, List.set_cons_zero, List.set_cons_succ]
  refine wpS_one (i := 19) rfl (by as_aux_lemma => kernel_rfl) (fun K1 hK1 => ?_)
  go_simp
  refine hK1.out _ _ (fun _ => hS1 _) ?_
  clear hK1 K1
  refine wpS_one (i := 20) rfl (by as_aux_lemma => kernel_rfl) (fun K1 hK1 => ?_)
  refine step_app (ρ := ρ) w _ (by rfl) _ _ _ (by rfl) (.re k c) 3 _ 1 8 Yba.underlying38 info3 rfl (by omega) (.slice aX X.length cX) X.length (X.map nv) (by rfl) hrow.out ((Below.refl _ w).alloc (Nat.le_refl _) _).drew w.heap.size #[.int .i64 (o : Nat)] (0, 0) (heap_alloc_new w _) (by rfl) rfl (by simp [Value.oneCell']) (by omega) (by omega) ?_
  intro g9 c9 w9 hr9 hs9
  have hb9 := hB.out.keep hs9 (by simp)
  have k9 := hb9.cell1 hc hus
  have f9 := Row.free hb9 c
  have m0 : w9.cell? ⟨Cb, 4, none⟩ = some (.slice (some ⟨gA, 0, none⟩) nK cA) := (hCs.out.keep hs9 (by simp)).cell 4 hcs.out
  have m1 : w9.cell? ⟨gA, k, none⟩ = some (.slice (some ⟨gB, 0, none⟩) nW cB) := (by rw [(hA.out.keep hs9 (by simp)).cell1 hk hvs, hvk.out])
  have H9 := hide (And.intro hr9 hs9)
  clear hr9 hs9 hb9
  have hS5 : (fun wx => wx.cell? ⟨Cb, 4, none⟩ = some (.slice (some ⟨gA, 0, none⟩) nK cA) ∧ wx.cell? ⟨gA, k, none⟩ = some (.slice (some ⟨gB, 0, none⟩) nW cB) ∧ wx.cell? ⟨gB, c, none⟩ = some (.slice aX X.length cX)) w9 := ⟨m0, m1, by rw [k9, huc.out]⟩
  refine hK1.out _ _ (fun _ => hS5) ?_
  clear hK1 K1
  simp only [Act.put, List.setIfInBounds_toArray, List.set_cons_zero, List.set_cons_succ]
  refine wpS_take (i := 21) (v := ?_) rfl (by as_aux_lemma => kernel_rfl) (by as_aux_lemma => kernel_rfl) (by as_aux_lemma => kernel_rfl) (by as_aux_lemma => kernel_rfl) (fun _ _ _ h => h) (Or.inl ⟨by rfl, fun wx hSx => ?_⟩) hS5 ?_
  rotate_left
  · obtain ⟨t1, t2, t3⟩ := hSx
    first | (go_simp; done) | (go_simp; with_reducible rfl)
  simp only [Act.put, List.setIfInBounds_toArray, List.set_cons_zero, List.set_cons_succ]
  clear hS0 hS5 hS1
  refine wpS_one (i := 22) rfl (by as_aux_lemma => kernel_rfl) (fun K1 hK1 => ?_)
  go_simp
  refine hK1.out _ _ (fun h => absurd rfl h) ?_
  clear hK1 K1
  refine wpS_done (by as_aux_lemma => kernel_rfl) ?_ _
  exact hK.out _ _ _ _ _ _ _ _ _ _ _ _ _ _ _ _ _ _ _ _ _ _ _ _ _ H9.out
end Go.Proofs.Ybulknju
