import Derived.Test.YbulknjuCrw
namespace Go.Proofs.Ybulknju
open Go.RowKit

/-- The columns as they are made first. -/
structure C0 (ρ : Rho) (w : World) (n nK : Nat) (vp : Value) (Cb gof gat gL : Nat) (ρr : Rho) (wr : World) : Prop where
  st : St ρr wr .cols Cb 103 #[.slice (some ⟨gof, 0, none⟩) n n, .slice (some ⟨gat, 0, none⟩) n n, vp, .slice none 0 0, .slice none 0 0, .slice (some ⟨gL, 0, none⟩) nK nK]
  of : FRow ρr wr .cof (.slice (some ⟨gof, 0, none⟩) n n) n (fun _ => 0)
  pos : FRow ρr wr .cat (.slice (some ⟨gat, 0, none⟩) n n) n (fun _ => 0)
  lo : Row ρr wr .loH 38 1 (.slice (some ⟨gL, 0, none⟩) nK nK) nK (List.replicate nK (.slice none 0 0))
  stp : Stp (fun _ => False) ρ w ρr wr
theorem frow_blk {w : World} {g n : Nat} (hn : n ≤ maxLen) (h : w.heap[g]? = some (Obj.cells (madeCells #[.int .i64 0] n) 3)) : w.ownsRow 0 3 1 (.slice (some ⟨g, 0, none⟩) n n) n ((List.range n).map fun _ => .int .i64 0) := by
  refine ⟨by simp, .inr ⟨g, n, madeCells #[.int .i64 0] n, rfl, Nat.zero_le _, h, Nat.le_refl _, hn, by rw [size_madeCells]; omega, ?_⟩⟩
  rw [toList_madeCells_one, Nat.mul_one, List.take_of_length_le (by simp)]
  apply List.ext_getElem (by simp); intro i h1 h2; simp
theorem nrow_blk {w : World} {g n : Nat} (hn : n ≤ maxLen) (h : w.heap[g]? = some (Obj.cells (madeCells #[.slice none 0 0] n) 38)) : w.ownsRow 0 38 1 (.slice (some ⟨g, 0, none⟩) n n) n (List.replicate n (.slice none 0 0)) := by
  refine ⟨by simp, .inr ⟨g, n, madeCells #[.slice none 0 0] n, rfl, Nat.zero_le _, h, Nat.le_refl _, hn, by rw [size_madeCells]; omega, ?_⟩⟩
  rw [toList_madeCells_one, Nat.mul_one, List.take_of_length_le (by simp)]
theorem c0_start (ρ : Rho) (w : World) (n nK a b l Cb : Nat) (vp : Value) (hn : n ≤ 3000) (hk : nK ≤ 3000) (w' : World) (ha : w'.heap[a]? = some (Obj.cells (madeCells #[.int .i64 0] n) 3)) (hb : w'.heap[b]? = some (Obj.cells (madeCells #[.int .i64 0] n) 3)) (hl : w'.heap[l]? = some (Obj.cells (madeCells #[.slice none 0 0] nK) 38))
    (hC : w'.heap[Cb]? = some (.cells #[.slice (some ⟨a, 0, none⟩) n n, .slice (some ⟨b, 0, none⟩) n n, vp, .slice none 0 0, .slice none 0 0, .slice (some ⟨l, 0, none⟩) nK nK] 103)) (hold : ∀ k, k < w.heap.size → w'.heap[k]? = w.heap[k]?) (hsz : w.heap.size ≤ w'.heap.size) (h1 : w'.os = w.os) (h2 : w'.tape = w.tape) (h3 : w'.output = w.output)
    (hr : w.heap.size ≤ a ∧ w.heap.size ≤ b ∧ w.heap.size ≤ l ∧ w.heap.size ≤ Cb) (hd : a ≠ b ∧ a ≠ l ∧ a ≠ Cb ∧ b ≠ l ∧ b ≠ Cb ∧ l ≠ Cb) :
    ∃ ρ', C0 ρ w n nK vp Cb a b l ρ' w' := by
  refine ⟨fun k => if k < w.heap.size then ρ k else if k = a then .cof else if k = b then .cat else if k = l then .loH else .cols, ⟨hC, ?_⟩, ⟨frow_blk (by unfold maxLen; omega) ha, ?_⟩, ⟨frow_blk (by unfold maxLen; omega) hb, ?_⟩, ⟨nrow_blk (by unfold maxLen; omega) hl, ?_⟩, ⟨h1, h2, h3, hsz, fun k hk _ => hold k hk, fun k hk => by simp [hk]⟩⟩
  · rw [if_neg (by omega), if_neg (Ne.symm hd.2.2.1), if_neg (Ne.symm hd.2.2.2.2.1), if_neg (Ne.symm hd.2.2.2.2.2)]
  · intro k hk; cases hk; simp only; rw [if_neg (by omega), if_pos trivial]
  · intro k hk; cases hk; simp only; rw [if_neg (by omega), if_neg (Ne.symm hd.1), if_pos trivial]
  · intro k hk; cases hk; simp only; rw [if_neg (by omega), if_neg (Ne.symm hd.2.1), if_neg (Ne.symm hd.2.2.2.1), if_pos trivial]
theorem al3_0 (w : World) (A B C : Obj) : (((w.alloc A).alloc B).alloc C).heap[w.heap.size]? = some A := by
  rw [Below.heap_alloc _ _ _ (by simp <;> omega), Below.heap_alloc _ _ _ (by simp)]; exact heap_alloc_new w A
theorem al3_1 (w : World) (A B C : Obj) : (((w.alloc A).alloc B).alloc C).heap[w.heap.size + 1]? = some B := by
  rw [Below.heap_alloc _ _ _ (by simp)]
  have h : w.heap.size + 1 = (w.alloc A).heap.size := by simp
  rw [h]; exact heap_alloc_new _ B
theorem al3_2 (w : World) (A B C : Obj) : (((w.alloc A).alloc B).alloc C).heap[w.heap.size + 1 + 1]? = some C := by
  have h : w.heap.size + 1 + 1 = ((w.alloc A).alloc B).heap.size := by simp
  rw [h]; exact heap_alloc_new _ C
theorem al3_old (w : World) (A B C : Obj) : ∀ k, k < w.heap.size → (((w.alloc A).alloc B).alloc C).heap[k]? = w.heap[k]? := fun k hk => by
  rw [Below.heap_alloc _ _ _ (by simp; omega), Below.heap_alloc _ _ _ (by simp; omega), Below.heap_alloc _ _ _ hk]
theorem c0_box (ρ : Rho) (w : World) (n nK a b l Cb : Nat) (vp : Value) (hn : n ≤ 3000) (hk : nK ≤ 3000) (w3 : World) (hCb : Cb = w3.heap.size) (ha : w3.heap[a]? = some (Obj.cells (madeCells #[.int .i64 0] n) 3)) (hb : w3.heap[b]? = some (Obj.cells (madeCells #[.int .i64 0] n) 3)) (hl : w3.heap[l]? = some (Obj.cells (madeCells #[.slice none 0 0] nK) 38))
    (hold : ∀ k, k < w.heap.size → w3.heap[k]? = w.heap[k]?) (hsz : w.heap.size ≤ w3.heap.size) (h1 : w3.os = w.os) (h2 : w3.tape = w.tape) (h3 : w3.output = w.output)
    (hr : w.heap.size ≤ a ∧ w.heap.size ≤ b ∧ w.heap.size ≤ l ∧ w.heap.size ≤ Cb) (hd : a ≠ b ∧ a ≠ l ∧ a ≠ Cb ∧ b ≠ l ∧ b ≠ Cb ∧ l ≠ Cb) :
    ∃ ρ', C0 ρ w n nK vp Cb a b l ρ' (w3.alloc (.cells #[.slice (some ⟨a, 0, none⟩) n n, .slice (some ⟨b, 0, none⟩) n n, vp, .slice none 0 0, .slice none 0 0, .slice (some ⟨l, 0, none⟩) nK nK] 103)).drew := by
  have hlt : ∀ {k : Nat} {o : Obj}, w3.heap[k]? = some o → k < w3.heap.size := fun h => lt_blk h
  refine c0_start ρ w n nK a b l Cb vp hn hk _ ?_ ?_ ?_ ?_ ?_ ?_ h1 h2 h3 hr hd
  · show (w3.alloc _).heap[a]? = _; rw [Below.heap_alloc _ _ _ (hlt ha)]; exact ha
  · show (w3.alloc _).heap[b]? = _; rw [Below.heap_alloc _ _ _ (hlt hb)]; exact hb
  · show (w3.alloc _).heap[l]? = _; rw [Below.heap_alloc _ _ _ (hlt hl)]; exact hl
  · show (w3.alloc _).heap[Cb]? = _; rw [hCb]; exact heap_alloc_new _ _
  · intro k hk'; show (w3.alloc _).heap[k]? = _; rw [Below.heap_alloc _ _ _ (by omega)]; exact hold k hk'
  · show _ ≤ (w3.alloc _).heap.size; simp; omega

set_option maxHeartbeats 4000000 in
set_option maxRecDepth 1000000 in
theorem reg33_2_any (Lb n nW nK cP : Nat) (aP : Option Addr) (ρ : Rho) (w : World) (hn : n ≤ 2000) (hK2 : nK ≤ 2000) (hk : w.cell? ⟨Lb, 1, none⟩ = some (.int .i64 (nK : Nat))) (K : Act → World → Prop) (u2 u3 u4 u6 u7 u8 u9 u10 u11 u12 u13 u14 u15 u16 u17 u18 u19 u20 u21 u22 u23 u24 u25 u26 u27 u28 u29 u30 u31 u32 u33 u34 u35 u36 u37 u38 u39 u40 u41 u42 u43 u44 u45 u46 u47 u48 u49 u50 u51 u52 u53 u54 u55 u56 u57 u58 u59 u60 u61 u62 u63 u64 u65 u66 u67 u68 u69 u70 u71 u72 u73 u74 u75 u76 u77 u78 u79 u80 u81 u82 u83 u84 u85 u86 u87 u88 u89 u90 u91 u92 u93 u94 u95 u96 u97 u98 u99 u100 u101 u102 u103 u104 u105 u106 u107 u108 u109 u110 u111 u112 u113 u114 u115 u116 u117 u118 u119 u120 u121 u122 u123 u124 u125 u126 u127 u128 u129 u130 u131 u132 u133 u134 u135 u136 u137 u138 u139 u140 u141 u142 u143 u144 u145 u146 u147 u148 u149 u150 u151 u152 u153 u154 u155 u156 u157 u158 u159 u160 u161 u162 u163 u164 u165 u166 u167 u168 u169 u170 u171 u172 u173 u174 u175 u176 u177 u178 u179 u180 u181 u182 u183 u184 u185 u186 u187 u188 u189 u190 u191 u192 u193 u194 u195 u196 u197 u198 u199 u200 u201 u202 u203 u204 u205 u206 u207 u208 u209 u210 u211 u212 u213 u214 u215 : Value)
    (hK : Hid (∀ (Cb : Nat) (wx : World) (x23 x24 x25 x26 x27 x28 x29 x30 x31 x32 x33 x34 : Value), (∃ gof gat gL ρ', C0 ρ w n nK (.slice aP nW cP) Cb gof gat gL ρ' wx) → K ⟨(.pointer (some ⟨Lb, 0, none⟩) :: .slice aP nW cP :: u2 :: u3 :: u4 :: .int .i64 n :: .pointer (some ⟨Cb, 0, none⟩) :: u7 :: u8 :: u9 :: u10 :: u11 :: u12 :: u13 :: u14 :: u15 :: u16 :: u17 :: u18 :: u19 :: u20 :: u21 :: u22 :: x23 :: x24 :: x25 :: x26 :: x27 :: x28 :: x29 :: x30 :: x31 :: x32 :: x33 :: x34 :: u35 :: u36 :: u37 :: u38 :: u39 :: u40 :: u41 :: u42 :: u43 :: u44 :: u45 :: u46 :: u47 :: u48 :: u49 :: u50 :: u51 :: u52 :: u53 :: u54 :: u55 :: u56 :: u57 :: u58 :: u59 :: u60 :: u61 :: u62 :: u63 :: u64 :: u65 :: u66 :: u67 :: u68 :: u69 :: u70 :: u71 :: u72 :: u73 :: u74 :: u75 :: u76 :: u77 :: u78 :: u79 :: u80 :: u81 :: u82 :: u83 :: u84 :: u85 :: u86 :: u87 :: u88 :: u89 :: u90 :: u91 :: u92 :: u93 :: u94 :: u95 :: u96 :: u97 :: u98 :: u99 :: u100 :: u101 :: u102 :: u103 :: u104 :: u105 :: u106 :: u107 :: u108 :: u109 :: u110 :: u111 :: u112 :: u113 :: u114 :: u115 :: u116 :: u117 :: u118 :: u119 :: u120 :: u121 :: u122 :: u123 :: u124 :: u125 :: u126 :: u127 :: u128 :: u129 :: u130 :: u131 :: u132 :: u133 :: u134 :: u135 :: u136 :: u137 :: u138 :: u139 :: u140 :: u141 :: u142 :: u143 :: u144 :: u145 :: u146 :: u147 :: u148 :: u149 :: u150 :: u151 :: u152 :: u153 :: u154 :: u155 :: u156 :: u157 :: u158 :: u159 :: u160 :: u161 :: u162 :: u163 :: u164 :: u165 :: u166 :: u167 :: u168 :: u169 :: u170 :: u171 :: u172 :: u173 :: u174 :: u175 :: u176 :: u177 :: u178 :: u179 :: u180 :: u181 :: u182 :: u183 :: u184 :: u185 :: u186 :: u187 :: u188 :: u189 :: u190 :: u191 :: u192 :: u193 :: u194 :: u195 :: u196 :: u197 :: u198 :: u199 :: u200 :: u201 :: u202 :: u203 :: u204 :: u205 :: u206 :: u207 :: u208 :: u209 :: u210 :: u211 :: u212 :: u213 :: u214 :: u215 :: []).toArray, []⟩ (wx))) :
    Code.wp Yba.prog (regOf Yba.f33 2) (Exit.then K (fun _ _ _ => False)) ⟨(.pointer (some ⟨Lb, 0, none⟩) :: .slice aP nW cP :: u2 :: u3 :: u4 :: .int .i64 n :: u6 :: u7 :: u8 :: u9 :: u10 :: u11 :: u12 :: u13 :: u14 :: u15 :: u16 :: u17 :: u18 :: u19 :: u20 :: u21 :: u22 :: u23 :: u24 :: u25 :: u26 :: u27 :: u28 :: u29 :: u30 :: u31 :: u32 :: u33 :: u34 :: u35 :: u36 :: u37 :: u38 :: u39 :: u40 :: u41 :: u42 :: u43 :: u44 :: u45 :: u46 :: u47 :: u48 :: u49 :: u50 :: u51 :: u52 :: u53 :: u54 :: u55 :: u56 :: u57 :: u58 :: u59 :: u60 :: u61 :: u62 :: u63 :: u64 :: u65 :: u66 :: u67 :: u68 :: u69 :: u70 :: u71 :: u72 :: u73 :: u74 :: u75 :: u76 :: u77 :: u78 :: u79 :: u80 :: u81 :: u82 :: u83 :: u84 :: u85 :: u86 :: u87 :: u88 :: u89 :: u90 :: u91 :: u92 :: u93 :: u94 :: u95 :: u96 :: u97 :: u98 :: u99 :: u100 :: u101 :: u102 :: u103 :: u104 :: u105 :: u106 :: u107 :: u108 :: u109 :: u110 :: u111 :: u112 :: u113 :: u114 :: u115 :: u116 :: u117 :: u118 :: u119 :: u120 :: u121 :: u122 :: u123 :: u124 :: u125 :: u126 :: u127 :: u128 :: u129 :: u130 :: u131 :: u132 :: u133 :: u134 :: u135 :: u136 :: u137 :: u138 :: u139 :: u140 :: u141 :: u142 :: u143 :: u144 :: u145 :: u146 :: u147 :: u148 :: u149 :: u150 :: u151 :: u152 :: u153 :: u154 :: u155 :: u156 :: u157 :: u158 :: u159 :: u160 :: u161 :: u162 :: u163 :: u164 :: u165 :: u166 :: u167 :: u168 :: u169 :: u170 :: u171 :: u172 :: u173 :: u174 :: u175 :: u176 :: u177 :: u178 :: u179 :: u180 :: u181 :: u182 :: u183 :: u184 :: u185 :: u186 :: u187 :: u188 :: u189 :: u190 :: u191 :: u192 :: u193 :: u194 :: u195 :: u196 :: u197 :: u198 :: u199 :: u200 :: u201 :: u202 :: u203 :: u204 :: u205 :: u206 :: u207 :: u208 :: u209 :: u210 :: u211 :: u212 :: u213 :: u214 :: u215 :: []).toArray, []⟩ w := by
  conv => arg 2; whnf
  have hmk := run_make_row' (P := Yba.prog) 38 3 (.int .i64 0) 8 Yba.underlying38 info3 rfl .i64 .i64 n (by omega) (by omega)
  have hmk2 := run_make_row' (P := Yba.prog) 48 38 (.slice none 0 0) 24 Yba.underlying48 info38 rfl .i64 .i64 nK (by omega) (by omega)
  have hka := fun o => cell?_alloc_old o hk
  have hkb := fun o o' => cell?_alloc_old o' (hka o)
  go_region
  all_goals
    refine hK.out _ _ _ _ _ _ _ _ _ _ _ _ _ _ ?_
    refine ⟨_, _, _, c0_box ρ w n nK _ _ _ _ _ (by omega) (by omega) _ (by simp) ?_ ?_ ?_ ?_ (by simp; try omega) rfl rfl rfl (by omega) (by omega)⟩
  all_goals first | exact al3_0 _ _ _ _ | exact al3_1 _ _ _ _ | exact al3_2 _ _ _ _ | exact al3_old _ _ _ _

end Go.Proofs.Ybulknju
