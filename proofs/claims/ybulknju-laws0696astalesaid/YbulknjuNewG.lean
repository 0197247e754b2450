import Derived.Test.YbulknjuLayP
namespace Go.Proofs.Ybulknju
open Go.RowKit

/-- Two new header rows and the struct, the rows laid in whatever order. -/
theorem gr_start (ρ : Rho) (w : World) (n a b : Nat) (hn : n ≤ maxLen) (ha : w.heap.size ≤ a ∧ a < w.heap.size + 2) (hb : w.heap.size ≤ b ∧ b < w.heap.size + 2) (h : a ≠ b) (w' : World)
    (hw : w'.heap = (((w.alloc (.cells (madeCells #[.slice none 0 0] n) 38)).alloc (.cells (madeCells #[.slice none 0 0] n) 38)).alloc (.cells #[.slice (some ⟨a, 0, none⟩) n n, .slice (some ⟨b, 0, none⟩) n n] 88)).heap)
    (h1 : w'.os = w.os) (h2 : w'.tape = w.tape) (h3 : w'.output = w.output) :
    ∃ ρ', Gr ρ' w' (w.heap.size + 2) (List.replicate n []) (List.replicate n []) (.slice (some ⟨a, 0, none⟩) n n) (.slice (some ⟨b, 0, none⟩) n n) ∧ Stp (fun _ => False) ρ w ρ' w' := by
  obtain ⟨Z, hZ⟩ : ∃ Z : Obj, Z = .cells (madeCells #[.slice none 0 0] n) 38 := ⟨_, rfl⟩
  rw [← hZ] at hw
  have hrow : ∀ x, w.heap.size ≤ x → x < w.heap.size + 2 → w'.heap[x]? = some Z := by
    intro x h5 h6
    have : x = w.heap.size ∨ x = w.heap.size + 1 := by omega
    rw [hw]
    rcases this with rfl | rfl
    · rw [Below.heap_alloc _ _ _ (by simp <;> omega), Below.heap_alloc _ _ _ (by simp)]; exact heap_alloc_new w Z
    · rw [Below.heap_alloc _ _ _ (by simp)]
      have := heap_alloc_new (w.alloc Z) Z
      rwa [show (w.alloc Z).heap.size = w.heap.size + 1 by simp] at this
  have hold : ∀ k, k < w.heap.size → w'.heap[k]? = w.heap[k]? := by
    intro k hk
    rw [hw, Below.heap_alloc _ _ _ (by simp <;> omega), Below.heap_alloc _ _ _ (by simp <;> omega), Below.heap_alloc _ _ _ hk]
  have hsz : w'.heap.size = w.heap.size + 3 := by rw [hw]; simp
  have frow : ∀ (ρ' : Rho) (r : Role) (rr : Nat → Role) (x : Nat), w.heap.size ≤ x → x < w.heap.size + 2 → ρ' x = r → Rag ρ' w' r rr (.slice (some ⟨x, 0, none⟩) n n) (List.replicate n []) := by
    intro ρ' r rr x h5 h6 h7
    refine ⟨List.replicate n (.slice none 0 0), by simp, ?_, fun i hi => ?_⟩
    · rw [List.length_replicate, ← toList_madeCells_one]
      refine ⟨⟨by rw [Array.length_toList, size_madeCells]; omega, .inr ⟨x, n, madeCells #[.slice none 0 0] n, rfl, Nat.zero_le _, by rw [hrow x h5 h6, hZ], Nat.le_refl _, hn, by rw [size_madeCells]; omega, ?_⟩⟩, fun k hk => by cases hk; exact h7⟩
      rw [Nat.mul_one, List.take_of_length_le (by rw [Array.length_toList, size_madeCells]; exact Nat.le_refl _)]
    · rw [List.length_replicate] at hi
      rw [getElem!_pos _ i (by simpa using hi), getElem!_pos _ i (by simpa using hi)]
      simp only [List.getElem_replicate]
      exact NRow.nil _ _ _
  let ρ' : Rho := fun k => if k < w.heap.size then ρ k else if k = a then .suH else if k = b then .prH else .gr
  refine ⟨ρ', ⟨⟨?_, ?_⟩, frow ρ' _ _ a ha.1 ha.2 ?_, frow ρ' _ _ b hb.1 hb.2 ?_⟩, ⟨h1, h2, h3, by omega, fun k hk _ => hold k hk, fun k hk => if_pos hk⟩⟩
  · rw [hw]
    have := heap_alloc_new ((w.alloc Z).alloc Z) (.cells #[.slice (some ⟨a, 0, none⟩) n n, .slice (some ⟨b, 0, none⟩) n n] 88)
    simpa using this
  · show (if w.heap.size + 2 < w.heap.size then _ else _) = _
    rw [if_neg (by omega), if_neg (by omega), if_neg (by omega)]
  · show (if a < w.heap.size then _ else _) = _
    rw [if_neg (by omega), if_pos rfl]
  · show (if b < w.heap.size then _ else _) = _
    rw [if_neg (by omega), if_neg (by omega), if_pos rfl]

def GNew (n : Nat) (ρ : Rho) (w : World) (G : Nat) (w' : World) : Prop := ∃ ρ' vs vp, Gr ρ' w' G (List.replicate n []) (List.replicate n []) vs vp ∧ Stp (fun _ => False) ρ w ρ' w'
theorem gnew_start (ρ : Rho) (w : World) (n a b : Nat) (hn : n ≤ maxLen) (ha : w.heap.size ≤ a ∧ a < w.heap.size + 2) (hb : w.heap.size ≤ b ∧ b < w.heap.size + 2) (h : a ≠ b) (w' : World)
    (hw : w'.heap = (((w.alloc (.cells (madeCells #[.slice none 0 0] n) 38)).alloc (.cells (madeCells #[.slice none 0 0] n) 38)).alloc (.cells #[.slice (some ⟨a, 0, none⟩) n n, .slice (some ⟨b, 0, none⟩) n n] 88)).heap)
    (h1 : w'.os = w.os) (h2 : w'.tape = w.tape) (h3 : w'.output = w.output) : GNew n ρ w (w.heap.size + 2) w' := by
  obtain ⟨ρ', a1, a2⟩ := gr_start ρ w n a b hn ha hb h w' hw h1 h2 h3
  exact ⟨ρ', _, _, a1, a2⟩
theorem GNew.drew {n : Nat} {ρ : Rho} {w : World} {G : Nat} {w' : World} (h : GNew n ρ w G w') : GNew n ρ w G w'.drew := by
  obtain ⟨ρ', vs, vp, h1, h2⟩ := h
  exact ⟨ρ', vs, vp, h1.keep ((Stp.refl (fun _ => False) ρ' w').drewN 1) (fun h => h) (fun h => h) (fun _ h => h) (fun h => h) (fun _ h => h), h2.drewN 1⟩
set_option maxHeartbeats 1000000 in
theorem newGraph_any (n : Nat) (hn : n ≤ 3000) (ρ : Rho) (w : World) : Calls Yba.prog 13 #[.int .i64 n] w fun e w' => ∃ G, e = .returned (.pointer (some ⟨G, 0, none⟩)) ∧ GNew n ρ w G w' := by
  have hmk := run_make_row' (P := Yba.prog) 48 38 (.slice none 0 0) 24 Yba.underlying48 info38 rfl .i64 .i64 n (by omega) (by omega)
  go_enter Yba.func13, Yba.ntmps13
  go_upto_region 1 with fail
  go_region
  all_goals
    go_wp2
    go_ret
    exact ⟨_, rfl, gnew_start ρ w n _ _ (by unfold maxLen; omega) (by omega) (by omega) (by omega) _ rfl rfl rfl rfl⟩
end Go.Proofs.Ybulknju
