import Derived.Test.YbulknjuPlE
namespace Go.Proofs.Ybulknju

theorem stale_bp {s : BS} (h : Bp s.O s.P) : Bp s.stale.O s.stale.P := ((h.add (by omega) _).add (by omega) _).add (by omega) _
theorem stale_P0 (s : BS) : s.stale.P 0 = s.P 0 ++ [s.O.length, s.O.length + 1, s.O.length + 2] := by
  simp [BS.stale, BS.add, upd]
theorem stale_Pp (s : BS) {p : Nat} (hp : p ≠ 0) : s.stale.P p = s.P p := by
  simp [BS.stale, BS.add, upd, hp]
theorem qs_head {P : Nat → List Nat} (h : P 0 ≠ []) : 0 < (qs P 3).length ∧ (qs P 3)[0]! = 0 := by
  have e : qs P 3 = 0 :: (List.filter (fun p => decide (P p ≠ [])) [1, 2]) := by
    unfold qs
    show List.filter _ [0, 1, 2] = _
    rw [List.filter_cons, if_pos (by simpa using h)]
  rw [e]
  exact ⟨by simp, rfl⟩
theorem stale_chain (s : BS) : 0 < ((qs s.stale.P 3).map s.stale.P).length ∧ ((qs s.stale.P 3).map s.stale.P)[0]! = s.P 0 ++ [s.O.length, s.O.length + 1, s.O.length + 2] := by
  obtain ⟨h1, h2⟩ := qs_head (P := s.stale.P) (by rw [stale_P0]; simp)
  exact ⟨by rw [List.length_map]; exact h1, by rw [map_at _ _ h1, h2, stale_P0]⟩
theorem app3_at (l : List Nat) (a b c : Nat) : (l ++ [a, b, c])[l.length]! = a ∧ (l ++ [a, b, c])[l.length + 1]! = b ∧ (l ++ [a, b, c])[l.length + 2]! = c := by
  refine ⟨?_, ?_, ?_⟩
  · rw [getElem!_pos _ l.length (by simp), List.getElem_append_right (by omega)]; simp
  · rw [getElem!_pos _ (l.length + 1) (by simp), List.getElem_append_right (by omega)]; simp
  · rw [getElem!_pos _ (l.length + 2) (by simp), List.getElem_append_right (by omega)]; simp
theorem stale_rev (s : BS) : Rev ((qs s.stale.P 3).map s.stale.P) (s.O.length + 1) s.O.length ∧ Rev ((qs s.stale.P 3).map s.stale.P) (s.O.length + 2) (s.O.length + 1) := by
  obtain ⟨h1, h2⟩ := stale_chain s
  obtain ⟨e1, e2, e3⟩ := app3_at (s.P 0) s.O.length (s.O.length + 1) (s.O.length + 2)
  refine ⟨⟨0, (s.P 0).length, h1, by rw [h2]; simp, by rw [h2]; exact e1, by rw [h2]; exact e2⟩, ⟨0, (s.P 0).length + 1, h1, by rw [h2]; simp, by rw [h2]; exact e2, by rw [h2]; exact e3⟩⟩
/-- What the walk asks of a history: all of it. -/
structure Hist (O : List OpR) (P : Nat → List Nat) (hon : Bool) : Prop where
  col : Col O.length ((qs P 3).map P) (coP P) (poP P)
  lks : Lks O ((qs P 3).map P) hon
  edge : ∀ e ∈ edg O P, e.1 < e.2 ∧ e.2 < O.length
  kx : ∀ i, kxO O i < 2
  fr : ∀ r, r < O.length → (opAt O r).rd = true → (opAt O r).fr = -1 ∨ (0 ≤ (opAt O r).fr ∧ (opAt O r).fr < (O.length : Nat))
theorem kx_all {O : List OpR} (h : ∀ i, i < O.length → (opAt O i).kx < 2) : ∀ i, kxO O i < 2 := fun i => by
  unfold kxO
  rcases Nat.lt_or_ge i O.length with h1 | h1
  · exact h i h1
  · rw [opAt_neg O i (by omega)]; decide
theorem hist_sound {s : BS} (h : Bi s) (hs : ∀ p, (s.P p).length ≤ 3000) : Hist s.O s.P true := by
  refine ⟨col_of h.bp hs, lks_true _ h.src, edg_lt h.bp (fun r t hr hrd he ht => last_src hrd (h.src r hr hrd) he ht) (fun r hr hrd => (LkR.last (H := []) (hon := true) hr hrd (h.src r hr hrd)).src.1), kx_all h.kx, fun r hr hrd => ?_⟩
  rcases h.src r hr hrd with ⟨h1, _⟩ | ⟨w, h1, h2, _⟩
  · exact .inl h1
  · exact .inr ⟨by omega, by omega⟩
theorem hist_stale {s : BS} (h : Bi s) (hs : ∀ p, (s.stale.P p).length ≤ 3000) : Hist s.stale.O s.stale.P false := by
  obtain ⟨a0, a1, a2, a3⟩ := stale_at (s := s)
  have hl := stale_len s
  obtain ⟨v1, v2⟩ := stale_rev s
  have hlk := lks_stale h _ v1 v2
  have hcase : ∀ r, r < s.stale.O.length → (opAt s.stale.O r).rd = true → LastW s.stale.O r (opAt s.stale.O r).kx (opAt s.stale.O r).fr ∨ r = s.O.length + 2 := fun r hr hrd => by
    rw [hl] at hr
    rcases Nat.lt_or_ge r s.O.length with h1 | h1
    · left
      rw [a0 r h1] at hrd ⊢
      rw [stale_O]
      exact (((h.src r h1 hrd).app (by omega) _).app (by simp; omega) _).app (by simp; omega) _
    · have hr3 : r = s.O.length ∨ r = s.O.length + 1 ∨ r = s.O.length + 2 := by omega
      rcases hr3 with rfl | rfl | rfl
      · rw [a1] at hrd; cases hrd
      · rw [a2] at hrd; cases hrd
      · exact .inr rfl
  refine ⟨col_of (stale_bp h.bp) hs, hlk, edg_lt (stale_bp h.bp) (fun r t hr hrd he ht => ?_) (fun r hr hrd => (hlk.src r hr hrd).1), kx_all fun i hi => ?_, fun r hr hrd => ?_⟩
  · rcases hcase r hr hrd with h1 | rfl
    · exact last_src hrd h1 he ht
    · have hs' : sI s.stale.O (s.O.length + 2) = (s.O.length : Nat) := by unfold sI; rw [a3]; simp
      omega
  · rw [hl] at hi
    rcases Nat.lt_or_ge i s.O.length with h1 | h1
    · rw [a0 i h1]; exact h.kx i h1
    · have hr3 : i = s.O.length ∨ i = s.O.length + 1 ∨ i = s.O.length + 2 := by omega
      rcases hr3 with rfl | rfl | rfl
      · rw [a1]; decide
      · rw [a2]; decide
      · rw [a3]; show (0 : Nat) < 2; omega
  · rcases hcase r hr hrd with h1 | rfl
    · rcases h1 with ⟨h1, _⟩ | ⟨w, h1, h2, _⟩
      · exact .inl h1
      · exact .inr ⟨by omega, by omega⟩
    · rw [a3]
      refine .inr ⟨?_, ?_⟩
      · show (0 : Int) ≤ (s.O.length : Nat); omega
      · show ((s.O.length : Nat) : Int) < (s.stale.O.length : Nat); omega
end Go.Proofs.Ybulknju
