import Derived.Test.YbulknjuPlF
import Derived.Test.YbulknjuSiI
namespace Go.Proofs.Ybulknju

theorem stale_wr (s : BS) : (wrL s.stale.O ((qs s.stale.P 3).map s.stale.P) (ky s.stale.O (s.O.length + 2)))[0]! = ((s.P 0).filter fun o => !(opAt s.stale.O o).rd && ky s.stale.O o == ky s.stale.O (s.O.length + 2)) ++ [s.O.length, s.O.length + 1] := by
  obtain ⟨h1, h2⟩ := stale_chain s
  obtain ⟨_, a1, a2, a3⟩ := stale_at (s := s)
  rw [wrL_at _ _ _ h1, h2, List.filter_append]
  congr 1
  have k1 : ky s.stale.O s.O.length = ky s.stale.O (s.O.length + 2) := ky_eq.2 (by rw [a1, a3])
  have k2 : ky s.stale.O (s.O.length + 1) = ky s.stale.O (s.O.length + 2) := ky_eq.2 (by rw [a2, a3])
  rw [List.filter_cons, if_pos (by rw [a1, k1]; simp), List.filter_cons, if_pos (by rw [a2, k2]; simp), List.filter_cons, if_neg (by rw [a3]; simp), List.filter_nil]
theorem stale_stl {s : BS} {co po : Nat → Nat} (hc : Col s.stale.O.length ((qs s.stale.P 3).map s.stale.P) co po) : Stl s.stale.O ((qs s.stale.P 3).map s.stale.P) co po := by
  obtain ⟨h1, h2⟩ := stale_chain s
  obtain ⟨_, a1, a2, a3⟩ := stale_at (s := s)
  have hl := stale_len s
  have hr : s.stale.O.length - 1 = s.O.length + 2 := by omega
  obtain ⟨H, eH⟩ : ∃ H, H = (qs s.stale.P 3).map s.stale.P := ⟨_, rfl⟩
  have hw := stale_wr s
  rw [← eH] at h1 h2 hc hw ⊢
  have hlen : (H[0]!).length = (s.P 0).length + 3 := by rw [h2]; simp
  have hlast : (H[0]!)[(s.P 0).length + 2]! = s.O.length + 2 := by rw [h2]; exact (app3_at (s.P 0) _ _ _).2.2
  obtain ⟨_, b2, b3⟩ := hc.bwd 0 ((s.P 0).length + 2) h1 (by omega)
  rw [hlast] at b2 b3
  refine ⟨by omega, h1, by rw [hr, a3], fun f E D hi x hx => ?_, by rw [hr, hw]; simp, fun i hi => ?_⟩
  · rw [hr] at hx ⊢
    rw [wrL_at _ _ _ h1] at hx
    obtain ⟨m1, m2⟩ := List.mem_filter.1 hx
    obtain ⟨i, hi', e⟩ := List.getElem_of_mem m1
    have hne : x ≠ s.O.length + 2 := by
      rintro rfl
      rw [a3] at m2
      simp at m2
    have hx' : (H[0]!)[i]! = x := by rw [getElem!_pos _ i hi']; exact e
    have hi2 : i ≠ (s.P 0).length + 2 := by
      rintro rfl
      exact hne (hx'.symm.trans hlast)
    have h5 := hi.nxt 0 i h1 (by omega)
    rw [hx'] at h5
    unfold rch
    rw [b2, b3]
    exact decide_eq_true (by omega)
  · rw [hr] at hi ⊢
    rw [hw] at hi ⊢
    obtain ⟨L, eL⟩ : ∃ L, L = (s.P 0).filter fun o => !(opAt s.stale.O o).rd && ky s.stale.O o == ky s.stale.O (s.O.length + 2) := ⟨_, rfl⟩
    rw [← eL] at hi ⊢
    have hi3 : i = L.length + 1 := by simp at hi; omega
    have hx : (L ++ [s.O.length, s.O.length + 1])[i]! = s.O.length + 1 := by
      rw [hi3, getElem!_pos _ _ (by simp), List.getElem_append_right (by omega)]; simp
    have hs' : sI s.stale.O (s.O.length + 2) = (s.O.length : Nat) := by unfold sI; rw [a3]; simp
    rw [hx, hs']
    omega
end Go.Proofs.Ybulknju
