import Derived.Test.YbulknjuPlB
namespace Go.Proofs.Ybulknju

/-- The process of an operation. -/
def prc (P : Nat → List Nat) (o : Nat) : Nat := if o ∈ P 0 then 0 else if o ∈ P 1 then 1 else 2
def coP (P : Nat → List Nat) (o : Nat) : Nat := (qs P 3).idxOf (prc P o)
def poP (P : Nat → List Nat) (o : Nat) : Nat := (P (prc P o)).idxOf o
theorem prc_eq {O : List OpR} {P : Nat → List Nat} (h : Bp O P) {p o : Nat} (hp : p < 3) (ho : o ∈ P p) : prc P o = p := by
  unfold prc
  by_cases h0 : o ∈ P 0
  · rw [if_pos h0]; exact h.one 0 p o h0 ho
  · rw [if_neg h0]
    by_cases h1 : o ∈ P 1
    · rw [if_pos h1]; exact h.one 1 p o h1 ho
    · rw [if_neg h1]
      have : p = 0 ∨ p = 1 ∨ p = 2 := by omega
      rcases this with rfl | rfl | rfl
      · exact absurd ho h0
      · exact absurd ho h1
      · rfl
theorem qs_mem {P : Nat → List Nat} {p : Nat} : p ∈ qs P 3 ↔ p < 3 ∧ P p ≠ [] := by unfold qs; simp
theorem qs_nodup (P : Nat → List Nat) : (qs P 3).Nodup := List.nodup_range.filter _
theorem pw_nodup {l : List Nat} (h : l.Pairwise (· < ·)) : l.Nodup := h.imp fun hab => Nat.ne_of_lt hab
theorem idx_get {l : List Nat} (h : l.Nodup) {i : Nat} (hi : i < l.length) : l.idxOf l[i]! = i := by
  rw [getElem!_pos l i hi]; exact h.idxOf_getElem i hi
theorem get_idx {l : List Nat} {x : Nat} (h : x ∈ l) : l.idxOf x < l.length ∧ l[l.idxOf x]! = x := by
  have h1 := List.idxOf_lt_length_of_mem h
  exact ⟨h1, by rw [getElem!_pos l _ h1]; exact List.getElem_idxOf h1⟩
theorem map_at (P : Nat → List Nat) (Q : List Nat) {c : Nat} (h : c < Q.length) : (Q.map P)[c]! = P Q[c]! := by
  rw [getElem!_pos _ c (by simpa using h), List.getElem_map, getElem!_pos Q c h]
theorem col_of {O : List OpR} {P : Nat → List Nat} (h : Bp O P) (hs : ∀ p, (P p).length ≤ 3000) : Col O.length ((qs P 3).map P) (coP P) (poP P) := by
  refine ⟨fun o ho => ?_, fun c i hc hi => ?_, fun c hc => ?_, fun c i j hc hij hj => ?_⟩
  · obtain ⟨p, hp, hm⟩ := h.all o ho
    have e := prc_eq h hp hm
    have hq : p ∈ qs P 3 := qs_mem.2 ⟨hp, fun h0 => by rw [h0] at hm; cases hm⟩
    obtain ⟨a1, a2⟩ := get_idx hq
    obtain ⟨b1, b2⟩ := get_idx hm
    have hco : coP P o = (qs P 3).idxOf p := by unfold coP; rw [e]
    have hpo : poP P o = (P p).idxOf o := by unfold poP; rw [e]
    rw [List.length_map, hco, hpo, map_at P _ a1, a2]
    exact ⟨a1, b1, b2⟩
  · rw [List.length_map] at hc
    rw [map_at P _ hc] at hi ⊢
    have hq : (qs P 3)[c]! ∈ qs P 3 := by rw [getElem!_pos _ c hc]; exact List.getElem_mem _
    have hm : (P (qs P 3)[c]!)[i]! ∈ P (qs P 3)[c]! := by rw [getElem!_pos (P _) i hi]; exact List.getElem_mem _
    have e := prc_eq h (qs_mem.1 hq).1 hm
    refine ⟨h.lt _ _ hm, ?_, ?_⟩
    · unfold coP; rw [e]; exact idx_get (qs_nodup P) hc
    · unfold poP; rw [e]; exact idx_get (pw_nodup (h.inc _)) hi
  · rw [List.length_map] at hc
    rw [map_at P _ hc]; exact hs _
  · rw [List.length_map] at hc
    rw [map_at P _ hc] at hj ⊢
    have := List.pairwise_iff_getElem.1 (h.inc (qs P 3)[c]!) i j (by omega) hj hij
    rw [getElem!_pos (P _) i (by omega), getElem!_pos (P _) j hj]; exact this
end Go.Proofs.Ybulknju
