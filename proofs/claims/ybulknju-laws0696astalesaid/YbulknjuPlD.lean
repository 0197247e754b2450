import Derived.Test.YbulknjuPlC
namespace Go.Proofs.Ybulknju

/-- The closure's first edges. -/
def edg (O : List OpR) (P : Nat → List Nat) : List (Nat × Nat) := ((qs P 3).map P).flatMap procE ++ srcE O O.length
theorem procE_mem {l : List Nat} {e : Nat × Nat} : e ∈ procE l ↔ ∃ j, j + 1 < l.length ∧ e = (l[j]!, l[j + 1]!) := by
  unfold procE procEk
  rw [List.mem_map]
  constructor
  · rintro ⟨j, hj, rfl⟩
    rw [List.mem_range] at hj
    exact ⟨j, by omega, rfl⟩
  · rintro ⟨j, hj, rfl⟩
    exact ⟨j, List.mem_range.2 (by omega), rfl⟩
theorem edg_lt {O : List OpR} {P : Nat → List Nat} (h : Bp O P) (hs : ∀ r (s : Nat), r < O.length → (opAt O r).rd = true → sI O r = (s : Nat) → s < O.length → s < r) (hs0 : ∀ r, r < O.length → (opAt O r).rd = true → 0 ≤ sI O r) : ∀ e ∈ edg O P, e.1 < e.2 ∧ e.2 < O.length := by
  intro e he
  unfold edg at he
  rcases List.mem_append.1 he with he | he
  · obtain ⟨l, hl, hel⟩ := List.mem_flatMap.1 he
    obtain ⟨p, _, rfl⟩ := List.mem_map.1 hl
    obtain ⟨j, hj, rfl⟩ := procE_mem.1 hel
    have h1 := List.pairwise_iff_getElem.1 (h.inc p) j (j + 1) (by omega) hj (Nat.lt_succ_self j)
    rw [getElem!_pos (P p) j (by omega), getElem!_pos (P p) (j + 1) hj]
    exact ⟨h1, h.lt p _ (List.getElem_mem _)⟩
  · unfold srcE at he
    obtain ⟨r, hr, h2⟩ := List.mem_filterMap.1 he
    rw [List.mem_range] at hr
    split at h2
    · next hc =>
      cases h2
      have h0 := hs0 r hr hc.1
      exact ⟨hs r _ hr hc.1 (by omega) (by omega), hr⟩
    · cases h2
theorem edg_chain {O : List OpR} {P : Nat → List Nat} : ∀ c i, c < ((qs P 3).map P).length → i + 1 < (((qs P 3).map P)[c]!).length → ((((qs P 3).map P)[c]!)[i]!, (((qs P 3).map P)[c]!)[i + 1]!) ∈ edg O P := by
  intro c i hc hi
  unfold edg
  refine List.mem_append_left _ (List.mem_flatMap.2 ⟨((qs P 3).map P)[c]!, ?_, procE_mem.2 ⟨i, hi, rfl⟩⟩)
  rw [getElem!_pos _ c hc]; exact List.getElem_mem _
theorem edg_len {O : List OpR} {P : Nat → List Nat} (hO : O.length ≤ 2000) (hs : ∀ p, (P p).length ≤ 3000) : (edg O P).length ≤ 20000 := by
  unfold edg
  rw [List.length_append]
  have h1 := flat_small ((qs P 3).map P) (fun l hl => by obtain ⟨p, _, rfl⟩ := List.mem_map.1 hl; exact hs p)
  have h2 := srcE_len O O.length
  have h3 := qs_len P 3
  rw [List.length_map] at h1
  omega
/-- .. of a read whose source is the last write before it. -/
theorem last_src {O : List OpR} {r s : Nat} (hrd : (opAt O r).rd = true) (h : LastW O r (opAt O r).kx (opAt O r).fr) (he : sI O r = (s : Nat)) (hs : s < O.length) : s < r := by
  unfold sI at he
  rw [if_pos hrd] at he
  rcases h with ⟨h1, _⟩ | ⟨w, h1, h2, _⟩
  · rw [if_pos h1] at he; omega
  · rw [if_neg (by omega)] at he; omega
end Go.Proofs.Ybulknju
