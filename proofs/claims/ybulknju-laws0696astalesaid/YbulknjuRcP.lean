import Derived.Test.YbulknjuTopW
import Derived.Test.YbulknjuDrP
namespace Go.Proofs.Ybulknju

/-- u's row of the reach, k of its successors S looked at. -/
structure Rw (H : List (List Nat)) (co po : Nat → Nat) (f : Nat → Int) (u : Nat) (S : List Nat) (k : Nat) : Prop where
  rng : ∀ c, c < H.length → 0 ≤ f (u * H.length + c) ∧ f (u * H.length + c) ≤ ((H[c]!).length : Nat)
  inc : ∀ c, c < H.length → f (u * H.length + c) < ((H[c]!).length : Nat) → u < (H[c]!)[(f (u * H.length + c)).toNat]!
  got : ∀ j, j < k → f (u * H.length + co S[j]!) ≤ (po S[j]! : Nat)
theorem Rw.congr {H : List (List Nat)} {co po : Nat → Nat} {f g : Nat → Int} {u : Nat} {S : List Nat} {k : Nat} (h : Rw H co po f u S k) (hS : ∀ j, j < k → co S[j]! < H.length) (e : ∀ c, c < H.length → g (u * H.length + c) = f (u * H.length + c)) : Rw H co po g u S k :=
  ⟨fun c hc => by rw [e c hc]; exact h.rng c hc, fun c hc hl => by rw [e c hc] at hl ⊢; exact h.inc c hc hl, fun j hj => by rw [e _ (hS j hj)]; exact h.got j hj⟩
theorem Rw.other {H : List (List Nat)} {co po : Nat → Nat} {f : Nat → Int} {u v : Nat} {S : List Nat} {k : Nat} (h : Rw H co po f v S k) (hS : ∀ j, j < k → co S[j]! < H.length) (hne : v ≠ u) {c : Nat} (hc : c < H.length) (x : Int) : Rw H co po (upd f (u * H.length + c) x) v S k :=
  h.congr hS fun c' hc' => by unfold upd; rw [if_neg (fun e => hne (at_inj hc' hc e).1)]
/-- An entry is lowered. -/
theorem Rw.low {H : List (List Nat)} {co po : Nat → Nat} {f : Nat → Int} {u : Nat} {S : List Nat} {k : Nat} (h : Rw H co po f u S k) (hS : ∀ j, j < k → co S[j]! < H.length) {c : Nat} (hc : c < H.length) (x : Int) (h0 : 0 ≤ x) (h1 : x < ((H[c]!).length : Nat) → u < (H[c]!)[x.toNat]!) : Rw H co po (upd f (u * H.length + c) (min (f (u * H.length + c)) x)) u S k := by
  have hr := h.rng c hc
  have hi := h.inc c hc
  refine ⟨fun c' hc' => ?_, fun c' hc' hl => ?_, fun j hj => ?_⟩
  · unfold upd
    split
    · next e => obtain ⟨_, rfl⟩ := at_inj hc' hc e; omega
    · exact h.rng c' hc'
  · unfold upd at hl ⊢
    split
    · next e =>
      obtain ⟨_, rfl⟩ := at_inj hc' hc e
      rw [if_pos rfl] at hl
      rcases Int.le_total (f (u * H.length + c')) x with h2 | h2
      · rw [Int.min_eq_left h2] at hl ⊢; exact hi hl
      · rw [Int.min_eq_right h2] at hl ⊢; exact h1 hl
    · next e => rw [if_neg e] at hl; exact h.inc c' hc' hl
  · have := h.got j hj
    unfold upd
    split
    · next e => obtain ⟨_, e2⟩ := at_inj (hS j hj) hc e; rw [← e2]; omega
    · exact this
/-- The next successor's own place. -/
theorem Rw.see {H : List (List Nat)} {co po : Nat → Nat} {f : Nat → Int} {u : Nat} {S : List Nat} {k : Nat} (h : Rw H co po f u S k) (hle : f (u * H.length + co S[k]!) ≤ (po S[k]! : Nat)) : Rw H co po f u S (k + 1) :=
  ⟨h.rng, h.inc, fun j hj => by
    rcases Nat.lt_or_ge j k with h1 | h1
    · exact h.got j h1
    · have : j = k := by omega
      rw [this]; exact hle⟩
/-- The reach, when the operations Tl have their rows. -/
def Rws (H : List (List Nat)) (co po : Nat → Nat) (E : List (Nat × Nat)) (f : Nat → Int) (Tl : List Nat) : Prop := ∀ v ∈ Tl, Rw H co po f v (sucs E v) (sucs E v).length
theorem inv_start {O : List OpR} {H : List (List Nat)} {co po : Nat → Nat} {E : List (Nat × Nat)} {f : Nat → Int} {T : List Nat} (hc : Col O.length H co po) (hE : ∀ e ∈ E, e.1 < e.2 ∧ e.2 < O.length) (hch : ∀ c i, c < H.length → i + 1 < (H[c]!).length → ((H[c]!)[i]!, (H[c]!)[i + 1]!) ∈ E) (hT : ∀ v, v < O.length → v ∈ T) (h : Rws H co po E f T) : Inv O H E f [] := by
  refine ⟨hE, fun u c hu hcl => (h u (hT u hu)).rng c hcl, fun u c hu hcl hl => (h u (hT u hu)).inc c hcl hl, fun c i hcl hi => ?_, fun d hd => by cases hd⟩
  obtain ⟨b1, b2, b3⟩ := hc.bwd c i hcl (by omega)
  obtain ⟨d1, d2, d3⟩ := hc.bwd c (i + 1) hcl hi
  have hm : (H[c]!)[i + 1]! ∈ sucs E (H[c]!)[i]! := by
    unfold sucs
    exact List.mem_map.2 ⟨_, List.mem_filter.2 ⟨hch c i hcl hi, by simp⟩, rfl⟩
  obtain ⟨j, hj, e⟩ := List.getElem_of_mem hm
  have hg := (h _ (hT _ b1)).got j hj
  rw [getElem!_pos _ j hj, e, d2, d3] at hg
  exact hg
end Go.Proofs.Ybulknju
