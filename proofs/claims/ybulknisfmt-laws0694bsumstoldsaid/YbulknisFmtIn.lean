import Derived.Test.YbulknisFmtEntd
namespace Go.Proofs.YbulknisFmt
open Go.RowKit

/-- One row of the law's input. -/
structure Z where
  acc : Int
  ag : Int
  fd : Int
  reg : Int
  id : Int
  sh : Int
  added : Bool
def lotOf (z : Z) : Lot := ⟨nameOf z.acc, nameOf z.ag, fundOf z.fd, z.reg, nameOf z.id, z.sh⟩
def baseL (zs : Nat → Z) : Nat → List Lot
  | 0 => []
  | k + 1 => if (zs k).added then baseL zs k else baseL zs k ++ [lotOf (zs k)]
def addL (zs : Nat → Z) : Nat → List Lot
  | 0 => []
  | k + 1 => if (zs k).added then addL zs k ++ [lotOf (zs k)] else addL zs k
def wantL (zs : Nat → Z) (c : Fin 3) (d : Int) : Nat → List Lot
  | 0 => []
  | k + 1 => if (lotOf (zs k)).fd = c ∧ (lotOf (zs k)).reg ≤ d then wantL zs c d k ++ [lotOf (zs k)] else wantL zs c d k
theorem lens (zs : Nat → Z) (k : Nat) : (baseL zs k).length + (addL zs k).length = k := by
  induction k with
  | zero => rfl
  | succ k ih => simp only [baseL, addL]; split <;> simp <;> omega
theorem want_len (zs : Nat → Z) (c : Fin 3) (d : Int) (k : Nat) : (wantL zs c d k).length ≤ k := by
  induction k with
  | zero => exact Nat.le_refl _
  | succ k ih =>
    simp only [wantL]
    split
    · rw [List.length_append]; simp; omega
    · omega
theorem want_all (zs : Nat → Z) (c : Fin 3) (d : Int) (k : Nat) : ∀ x ∈ wantL zs c d k, x.fd = c ∧ x.reg ≤ d := by
  induction k with
  | zero => intro x hx; cases hx
  | succ k ih =>
    intro x hx
    simp only [wantL] at hx
    split at hx
    · next h =>
      rcases List.mem_append.1 hx with h1 | h1
      · exact ih x h1
      · obtain rfl := List.mem_singleton.1 h1; exact h
    · exact ih x hx
theorem all_mem (zs : Nat → Z) (k : Nat) : ∀ x ∈ baseL zs k ++ addL zs k, ∃ t, t < k ∧ x = lotOf (zs t) := by
  induction k with
  | zero => intro x hx; cases hx
  | succ k ih =>
    intro x hx
    simp only [baseL, addL] at hx
    split at hx
    · rcases List.mem_append.1 hx with h1 | h1
      · obtain ⟨t, h2, h3⟩ := ih x (List.mem_append_left _ h1); exact ⟨t, by omega, h3⟩
      · rcases List.mem_append.1 h1 with h1 | h1
        · obtain ⟨t, h2, h3⟩ := ih x (List.mem_append_right _ h1); exact ⟨t, by omega, h3⟩
        · exact ⟨k, by omega, List.mem_singleton.1 h1⟩
    · rcases List.mem_append.1 hx with h1 | h1
      · rcases List.mem_append.1 h1 with h1 | h1
        · obtain ⟨t, h2, h3⟩ := ih x (List.mem_append_left _ h1); exact ⟨t, by omega, h3⟩
        · exact ⟨k, by omega, List.mem_singleton.1 h1⟩
      · obtain ⟨t, h2, h3⟩ := ih x (List.mem_append_right _ h1); exact ⟨t, by omega, h3⟩
theorem want_mem (zs : Nat → Z) (c : Fin 3) (d : Int) (k : Nat) : ∀ x ∈ wantL zs c d k, ∃ t, t < k ∧ x = lotOf (zs t) := by
  induction k with
  | zero => intro x hx; cases hx
  | succ k ih =>
    intro x hx
    simp only [wantL] at hx
    split at hx
    · rcases List.mem_append.1 hx with h1 | h1
      · obtain ⟨t, h2, h3⟩ := ih x h1; exact ⟨t, by omega, h3⟩
      · exact ⟨k, by omega, List.mem_singleton.1 h1⟩
    · obtain ⟨t, h2, h3⟩ := ih x hx; exact ⟨t, by omega, h3⟩
/-- What is wanted is what all the lots come to. -/
theorem want_S (zs : Nat → Z) (c : Fin 3) (d : Int) (k q : Nat) : S c d (wantL zs c d k) q = S c d (baseL zs k ++ addL zs k) q := by
  unfold S
  rw [sumL_append]
  induction k with
  | zero => rfl
  | succ k ih =>
    have hg : gq c d q (lotOf (zs k)) = if (lotOf (zs k)).fd = c ∧ (lotOf (zs k)).reg ≤ d then gq c d q (lotOf (zs k)) else 0 := by
      split
      · rfl
      · next h => unfold gq; rw [if_neg (fun h' => h h'.2)]
    simp only [wantL, baseL, addL]
    by_cases h1 : (lotOf (zs k)).fd = c ∧ (lotOf (zs k)).reg ≤ d
    · rw [if_pos h1]
      cases h2 : (zs k).added <;> simp [sumL_append, sumL, ih] <;> omega
    · rw [if_neg h1] at hg
      rw [if_neg h1]
      cases h2 : (zs k).added <;> simp [sumL_append, sumL, ih, hg]

set_option maxHeartbeats 400000 in
theorem new_exact (c : Int) (w : World) : Calls Ybaf.prog 13 #[.int .i64 c, .int .i64 2] w fun e w' => e = .returned (.agg #[.int .i64 c, .int .i32 2]) ∧ w' = w.alloc (.cells #[.int .i64 c, .int .i32 2] 45) := by
  go_enter Ybaf.func13, Ybaf.ntmps13
  go_wp2_with (go_at_call 27; refine (checkScale_two _).mono ?_; rintro e w' ⟨rfl, rfl⟩)
  try simp only [Exit.inBlock, Exit.then]
  refine bodyPost_ret (results_cell_row rfl _ _ w.heap.size 45 _ _ _ rfl (heap_alloc_new w _) Ybaf.underlying45 rfl (by kernel_rfl)) rfl ?_
  exact ⟨rfl, rfl⟩
end Go.Proofs.YbulknisFmt
