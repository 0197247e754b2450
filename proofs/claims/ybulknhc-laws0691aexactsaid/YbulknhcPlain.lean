/-
  Plain functions: which members are reached; the links in the order of the reports. No Go in sight.
-/
import GoSem.Core.View
namespace Go.Proofs.Ybulknhc

/-- The names: 'a' to 'e'. -/
def nm (i : Nat) : ByteArray := ⟨#[(97 + i).toUInt8]⟩
theorem nm_inj {i j : Nat} (hi : i < 5) (hj : j < 5) (h : nm i = nm j) : i = j := by
  have hi' : i = 0 ∨ i = 1 ∨ i = 2 ∨ i = 3 ∨ i = 4 := by omega
  have hj' : j = 0 ∨ j = 1 ∨ j = 2 ∨ j = 3 ∨ j = 4 := by omega
  rcases hi' with rfl | rfl | rfl | rfl | rfl <;> rcases hj' with rfl | rfl | rfl | rfl | rfl <;> first | rfl | (exact absurd h (by decide))

/-- Is the link among them? (A name that the walk does not open.) -/
def has (l : List (Nat × Nat)) (x : Nat × Nat) : Bool := l.contains x

/-- One more named member of a report by a. -/
def step (rch : Nat → Bool) (a : Nat) (acc : List (Nat × Nat)) (b : Nat) : List (Nat × Nat) :=
  if rch b && !has acc (b, a) then acc ++ [(a, b)] else acc
/-- The first j named members of a report by a. -/
def rowTo (rch : Nat → Bool) (a : Nat) (x : Nat → Nat) (acc : List (Nat × Nat)) : Nat → List (Nat × Nat)
  | 0 => acc
  | j + 1 => step rch a (rowTo rch a x acc j) (x j)
/-- The first k reports. -/
def allTo (rch : Nat → Bool) (F : Nat → Nat) (n2 : Nat) (L : Nat → Nat) (X : Nat → Nat → Nat) : Nat → List (Nat × Nat)
  | 0 => []
  | k + 1 => if rch (F k) && decide (k < n2) then rowTo rch (F k) (X k) (allTo rch F n2 L X k) (L k) else allTo rch F n2 L X k

theorem step_hit {rch : Nat → Bool} {a b : Nat} {acc : List (Nat × Nat)} (h1 : rch b = true) (h2 : has acc (b, a) = false) : step rch a acc b = acc ++ [(a, b)] := by simp only [step, h1, h2]; rfl
theorem step_far {rch : Nat → Bool} {a b : Nat} {acc : List (Nat × Nat)} (h1 : rch b = false) : step rch a acc b = acc := by simp [step, h1]
theorem step_dup {rch : Nat → Bool} {a b : Nat} {acc : List (Nat × Nat)} (h2 : has acc (b, a) = true) : step rch a acc b = acc := by simp only [step, h2]; simp
theorem step_len (rch : Nat → Bool) (a b : Nat) (acc : List (Nat × Nat)) : (step rch a acc b).length ≤ acc.length + 1 := by
  unfold step; split <;> simp
theorem rowTo_len (rch : Nat → Bool) (a : Nat) (x : Nat → Nat) (acc : List (Nat × Nat)) (j : Nat) : (rowTo rch a x acc j).length ≤ acc.length + j := by
  induction j with
  | zero => simp [rowTo]
  | succ j ih => have := step_len rch a (x j) (rowTo rch a x acc j); simp only [rowTo]; omega
theorem allTo_len (rch : Nat → Bool) (F : Nat → Nat) (n2 : Nat) (L : Nat → Nat) (X : Nat → Nat → Nat) (c : Nat) (hL : ∀ r, r < n2 → L r ≤ c) (k : Nat) : (allTo rch F n2 L X k).length ≤ k * c := by
  induction k with
  | zero => simp [allTo]
  | succ k ih =>
    rw [Nat.succ_mul]
    simp only [allTo]
    split
    · rename_i h
      rw [Bool.and_eq_true, decide_eq_true_iff] at h
      have h1 := rowTo_len rch (F k) (X k) (allTo rch F n2 L X k) (L k)
      have h2 := hL k h.2
      omega
    · omega

/-- Every index is one of five. -/
def Small (l : List (Nat × Nat)) : Prop := ∀ p ∈ l, p.1 < 5 ∧ p.2 < 5
theorem Small.nil : Small [] := fun _ h => by cases h
theorem Small.step {rch : Nat → Bool} {a b : Nat} {acc : List (Nat × Nat)} (h : Small acc) (ha : a < 5) (hb : b < 5) : Small (step rch a acc b) := by
  unfold Ybulknhc.step; split
  · intro p hp
    rcases List.mem_append.1 hp with hp | hp
    · exact h p hp
    · simp at hp; subst hp; exact ⟨ha, hb⟩
  · exact h
theorem Small.rowTo {rch : Nat → Bool} {a : Nat} {x : Nat → Nat} {acc : List (Nat × Nat)} (h : Small acc) (ha : a < 5) (j : Nat) (hx : ∀ i, i < j → x i < 5) : Small (rowTo rch a x acc j) := by
  induction j with
  | zero => exact h
  | succ j ih => exact (ih (fun i hi => hx i (by omega))).step ha (hx j (by omega))
theorem Small.allTo {rch : Nat → Bool} {F : Nat → Nat} {n2 : Nat} {L : Nat → Nat} {X : Nat → Nat → Nat} (k : Nat) (hF : ∀ i, i < k → F i < 5) (hX : ∀ r, r < n2 → ∀ c, c < L r → X r c < 5) : Small (allTo rch F n2 L X k) := by
  induction k with
  | zero => exact Small.nil
  | succ k ih =>
    simp only [Ybulknhc.allTo]
    split
    · rename_i h
      simp at h
      exact (ih (fun i hi => hF i (by omega))).rowTo (hF k (by omega)) _ (hX k h.2)
    · exact ih (fun i hi => hF i (by omega))
end Go.Proofs.Ybulknhc
