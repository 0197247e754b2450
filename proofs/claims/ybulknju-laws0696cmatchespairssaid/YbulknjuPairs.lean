/-
  Plain functions: clocks as functions, the order of two clocks, the count of ordered pairs. No Go in sight.
-/
namespace Go.Proofs.Ybulknju

/-- Entry i of a clock of n entries. -/
def ent (z : Nat → Int) (n i : Nat) : Int := if i < n then z i else 0
/-- Some entry below k of the first clock is below the second's. -/
def lessTo (z1 : Nat → Int) (n1 : Nat) (z2 : Nat → Int) (n2 : Nat) (k : Nat) : Bool := (List.range k).any fun i => decide (ent z1 n1 i < ent z2 n2 i)
/-- Some entry of the first clock is below the second's. -/
def less (z1 : Nat → Int) (n1 : Nat) (z2 : Nat → Int) (n2 : Nat) : Bool := lessTo z1 n1 z2 n2 (max n1 n2)
/-- All entries are 0. -/
def zeroB (z : Nat → Int) (n : Nat) : Bool := (List.range n).all fun i => z i == 0

theorem lessTo_zero (z1 : Nat → Int) (n1 : Nat) (z2 : Nat → Int) (n2 : Nat) : lessTo z1 n1 z2 n2 0 = false := rfl
theorem lessTo_succ (z1 : Nat → Int) (n1 : Nat) (z2 : Nat → Int) (n2 k : Nat) : lessTo z1 n1 z2 n2 (k + 1) = (lessTo z1 n1 z2 n2 k || decide (ent z1 n1 k < ent z2 n2 k)) := by
  simp [lessTo, List.range_succ]
theorem lessTo_true {z1 : Nat → Int} {n1 : Nat} {z2 : Nat → Int} {n2 k : Nat} : lessTo z1 n1 z2 n2 k = true ↔ ∃ i, i < k ∧ ent z1 n1 i < ent z2 n2 i := by
  simp [lessTo]
theorem zeroB_true {z : Nat → Int} {n : Nat} : zeroB z n = true ↔ ∀ i, i < n → z i = 0 := by simp [zeroB]
theorem zeroB_false {z : Nat → Int} {n i : Nat} (hi : i < n) (h : ¬ z i = 0) : zeroB z n = false := by
  rw [Bool.eq_false_iff]; intro e; exact h (zeroB_true.1 e i hi)

/-- The rest of a clock beyond the other's end, above 0, decides. -/
theorem less_rest (z1 : Nat → Int) (n1 : Nat) (z2 : Nat → Int) (n2 : Nat) (h1 : ∀ i, i < n1 → 0 ≤ z1 i) (h0 : ∀ i, i < n2 → 0 ≤ z2 i) :
    less z1 n1 z2 n2 = (lessTo z1 n1 z2 n2 (min n1 n2) || !zeroB (fun k => z2 (min n1 n2 + k)) (n2 - min n1 n2)) := by
  rw [Bool.eq_iff_iff, Bool.or_eq_true, Bool.not_eq_true']
  constructor
  · intro h
    obtain ⟨i, hi, hl⟩ := lessTo_true.1 h
    by_cases hm : i < min n1 n2
    · exact .inl (lessTo_true.2 ⟨i, hm, hl⟩)
    · right
      have hn2 : i < n2 := by
        rcases Nat.lt_or_ge i n2 with h | h
        · exact h
        · simp only [ent] at hl
          rw [if_neg (show ¬ i < n2 by omega), if_pos (show i < n1 by omega)] at hl
          have := h1 i (by omega)
          omega
      refine zeroB_false (i := i - min n1 n2) (by omega) ?_
      simp only [ent] at hl
      rw [if_pos hn2, if_neg (show ¬ i < n1 by omega)] at hl
      rw [show min n1 n2 + (i - min n1 n2) = i by omega]
      omega
  · rintro (h | h)
    · obtain ⟨i, hi, hl⟩ := lessTo_true.1 h
      exact lessTo_true.2 ⟨i, by omega, hl⟩
    · have : ∃ k, k < n2 - min n1 n2 ∧ ¬ z2 (min n1 n2 + k) = 0 := by
        apply Classical.byContradiction
        intro hc
        have : zeroB (fun k => z2 (min n1 n2 + k)) (n2 - min n1 n2) = true := zeroB_true.2 fun i hi => by
          apply Classical.byContradiction
          intro h'
          exact hc ⟨i, hi, h'⟩
        rw [this] at h; cases h
      obtain ⟨k, hk, hz⟩ := this
      refine lessTo_true.2 ⟨min n1 n2 + k, by omega, ?_⟩
      simp only [ent]
      rw [if_pos (show min n1 n2 + k < n2 by omega), if_neg (show ¬ min n1 n2 + k < n1 by omega)]
      have := h0 (min n1 n2 + k) (by omega)
      omega

def sumTo (f : Nat → Nat) : Nat → Nat
  | 0 => 0
  | k + 1 => sumTo f k + f k
theorem sumTo_congr {f g : Nat → Nat} {n : Nat} (h : ∀ i, i < n → f i = g i) : sumTo f n = sumTo g n := by
  induction n with
  | zero => rfl
  | succ n ih => simp only [sumTo]; rw [ih (fun i hi => h i (by omega)), h n (by omega)]
theorem sumTo_zero {f : Nat → Nat} {n : Nat} (h : ∀ i, i < n → f i = 0) : sumTo f n = 0 := by
  induction n with
  | zero => rfl
  | succ n ih => simp only [sumTo]; rw [ih (fun i hi => h i (by omega)), h n (by omega)]
theorem sumTo_add (f g : Nat → Nat) (n : Nat) : sumTo (fun i => f i + g i) n = sumTo f n + sumTo g n := by
  induction n with
  | zero => rfl
  | succ n ih => simp only [sumTo]; omega
theorem sumTo_le {f : Nat → Nat} {n c : Nat} (h : ∀ i, i < n → f i ≤ c) : sumTo f n ≤ n * c := by
  induction n with
  | zero => simp [sumTo]
  | succ n ih => have := ih (fun i hi => h i (by omega)); have := h n (by omega); simp only [sumTo]; rw [Nat.succ_mul]; omega
theorem sumTo_comm (f : Nat → Nat → Nat) (n m : Nat) : sumTo (fun i => sumTo (f i) m) n = sumTo (fun j => sumTo (fun i => f i j) n) m := by
  induction n with
  | zero => exact (sumTo_zero fun i _ => rfl).symm
  | succ n ih =>
    simp only [sumTo]
    rw [ih]
    rw [← sumTo_add]

/-- What one look of countSetAside adds. -/
def seen (aside : Nat → Bool) (ord : Nat → Nat → Bool) (a b : Nat) : Nat := if b = a ∨ (aside b = true ∧ b < a) then 0 else if ord a b then 1 else 0
def rowOf (aside : Nat → Bool) (ord : Nat → Nat → Bool) (n a : Nat) : Nat := if aside a then sumTo (seen aside ord a) n else 0
/-- What one look of the law's own count adds. -/
def pair (aside : Nat → Bool) (ord : Nat → Nat → Bool) (i j : Nat) : Nat := if i < j then (if aside i || aside j then (if ord i j then 1 else 0) else 0) else 0

theorem counts (aside : Nat → Bool) (ord : Nat → Nat → Bool) (hsym : ∀ i j, ord i j = ord j i) (n : Nat) : sumTo (rowOf aside ord n) n = sumTo (fun i => sumTo (pair aside ord i) n) n := by
  have h1 : sumTo (rowOf aside ord n) n = sumTo (fun a => sumTo (fun b => if aside a then seen aside ord a b else 0) n) n := by
    refine sumTo_congr fun a _ => ?_
    unfold rowOf
    cases aside a
    · simp; exact (sumTo_zero fun _ _ => rfl).symm
    · simp
  have h2 : sumTo (fun a => sumTo (fun b => if aside a then seen aside ord a b else 0) n) n =
      sumTo (fun a => sumTo (fun b => if a < b then (if aside a then seen aside ord a b else 0) else 0) n) n + sumTo (fun a => sumTo (fun b => if b < a then (if aside a then seen aside ord a b else 0) else 0) n) n := by
    rw [← sumTo_add]
    refine sumTo_congr fun a _ => ?_
    rw [← sumTo_add]
    refine sumTo_congr fun b _ => ?_
    by_cases e : a = b
    · subst e; simp [seen]
    · by_cases l : a < b
      · simp [l, show ¬ b < a by omega]
      · simp [l, show b < a by omega]
  rw [h1, h2, sumTo_comm (fun a b => if b < a then (if aside a then seen aside ord a b else 0) else 0), ← sumTo_add]
  refine sumTo_congr fun i _ => ?_
  rw [← sumTo_add]
  refine sumTo_congr fun j _ => ?_
  unfold pair seen
  by_cases l : i < j
  · have hne : ¬ j = i := by omega
    have hne' : ¬ i = j := by omega
    have hl' : ¬ j < i := by omega
    rw [hsym j i]
    cases aside i <;> cases aside j <;> cases ord i j <;> simp [l, hne, hne', hl']
  · simp [l]
end Go.Proofs.Ybulknju
