/-
  Plain mathematics of the proleptic Gregorian calendar: no Go in sight.
-/
namespace Go.Proofs.YbulknieDoor.Cal

def leapB (y : Int) : Bool := (y % 4 == 0) && ((y % 100 != 0) || (y % 400 == 0))
def lp (y : Int) : Int := if y % 4 = 0 ∧ (y % 100 ≠ 0 ∨ y % 400 = 0) then 1 else 0
def dim (y m : Int) : Int := if m = 2 then 28 + lp y else if m = 4 ∨ m = 6 ∨ m = 9 ∨ m = 11 then 30 else 31
/-- Days before month 'k + 1' in a common year. -/
def D (k : Nat) : Int := [0, 31, 59, 90, 120, 151, 181, 212, 243, 273, 304, 334].getD k 0
def bef (y m : Int) : Int := D (m - 1).toNat + if 2 < m then lp y else 0
def num (y m d : Int) : Int := 365 * (y - 1) + (y - 1) / 4 - (y - 1) / 100 + (y - 1) / 400 + bef y m + d - 1
structure Good (n y m d : Int) : Prop where
  y1 : 1 ≤ y
  y2 : y ≤ 9999
  m1 : 1 ≤ m
  m2 : m ≤ 12
  d1 : 1 ≤ d
  d2 : d ≤ dim y m
  num : num y m d = n

theorem leapB_true {y : Int} (h : leapB y = true) : lp y = 1 := by
  unfold leapB at h; unfold lp; simp at h; rw [if_pos]; omega
theorem leapB_false {y : Int} (h : leapB y = false) : lp y = 0 := by
  unfold leapB at h; unfold lp; simp at h; rw [if_neg]; omega
theorem lp01 (y : Int) : lp y = 0 ∨ lp y = 1 := by unfold lp; split <;> simp

/-- A month's table entries, one by one. -/
theorem months (m : Int) (h1 : 1 ≤ m) (h2 : m ≤ 12) : m = 1 ∨ m = 2 ∨ m = 3 ∨ m = 4 ∨ m = 5 ∨ m = 6 ∨ m = 7 ∨ m = 8 ∨ m = 9 ∨ m = 10 ∨ m = 11 ∨ m = 12 := by omega

/-- The days of a year behind the last full one, split by the cycles. -/
theorem split_year (c ce q ys r : Int) (hce0 : 0 ≤ ce) (hce1 : ce ≤ 3) (hq0 : 0 ≤ q) (hq1 : q ≤ 24) (hy0 : 0 ≤ ys) (hy1 : ys ≤ 3) (hr0 : 0 ≤ r)
    (hr1 : r ≤ 364 ∨ (r = 365 ∧ ys = 3)) (hq : q = 24 → ce < 3 → 1461 * q + 365 * ys + r < 36524) :
    365 * (400 * c + 100 * ce + 4 * q + ys) + (400 * c + 100 * ce + 4 * q + ys) / 4 - (400 * c + 100 * ce + 4 * q + ys) / 100 + (400 * c + 100 * ce + 4 * q + ys) / 400 = 146097 * c + 36524 * ce + 1461 * q + 365 * ys ∧ r ≤ 364 + lp (1 + 400 * c + 100 * ce + 4 * q + ys) := by
  have e1 : (400 * c + 100 * ce + 4 * q + ys) / 4 = 100 * c + 25 * ce + q := by omega
  have e2 : (400 * c + 100 * ce + 4 * q + ys) / 100 = 4 * c + ce := by omega
  have e3 : (400 * c + 100 * ce + 4 * q + ys) / 400 = c := by omega
  refine ⟨by rw [e1, e2, e3]; omega, ?_⟩
  rcases hr1 with h | ⟨h, h3⟩
  · rcases lp01 (1 + 400 * c + 100 * ce + 4 * q + ys) with e | e <;> omega
  · subst h3
    have : lp (1 + 400 * c + 100 * ce + 4 * q + 3) = 1 := by
      unfold lp; rw [if_pos]
      refine ⟨by omega, ?_⟩
      by_cases hq24 : q = 24
      · right
        have hce : ce = 3 := by
          by_cases hh : ce < 3
          · have := hq hq24 hh; omega
          · omega
        omega
      · left; omega
    omega

/-- Year and day of the year, from 0. -/
structure YR (n Y r : Int) : Prop where
  y1 : 1 ≤ Y
  y2 : Y ≤ 9999
  r1 : 0 ≤ r
  r2 : r ≤ 364 + lp Y
  eq : 365 * (Y - 1) + (Y - 1) / 4 - (Y - 1) / 100 + (Y - 1) / 400 + r = n

theorem yr_of (n c ce q ys r : Int) (h0 : 0 ≤ n) (h1 : n ≤ 3652058) (hc0 : 0 ≤ c) (hce0 : 0 ≤ ce) (hce1 : ce ≤ 3) (hq0 : 0 ≤ q) (hq1 : q ≤ 24) (hy0 : 0 ≤ ys) (hy1 : ys ≤ 3) (hr0 : 0 ≤ r)
    (hr1 : r ≤ 364 ∨ (r = 365 ∧ ys = 3)) (hq : q = 24 → ce < 3 → 1461 * q + 365 * ys + r < 36524) (hn : n = 146097 * c + 36524 * ce + 1461 * q + 365 * ys + r) :
    YR n (1 + 400 * c + 100 * ce + 4 * q + ys) r := by
  obtain ⟨a, b⟩ := split_year c ce q ys r hce0 hce1 hq0 hq1 hy0 hy1 hr0 hr1 hq
  refine ⟨by omega, by omega, hr0, b, ?_⟩
  rw [show 1 + 400 * c + 100 * ce + 4 * q + ys - 1 = 400 * c + 100 * ce + 4 * q + ys by omega]
  omega

theorem decomp (n : Int) (h0 : 0 ≤ n) (h1 : n ≤ 3652058) : ∃ Y r : Int, YR n Y r ∧
    ((∃ c, n / 146097 = c ∧ n % 146097 = 146096 ∧ 0 ≤ c ∧ c ≤ 24 ∧ Y = 1 + 400 * c + 300 + 96 + 3 ∧ r = 365) ∨
     (∃ c r0 ce q, n / 146097 = c ∧ n % 146097 = r0 ∧ r0 / 36524 = ce ∧ (r0 - ce * 36524) / 1461 = q ∧ (r0 - ce * 36524) % 1461 = 1460 ∧ 0 ≤ c ∧ c ≤ 24 ∧ 0 ≤ r0 ∧ r0 ≤ 146096 ∧ 0 ≤ ce ∧ ce ≤ 3 ∧ 0 ≤ q ∧ q ≤ 24 ∧ Y = 1 + 400 * c + 100 * ce + 4 * q + 3 ∧ r = 365) ∨
     (∃ c r0 ce q r2 ys, n / 146097 = c ∧ n % 146097 = r0 ∧ r0 / 36524 = ce ∧ (r0 - ce * 36524) / 1461 = q ∧ (r0 - ce * 36524) % 1461 = r2 ∧ r2 / 365 = ys ∧ 0 ≤ c ∧ c ≤ 24 ∧ 0 ≤ r0 ∧ r0 ≤ 146096 ∧ 0 ≤ ce ∧ ce ≤ 3 ∧ 0 ≤ q ∧ q ≤ 24 ∧ 0 ≤ r2 ∧ r2 ≤ 1460 ∧ 0 ≤ ys ∧ ys ≤ 3 ∧ Y = 1 + 400 * c + 100 * ce + 4 * q + ys ∧ r = r2 - ys * 365)) := by
  by_cases hA : n % 146097 = 146096
  · have hc := Int.emod_add_mul_ediv n 146097
    refine ⟨1 + 400 * (n / 146097) + 300 + 96 + 3, 365, ?_, .inl ⟨n / 146097, rfl, hA, by omega, by omega, rfl, rfl⟩⟩
    exact yr_of n (n / 146097) 3 24 3 365 h0 h1 (by omega) (by omega) (by omega) (by omega) (by omega) (by omega) (by omega) (by omega) (by omega) (by omega) (by omega)
  · have hA1 : n % 146097 < 146096 := by omega
    have hA0 : 0 ≤ n % 146097 := by omega
    have hc := Int.emod_add_mul_ediv n 146097
    have hc0 : 0 ≤ n / 146097 := by omega
    have hc1 : n / 146097 ≤ 24 := by omega
    generalize n / 146097 = c at *
    generalize n % 146097 = r0 at *
    have hce := Int.emod_add_mul_ediv r0 36524
    have hce0 : 0 ≤ r0 / 36524 := by omega
    have hce1 : r0 / 36524 ≤ 3 := by omega
    have hce2 : r0 - r0 / 36524 * 36524 = r0 % 36524 := by omega
    have hm0 : 0 ≤ r0 % 36524 := by omega
    have hm1 : r0 % 36524 < 36524 := by omega
    generalize hceq : r0 / 36524 = ce at *
    generalize r0 % 36524 = r1 at *
    have hq := Int.emod_add_mul_ediv r1 1461
    have hq0 : 0 ≤ r1 / 1461 := by omega
    have hq1 : r1 / 1461 ≤ 24 := by omega
    have hr20 : 0 ≤ r1 % 1461 := by omega
    have hr21 : r1 % 1461 < 1461 := by omega
    by_cases hB : r1 % 1461 = 1460
    · refine ⟨1 + 400 * c + 100 * ce + 4 * (r1 / 1461) + 3, 365, ?_, .inr (.inl ⟨c, r0, ce, r1 / 1461, rfl, rfl, hceq, ?_, ?_, hc0, hc1, by omega, by omega, hce0, hce1, hq0, hq1, rfl, rfl⟩)⟩
      · exact yr_of n c ce (r1 / 1461) 3 365 h0 h1 hc0 hce0 hce1 hq0 hq1 (by omega) (by omega) (by omega) (by omega) (by omega) (by omega)
      · rw [hce2]
      · rw [hce2]; exact hB
    · refine ⟨1 + 400 * c + 100 * ce + 4 * (r1 / 1461) + r1 % 1461 / 365, r1 % 1461 - r1 % 1461 / 365 * 365, ?_, .inr (.inr ⟨c, r0, ce, r1 / 1461, r1 % 1461, r1 % 1461 / 365, rfl, rfl, hceq, ?_, ?_, rfl, hc0, hc1, by omega, by omega, hce0, hce1, hq0, hq1, by omega, by omega, by omega, by omega, rfl, rfl⟩)⟩
      · exact yr_of n c ce (r1 / 1461) (r1 % 1461 / 365) _ h0 h1 hc0 hce0 hce1 hq0 hq1 (by omega) (by omega) (by omega) (by omega) (by omega) (by omega)
      · rw [hce2]
      · rw [hce2]

/-- The day of the year as civil's last loop takes it: February 29 pushed out. -/
def Pushed (Y r R : Int) : Prop := lp Y = 0 ∧ R = r ∨ lp Y = 1 ∧ r < 59 ∧ R = r ∨ lp Y = 1 ∧ 59 < r ∧ R = r - 1

theorem feb29 {n Y : Int} (h : YR n Y 59) (hl : lp Y = 1) : Good n Y 2 29 := by
  refine ⟨h.y1, h.y2, by omega, by omega, by omega, by simp [dim, hl], ?_⟩
  have e : bef Y 2 = 31 := by simp [bef, D]
  have := h.eq
  unfold num; rw [e]; omega

theorem tail_good {n Y r R : Int} (h : YR n Y r) (hR : Pushed Y r R) (k : Nat) (h1 : 1 ≤ k) (h2 : k ≤ 12) (hlo : D (k - 1) ≤ R) (hhi : k = 12 ∨ R < D k) :
    Good n Y k (R - D (k - 1) + 1) := by
  have he := h.eq
  have hr2 := h.r2
  have hl := lp01 Y
  unfold Pushed at hR
  have hk : k = 1 ∨ k = 2 ∨ k = 3 ∨ k = 4 ∨ k = 5 ∨ k = 6 ∨ k = 7 ∨ k = 8 ∨ k = 9 ∨ k = 10 ∨ k = 11 ∨ k = 12 := by omega
  refine ⟨h.y1, h.y2, by omega, by omega, by omega, ?_, ?_⟩
  · rcases hk with rfl | rfl | rfl | rfl | rfl | rfl | rfl | rfl | rfl | rfl | rfl | rfl <;> simp [D] at hlo hhi <;> simp [dim, D] <;> omega
  · unfold num
    rcases hk with rfl | rfl | rfl | rfl | rfl | rfl | rfl | rfl | rfl | rfl | rfl | rfl <;> simp [D] at hlo hhi <;> simp [bef, D] <;> omega
theorem D_bounds (j : Nat) (h : j < 12) : 0 ≤ D j ∧ D j ≤ 334 := by
  have hk : j = 0 ∨ j = 1 ∨ j = 2 ∨ j = 3 ∨ j = 4 ∨ j = 5 ∨ j = 6 ∨ j = 7 ∨ j = 8 ∨ j = 9 ∨ j = 10 ∨ j = 11 := by omega
  rcases hk with rfl | rfl | rfl | rfl | rfl | rfl | rfl | rfl | rfl | rfl | rfl | rfl <;> simp [D]
theorem pos_of_lt {R : Int} {j : Nat} (h0 : 0 ≤ R) (h : R < D j) : 1 ≤ j := by
  rcases j with _ | j
  · simp [D] at h; omega
  · omega
theorem pushed0 {Y r : Int} (h : leapB Y = false) : Pushed Y r r := .inl ⟨leapB_false h, rfl⟩
theorem pushed1 {Y r : Int} (h : leapB Y = true) (h9 : (r == 59) = false) (hr : r ≤ 59) : Pushed Y r r := .inr (.inl ⟨leapB_true h, by simp at h9; omega, rfl⟩)
theorem pushed2 {Y r : Int} (h : leapB Y = true) (hr : 59 < r) : Pushed Y r (r - 1) := .inr (.inr ⟨leapB_true h, hr, rfl⟩)
theorem pushed_bounds {n Y r R : Int} (h : YR n Y r) (hR : Pushed Y r R) : 0 ≤ R ∧ R ≤ 364 := by
  have := h.r1; have := h.r2; unfold Pushed at hR; omega

theorem dim_bounds (y m : Int) : 28 ≤ dim y m ∧ dim y m ≤ 31 := by
  have := lp01 y
  unfold dim; split
  · omega
  · split <;> omega
theorem dim_leap {y : Int} (h : leapB y = true) : dim y 2 = 29 := by simp [dim, leapB_true h]
theorem dim_common {y : Int} (h : leapB y = false) : dim y 2 = 28 := by simp [dim, leapB_false h]
theorem bef_bounds (y m : Int) (h1 : 1 ≤ m) (h2 : m ≤ 12) : 0 ≤ bef y m ∧ bef y m ≤ 335 := by
  have := lp01 y
  have := D_bounds (m - 1).toNat (by omega)
  unfold bef; split <;> omega
theorem bef_one (y : Int) : bef y 1 = 0 := by simp [bef, D]
theorem bef_succ (y m : Int) (h1 : 1 ≤ m) (h2 : m < 12) : bef y (m + 1) = bef y m + dim y m := by
  have hm : m = 1 ∨ m = 2 ∨ m = 3 ∨ m = 4 ∨ m = 5 ∨ m = 6 ∨ m = 7 ∨ m = 8 ∨ m = 9 ∨ m = 10 ∨ m = 11 := by omega
  rcases hm with rfl | rfl | rfl | rfl | rfl | rfl | rfl | rfl | rfl | rfl | rfl <;> simp [bef, dim, D] <;> omega
theorem bef_13 (y : Int) : bef y 12 + dim y 12 = 365 + lp y := by simp [bef, dim, D]; omega
/-- Days before year 'y' .. -/
def base (y : Int) : Int := 365 * (y - 1) + (y - 1) / 4 - (y - 1) / 100 + (y - 1) / 400
theorem base_succ (y : Int) : base (y + 1) = base y + 365 + lp y := by
  unfold base lp; split <;> omega
theorem num_base (y m d : Int) : num y m d = base y + bef y m + d - 1 := rfl
theorem base_mono (y y' : Int) (h : y ≤ y') : base y ≤ base y' := by unfold base; omega
theorem bef_mono (y m m' : Int) (h1 : 1 ≤ m) (h : m < m') (h2 : m' ≤ 12) : bef y m + dim y m ≤ bef y m' := by
  have hs := bef_succ y m h1 (by omega)
  have key : ∀ j : Nat, m + 1 + j ≤ 12 → bef y (m + 1) ≤ bef y (m + 1 + j) := by
    intro j
    induction j with
    | zero => intro _; simp
    | succ j ih =>
      intro hj
      have a := ih (by omega)
      have b := bef_succ y (m + 1 + j) (by omega) (by omega)
      have c := dim_bounds y (m + 1 + j)
      have e : m + 1 + ((j + 1 : Nat) : Int) = m + 1 + (j : Int) + 1 := by omega
      rw [e]; omega
  have := key (m' - (m + 1)).toNat (by omega)
  rw [show m + 1 + ((m' - (m + 1)).toNat : Int) = m' by omega] at this
  omega
theorem bef_last (y m : Int) (h1 : 1 ≤ m) (h2 : m ≤ 12) : bef y m + dim y m ≤ 365 + lp y := by
  by_cases h : m = 12
  · subst h; rw [bef_13]; omega
  · have := bef_mono y m 12 h1 (by omega) (by omega); have := bef_13 y; have := dim_bounds y 12; omega

/-- Two good dates of one number are one date. -/
theorem unique {n y m d y' m' d' : Int} (h : Good n y m d) (h' : Good n y' m' d') : y = y' ∧ m = m' ∧ d = d' := by
  have hy : ∀ {y m d y' m' d' : Int}, Good n y m d → Good n y' m' d' → ¬ y < y' := by
    intro y m d y' m' d' h h' hlt
    have a := h.num; have b := h'.num
    rw [num_base] at a b
    have c := base_mono (y + 1) y' (by omega)
    rw [base_succ] at c
    have e := bef_last y m h.m1 h.m2
    have := h.d2; have := h'.d1
    have := bef_bounds y' m' h'.m1 h'.m2
    omega
  have e : y = y' := by have := hy h h'; have := hy h' h; omega
  subst e
  have hm : ∀ {m d m' d' : Int}, Good n y m d → Good n y m' d' → ¬ m < m' := by
    intro m d m' d' h h' hlt
    have a := h.num; have b := h'.num
    rw [num_base] at a b
    have c := bef_mono y m m' h.m1 hlt h'.m2
    have := h.d2; have := h'.d1
    omega
  have e : m = m' := by have := hm h h'; have := hm h' h; omega
  subst e
  have a := h.num; have b := h'.num
  rw [num_base] at a b
  exact ⟨rfl, rfl, by omega⟩

/-- The next day of a good date. -/
theorem next_same {n y m d : Int} (h : Good n y m d) (hd : d + 1 ≤ dim y m) : Good (n + 1) y m (d + 1) :=
  ⟨h.y1, h.y2, h.m1, h.m2, by have := h.d1; omega, hd, by have := h.num; rw [num_base] at *; omega⟩
theorem next_month {n y m d : Int} (h : Good n y m d) (hd : dim y m < d + 1) (hm : m < 12) : Good (n + 1) y (m + 1) 1 :=
  ⟨h.y1, h.y2, by have := h.m1; omega, by omega, by omega, by have := dim_bounds y (m + 1); omega, by
    have a := h.num; have := h.d2; have := bef_succ y m h.m1 hm; rw [num_base] at *; omega⟩
theorem next_year {n y m d : Int} (h : Good n y m d) (hd : dim y m < d + 1) (hm : ¬ m < 12) (hn : n < 3652058) : Good (n + 1) (y + 1) 1 1 := by
  have e : m = 12 := by have := h.m2; omega
  subst e
  have a := h.num
  have h2 := h.d2
  have b := bef_13 y
  have c := base_succ y
  have hb1 := bef_one (y + 1)
  have hb := h.y1
  have h9 := h.y2
  rw [num_base] at a
  refine ⟨by omega, ?_, by omega, by omega, by omega, by have := dim_bounds (y + 1) 1; omega, by rw [num_base]; omega⟩
  by_cases h99 : y = 9999
  · subst h99
    have e1 : base 9999 = 3651694 := by decide
    have e2 : lp 9999 = 0 := by decide
    omega
  · omega
end Go.Proofs.YbulknieDoor.Cal
