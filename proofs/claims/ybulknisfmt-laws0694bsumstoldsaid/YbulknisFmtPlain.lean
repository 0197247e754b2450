import Derived.Test.YbulknisFmtLot
/-
  The plain law: sums by holding over sorted lists. No Go in sight.
-/
namespace Go.Proofs.YbulknisFmt

/-- A holding's number, in holding order. -/
def kn (x : Lot) : Nat := (x.acc.val * 4 + x.ag.val) * 3 + x.fd.val
def gq (c : Fin 3) (d : Int) (q : Nat) (x : Lot) : Int := if kn x = q ∧ x.fd = c ∧ x.reg ≤ d then x.sh else 0
def sumN (f : Nat → Int) : Nat → Int
  | 0 => 0
  | k + 1 => sumN f k + f k
def sumL (f : Lot → Int) : List Lot → Int
  | [] => 0
  | x :: l => f x + sumL f l
/-- What holding q is entitled to. -/
def S (c : Fin 3) (d : Int) (L : List Lot) (q : Nat) : Int := sumL (gq c d q) L
def canon (c : Fin 3) (d : Int) (L : List Lot) (k : Nat) : List (Nat × Int) := (List.range k).filterMap fun q => if S c d L q = 0 then none else some (q, S c d L q)
def bound (L : List Lot) (i : Nat) : Nat := if i < L.length then kn (lotAt L i) else 48
def Sorted (L : List Lot) : Prop := ∀ i j, i < j → j < L.length → ¬ lx (lotAt L j) (lotAt L i)

theorem kn_lt (x : Lot) : kn x < 48 := by unfold kn; have := x.acc.isLt; have := x.ag.isLt; have := x.fd.isLt; omega
theorem kn_eq {x y : Lot} (h : kn x = kn y) : x.acc = y.acc ∧ x.ag = y.ag ∧ x.fd = y.fd := by
  unfold kn at h
  have := x.acc.isLt; have := x.ag.isLt; have := x.fd.isLt; have := y.acc.isLt; have := y.ag.isLt; have := y.fd.isLt
  refine ⟨Fin.ext ?_, Fin.ext ?_, Fin.ext ?_⟩ <;> omega
theorem not_lx {x y : Lot} (h : ¬ lx y x) : kn x ≤ kn y ∧ (kn x = kn y → x.reg ≤ y.reg) := by
  unfold lx at h
  unfold kn
  have := x.acc.isLt; have := x.ag.isLt; have := x.fd.isLt; have := y.acc.isLt; have := y.ag.isLt; have := y.fd.isLt
  omega

theorem sumN_congr {f g : Nat → Int} {n : Nat} (h : ∀ t, t < n → f t = g t) : sumN f n = sumN g n := by
  induction n with
  | zero => rfl
  | succ n ih => simp only [sumN]; rw [ih (fun t ht => h t (by omega)), h n (by omega)]
theorem sumN_zero {f : Nat → Int} {n : Nat} (h : ∀ t, t < n → f t = 0) : sumN f n = 0 := by
  induction n with
  | zero => rfl
  | succ n ih => simp only [sumN]; rw [ih (fun t ht => h t (by omega)), h n (by omega)]; rfl
theorem sumN_add (f : Nat → Int) (n m : Nat) : sumN f (n + m) = sumN f n + sumN (fun t => f (n + t)) m := by
  induction m with
  | zero => simp [sumN]
  | succ m ih => rw [← Nat.add_assoc]; simp only [sumN]; rw [ih]; omega
theorem sumL_append (f : Lot → Int) (l l' : List Lot) : sumL f (l ++ l') = sumL f l + sumL f l' := by
  induction l with
  | nil => simp [sumL]
  | cons x l ih => simp only [List.cons_append, sumL]; rw [ih]; omega
theorem sumL_perm (f : Lot → Int) {l l' : List Lot} (h : l.Perm l') : sumL f l = sumL f l' := by
  induction h with
  | nil => rfl
  | cons x _ ih => simp only [sumL]; rw [ih]
  | swap x y l => simp only [sumL]; omega
  | trans _ _ ih1 ih2 => rw [ih1, ih2]
theorem sumL_eq (f : Lot → Int) (L : List Lot) : sumL f L = sumN (fun t => f (lotAt L t)) L.length := by
  induction L with
  | nil => rfl
  | cons x l ih =>
    rw [List.length_cons, Nat.add_comm, sumN_add]
    simp only [sumL, sumN]
    rw [ih]
    have h1 : lotAt (x :: l) 0 = x := rfl
    have h2 : ∀ t, lotAt (x :: l) (1 + t) = lotAt l t := fun t => by rw [Nat.add_comm]; rfl
    simp only [h1, h2]
    omega
theorem sumL_zero {f : Lot → Int} {L : List Lot} (h : ∀ x ∈ L, f x = 0) : sumL f L = 0 := by
  induction L with
  | nil => rfl
  | cons x l ih => simp only [sumL]; rw [h x (by simp), ih (fun y hy => h y (by simp [hy]))]; rfl
theorem getElem!_mem' {L : List Lot} {t : Nat} (h : t < L.length) : (lotAt L t) ∈ L := by rw [lotAt_pos L t h]; exact List.getElem_mem _

/-- A group's run holds all of its holding's lots. -/
theorem S_run {c : Fin 3} {d : Int} {L : List Lot} {i j q : Nat} (hij : i ≤ j) (hj : j ≤ L.length) (hlo : ∀ t, t < i → kn (lotAt L t) ≠ q) (hhi : ∀ t, j ≤ t → t < L.length → kn (lotAt L t) ≠ q) :
    S c d L q = sumN (fun t => gq c d q (lotAt L (i + t))) (j - i) := by
  unfold S
  rw [sumL_eq]
  obtain ⟨m, hm⟩ : ∃ m, m = L.length - j := ⟨_, rfl⟩
  have e : L.length = i + ((j - i) + m) := by omega
  rw [e, sumN_add, sumN_add]
  rw [sumN_zero (n := i) (fun t ht => by unfold gq; rw [if_neg (fun h => hlo t ht h.1)])]
  rw [sumN_zero (n := m) (fun t ht => by unfold gq; rw [if_neg (fun h => hhi (i + (j - i + t)) (by omega) (by omega) h.1)])]
  omega

theorem canon_succ (c : Fin 3) (d : Int) (L : List Lot) (k : Nat) : canon c d L (k + 1) = canon c d L k ++ (if S c d L k = 0 then [] else [(k, S c d L k)]) := by
  unfold canon
  rw [List.range_succ, List.filterMap_append]
  congr 1
  by_cases h : S c d L k = 0 <;> simp [h]
theorem canon_skip {c : Fin 3} {d : Int} {L : List Lot} {k : Nat} (m : Nat) (h : ∀ t, k ≤ t → t < k + m → S c d L t = 0) : canon c d L (k + m) = canon c d L k := by
  induction m with
  | zero => rfl
  | succ m ih => rw [← Nat.add_assoc, canon_succ, ih (fun t h1 h2 => h t h1 (by omega)), if_pos (h (k + m) (by omega) (by omega)), List.append_nil]
theorem canon_le {c : Fin 3} {d : Int} {L : List Lot} {k k' : Nat} (h : k ≤ k') : ∃ r, canon c d L k' = canon c d L k ++ r := by
  obtain ⟨m, rfl⟩ : ∃ m, k' = k + m := ⟨k' - k, by omega⟩
  clear h
  induction m with
  | zero => exact ⟨[], by simp⟩
  | succ m ih => obtain ⟨r, hr⟩ := ih; rw [← Nat.add_assoc, canon_succ, hr, List.append_assoc]; exact ⟨_, rfl⟩
theorem canon_congr {c : Fin 3} {d : Int} {L L' : List Lot} (h : ∀ q, S c d L q = S c d L' q) (k : Nat) : canon c d L k = canon c d L' k := by
  unfold canon; simp only [h]

/-- One group: [i, j). -/
structure Run (L : List Lot) (i j : Nat) : Prop where
  lt : i < j
  le : j ≤ L.length
  same : ∀ t, i ≤ t → t < j → kn (lotAt L t) = kn (lotAt L i)
  next : j < L.length → kn (lotAt L j) ≠ kn (lotAt L i)
  low : ∀ t, t < i → kn (lotAt L t) < kn (lotAt L i)
theorem Run.after {L : List Lot} {i j : Nat} (h : Run L i j) (hs : Sorted L) : ∀ t, j ≤ t → t < L.length → kn (lotAt L i) < kn (lotAt L t) := by
  intro t h1 h2
  have hj : j < L.length := by omega
  have a := (not_lx (hs i j h.lt hj)).1
  have b := h.next hj
  rcases Nat.lt_or_ge j t with h3 | h3
  · have := (not_lx (hs j t h3 h2)).1; omega
  · obtain rfl : j = t := by omega
    omega
theorem Run.bound_lt {L : List Lot} {i j : Nat} (h : Run L i j) (hs : Sorted L) : kn (lotAt L i) < bound L j := by
  unfold bound
  split
  · next hj => exact h.after hs j (Nat.le_refl _) hj
  · exact kn_lt _
theorem Run.low_next {L : List Lot} {i j : Nat} (h : Run L i j) (hs : Sorted L) : ∀ t, t < j → kn (lotAt L t) < bound L j := by
  intro t ht
  have hb := h.bound_lt hs
  rcases Nat.lt_or_ge t i with h1 | h1
  · have := h.low t h1; omega
  · rw [h.same t h1 ht]; exact hb
theorem Run.canon {L : List Lot} {i j : Nat} (h : Run L i j) (hs : Sorted L) (c : Fin 3) (d : Int) :
    canon c d L (bound L j) = canon c d L (bound L i) ++ (if S c d L (kn (lotAt L i)) = 0 then [] else [(kn (lotAt L i), S c d L (kn (lotAt L i)))]) := by
  have hi : bound L i = kn (lotAt L i) := by unfold bound; rw [if_pos (by have := h.lt; have := h.le; omega)]
  have hb := h.bound_lt hs
  rw [hi, ← canon_succ]
  obtain ⟨m, hm⟩ : ∃ m, bound L j = kn (lotAt L i) + 1 + m := ⟨bound L j - (kn (lotAt L i) + 1), by omega⟩
  rw [hm]
  refine canon_skip m fun t h1 h2 => ?_
  have hj : ∀ t', j ≤ t' → t' < L.length → kn (lotAt L t') ≠ t := by
    intro t' h3 h4 e
    have : bound L j ≤ kn (lotAt L t') := by
      unfold bound
      rw [if_pos (by omega)]
      rcases Nat.lt_or_ge j t' with h5 | h5
      · exact (not_lx (hs j t' h5 h4)).1
      · obtain rfl : j = t' := by omega
        exact Nat.le_refl _
    omega
  rw [S_run (i := j) (j := j) (Nat.le_refl _) h.le (fun t' ht' e => by
    rcases Nat.lt_or_ge t' i with h5 | h5
    · have := h.low t' h5; omega
    · have := h.same t' h5 ht'; omega) hj]
  simp [sumN]
theorem Run.sum {L : List Lot} {i j : Nat} (h : Run L i j) (hs : Sorted L) (c : Fin 3) (d : Int) : S c d L (kn (lotAt L i)) = sumN (fun t => gq c d (kn (lotAt L i)) (lotAt L (i + t))) (j - i) :=
  S_run (Nat.le_of_lt h.lt) h.le (fun t ht => Nat.ne_of_lt (h.low t ht)) (fun t h1 h2 => Nat.ne_of_gt (h.after hs t h1 h2))
/-- The law's own sum. -/
theorem Run.sum_all {L : List Lot} {i j : Nat} (h : Run L i j) (hs : Sorted L) {c : Fin 3} {d : Int} (hall : ∀ x ∈ L, x.fd = c ∧ x.reg ≤ d) : S c d L (kn (lotAt L i)) = sumN (fun t => (lotAt L (i + t)).sh) (j - i) := by
  rw [h.sum hs]
  refine sumN_congr fun t ht => ?_
  have hm := hall _ (getElem!_mem' (L := L) (t := i + t) (by have := h.le; omega))
  unfold gq
  rw [if_pos ⟨h.same _ (by omega) (by omega), hm⟩]
/-- Entitled's sum: the run's lots up to the first that is later than d. -/
theorem Run.sum_pre {L : List Lot} {i j m : Nat} (h : Run L i j) (hs : Sorted L) {c : Fin 3} {d : Int} (hc : (lotAt L i).fd = c) (h1 : i ≤ m) (h2 : m ≤ j) (hlo : ∀ t, i ≤ t → t < m → (lotAt L t).reg ≤ d) (hhi : m < j → d < (lotAt L m).reg) :
    S c d L (kn (lotAt L i)) = sumN (fun t => (lotAt L (i + t)).sh) (m - i) := by
  rw [h.sum hs]
  obtain ⟨r, hr⟩ : ∃ r, r = j - m := ⟨_, rfl⟩
  have e : j - i = (m - i) + r := by omega
  rw [e, sumN_add]
  rw [sumN_zero (n := r) (fun t ht => by
    unfold gq
    rw [if_neg]
    rintro ⟨_, _, h5⟩
    have hmj : m < j := by omega
    have h6 := hhi hmj
    rcases Nat.eq_zero_or_pos t with rfl | h7
    · rw [show i + (m - i + 0) = m by omega] at h5; omega
    · have h8 := (not_lx (hs m (i + (m - i + t)) (by omega) (by have := h.le; omega))).2 ((h.same m (by omega) hmj).trans (h.same _ (by omega) (by omega)).symm)
      omega), Int.add_zero]
  refine sumN_congr fun t ht => ?_
  have hk := h.same (i + t) (by omega) (by omega)
  have hf : (lotAt L (i + t)).fd = c := by rw [(kn_eq hk).2.2]; exact hc
  unfold gq
  rw [if_pos ⟨hk, hf, hlo _ (by omega) (by omega)⟩]
theorem S_other {c : Fin 3} {d : Int} {L : List Lot} {x : Lot} (hx : x.fd ≠ c) : S c d L (kn x) = 0 := sumL_zero fun y _ => by
  unfold gq
  rw [if_neg]
  rintro ⟨h1, h2, _⟩
  exact hx ((kn_eq h1).2.2 ▸ h2)
end Go.Proofs.YbulknisFmt
