import Derived.Test.YbulknjuRcP
namespace Go.Proofs.Ybulknju

/-- z is the last write to k among the first m operations; -1 for none. -/
def LastW (O : List OpR) (m k : Nat) (z : Int) : Prop := (z = -1 ∧ ∀ w, w < m → (opAt O w).rd = false → (opAt O w).kx ≠ k) ∨ ∃ w : Nat, z = (w : Nat) ∧ w < m ∧ (opAt O w).rd = false ∧ (opAt O w).kx = k ∧ ∀ x, x < m → w < x → (opAt O x).rd = false → (opAt O x).kx ≠ k
theorem app_at (O : List OpR) (x : OpR) {i : Nat} (h : i < O.length) : opAt (O ++ [x]) i = (opAt O i) := by
  rw [opAt_pos _ i (by simp; omega), opAt_pos O i h, List.getElem_append_left]
theorem app_last (O : List OpR) (x : OpR) : opAt (O ++ [x]) O.length = x := by
  rw [opAt_pos _ O.length (by simp), List.getElem_append_right (Nat.le_refl _)]; simp
theorem LastW.app {O : List OpR} {m k : Nat} {z : Int} (h : LastW O m k z) (hm : m ≤ O.length) (x : OpR) : LastW (O ++ [x]) m k z := by
  rcases h with ⟨h1, h2⟩ | ⟨w, h1, h2, h3, h4, h5⟩
  · exact .inl ⟨h1, fun w hw => by rw [app_at O x (by omega)]; exact h2 w hw⟩
  · exact .inr ⟨w, h1, h2, by rw [app_at O x (by omega)]; exact h3, by rw [app_at O x (by omega)]; exact h4, fun y hy => by rw [app_at O x (by omega)]; exact h5 y hy⟩
theorem LastW.skip {O : List OpR} {k : Nat} {z : Int} (h : LastW O O.length k z) (x : OpR) (hx : x.rd = false → x.kx ≠ k) : LastW (O ++ [x]) (O.length + 1) k z := by
  rcases h.app (Nat.le_refl _) x with ⟨h1, h2⟩ | ⟨w, h1, h2, h3, h4, h5⟩
  · refine .inl ⟨h1, fun w hw => ?_⟩
    rcases Nat.lt_or_ge w O.length with h | h
    · exact h2 w h
    · have : w = O.length := by omega
      subst this; rw [app_last]; exact hx
  · refine .inr ⟨w, h1, by omega, h3, h4, fun y hy hwy => ?_⟩
    rcases Nat.lt_or_ge y O.length with h | h
    · exact h5 y h hwy
    · have : y = O.length := by omega
      subst this; rw [app_last]; exact hx
theorem LastW.new (O : List OpR) (x : OpR) (hx : x.rd = false) : LastW (O ++ [x]) (O.length + 1) x.kx (O.length : Nat) :=
  .inr ⟨O.length, rfl, by omega, by rw [app_last]; exact hx, by rw [app_last], fun y hy hw => by omega⟩
/-- The processes hold the operations, each in one, in their order. -/
structure Bp (O : List OpR) (P : Nat → List Nat) : Prop where
  inc : ∀ p, (P p).Pairwise (· < ·)
  lt : ∀ p o, o ∈ P p → o < O.length
  all : ∀ o, o < O.length → ∃ p, p < 3 ∧ o ∈ P p
  one : ∀ p q o, o ∈ P p → o ∈ P q → p = q
theorem Bp.add {O : List OpR} {P : Nat → List Nat} (h : Bp O P) {p : Nat} (hp : p < 3) (x : OpR) : Bp (O ++ [x]) (upd P p (P p ++ [O.length])) := by
  have hm : ∀ q o, o ∈ upd P p (P p ++ [O.length]) q ↔ o ∈ P q ∨ (q = p ∧ o = O.length) := fun q o => by
    unfold upd
    by_cases e : q = p
    · subst e; rw [if_pos rfl]; simp
    · rw [if_neg e]; simp [e]
  refine ⟨fun q => ?_, fun q o ho => ?_, fun o ho => ?_, fun q r o h1 h2 => ?_⟩
  · unfold upd
    split
    · rw [List.pairwise_append]
      exact ⟨h.inc p, by simp, fun a ha b hb => by rw [List.mem_singleton] at hb; subst hb; exact h.lt p a ha⟩
    · exact h.inc q
  · rw [List.length_append, List.length_singleton]
    rcases (hm q o).1 ho with h1 | ⟨_, h1⟩
    · have := h.lt q o h1; omega
    · omega
  · rw [List.length_append, List.length_singleton] at ho
    rcases Nat.lt_or_ge o O.length with h1 | h1
    · obtain ⟨q, hq, hq'⟩ := h.all o h1
      exact ⟨q, hq, (hm q o).2 (.inl hq')⟩
    · exact ⟨p, hp, (hm p o).2 (.inr ⟨rfl, by omega⟩)⟩
  · rcases (hm q o).1 h1 with a | ⟨a, a'⟩ <;> rcases (hm r o).1 h2 with b | ⟨b, b'⟩
    · exact h.one q r o a b
    · have := h.lt q o a; omega
    · have := h.lt r o b; omega
    · rw [a, b]
/-- What 'build' keeps. -/
structure Bi (s : BS) : Prop where
  bp : Bp s.O s.P
  kx : ∀ i, i < s.O.length → (opAt s.O i).kx < 2
  lst : ∀ k, k < 2 → LastW s.O s.O.length k (s.l k)
  src : ∀ r, r < s.O.length → (opAt s.O r).rd = true → LastW s.O r (opAt s.O r).kx (opAt s.O r).fr
theorem Bi.start : Bi ⟨[], fun _ => [], fun _ => -1⟩ :=
  ⟨⟨fun _ => List.Pairwise.nil, fun _ _ h => absurd h List.not_mem_nil, fun o h => absurd h (Nat.not_lt_zero o), fun _ _ _ h => absurd h List.not_mem_nil⟩, fun i h => absurd h (Nat.not_lt_zero i), fun _ _ => .inl ⟨rfl, fun w h => absurd h (Nat.not_lt_zero w)⟩, fun r h => absurd h (Nat.not_lt_zero r)⟩
theorem Bi.step {s : BS} (h : Bi s) (z : Z6) : Bi (s.step z) := by
  unfold BS.step
  split
  · refine ⟨h.bp.add (pz_lt z) _, fun i hi => ?_, fun k hk => ?_, fun r hr hrd => ?_⟩
    · simp only [BS.add, List.length_append, List.length_singleton] at hi ⊢
      rcases Nat.lt_or_ge i s.O.length with h1 | h1
      · rw [app_at _ _ h1]; exact h.kx i h1
      · have : i = s.O.length := by omega
        subst this; rw [app_last]; exact kz_lt z
    · simp only [BS.add, List.length_append, List.length_singleton]
      exact (h.lst k hk).skip _ (fun e => by cases e)
    · simp only [BS.add, List.length_append, List.length_singleton] at hr hrd ⊢
      rcases Nat.lt_or_ge r s.O.length with h1 | h1
      · rw [app_at _ _ h1] at hrd ⊢
        exact (h.src r h1 hrd).app (by omega) _
      · have : r = s.O.length := by omega
        subst this; rw [app_last]
        simp only [if_true]
        exact (h.lst (kz z) (kz_lt z)).app (Nat.le_refl _) _
  · refine ⟨h.bp.add (pz_lt z) _, fun i hi => ?_, fun k hk => ?_, fun r hr hrd => ?_⟩
    · simp only [BS.add, List.length_append, List.length_singleton] at hi ⊢
      rcases Nat.lt_or_ge i s.O.length with h1 | h1
      · rw [app_at _ _ h1]; exact h.kx i h1
      · have : i = s.O.length := by omega
        subst this; rw [app_last]; exact kz_lt z
    · simp only [BS.add, List.length_append, List.length_singleton]
      unfold upd
      by_cases e : k = kz z
      · subst e; rw [if_pos rfl]; exact LastW.new s.O ⟨false, kz z, _⟩ rfl
      · rw [if_neg e]; exact (h.lst k hk).skip _ (fun _ he => e he.symm)
    · simp only [BS.add, List.length_append, List.length_singleton] at hr hrd ⊢
      rcases Nat.lt_or_ge r s.O.length with h1 | h1
      · rw [app_at _ _ h1] at hrd ⊢
        exact (h.src r h1 hrd).app (by omega) _
      · have : r = s.O.length := by omega
        subst this; rw [app_last] at hrd; cases hrd
theorem Bi.run (zs : Nat → Z6) : ∀ n, Bi (runB zs n)
  | 0 => Bi.start
  | n + 1 => (Bi.run zs n).step (zs n)
theorem ky_eq {O : List OpR} {a b : Nat} : ky O a = ky O b ↔ (opAt O a).kx = (opAt O b).kx := keyK_eq (kxO O) a b
/-- Where the reads' sources are the last writes before them, every link that is asked goes on. -/
theorem lks_true {O : List OpR} (H : List (List Nat)) (hs : ∀ r, r < O.length → (opAt O r).rd = true → LastW O r (opAt O r).kx (opAt O r).fr) : Lks O H true := by
  have hsi : ∀ r, r < O.length → (opAt O r).rd = true → ((opAt O r).fr = -1 ∧ sI O r = (O.length : Int) + (ky O r : Nat)) ∨ ∃ w : Nat, (opAt O r).fr = (w : Nat) ∧ sI O r = (w : Nat) := fun r hr hrd => by
    unfold sI ky
    rw [if_pos hrd]
    rcases hs r hr hrd with ⟨h1, _⟩ | ⟨w, h1, _⟩
    · exact .inl ⟨h1, by rw [if_pos h1]⟩
    · exact .inr ⟨w, h1, by rw [if_neg (by omega)]; exact h1⟩
  refine ⟨fun o ho => keyK_lt (kxO O) ho, fun r u hr hu hrd hw hk hur hne => ?_, fun r x u hr hx hrd he hu hw hk hux => ?_, fun r x hr hx hrd he hw hk => ?_, fun r hr hrd => ?_, fun r u hr hrd he hu => ?_⟩
  · rw [ky_eq] at hk
    rcases hs r hr hrd with ⟨_, h2⟩ | ⟨w, h1, h2, h3, h4, h5⟩
    · exact absurd hk.symm (h2 u hur hw)
    · rcases hsi r hr hrd with ⟨h6, _⟩ | ⟨w', h6, h7⟩
      · omega
      · have : w' = w := by omega
        subst this
        refine ⟨w', h7, by omega, .inl ?_⟩
        rcases Nat.lt_or_ge w' u with h8 | h8
        · exact absurd hk.symm (h5 u hur h8 hw)
        · rcases Nat.lt_or_ge u w' with h9 | h9
          · exact h9
          · exact absurd (show sI O r = (u : Nat) by rw [h7]; omega) hne
  · rw [ky_eq] at hk
    rcases hsi r hr hrd with ⟨_, h7⟩ | ⟨w', h6, h7⟩
    · omega
    · have : w' = u := by omega
      subst this
      rcases hs r hr hrd with ⟨h1, _⟩ | ⟨w, h1, h2, h3, h4, h5⟩
      · omega
      · have : w = w' := by omega
        subst this
        refine .inl ?_
        rcases Nat.lt_or_ge x r with h8 | h8
        · exact absurd hk (h5 x h8 hux hw)
        · rcases Nat.lt_or_ge r x with h9 | h9
          · exact h9
          · have : x = r := by omega
            subst this; rw [hrd] at hw; cases hw
  · rw [ky_eq] at hk
    rcases hs r hr hrd with ⟨_, h2⟩ | ⟨w, h1, h2, _⟩
    · refine .inl ?_
      rcases Nat.lt_or_ge x r with h8 | h8
      · exact absurd hk (h2 x h8 hw)
      · rcases Nat.lt_or_ge r x with h9 | h9
        · exact h9
        · have : x = r := by omega
          subst this; rw [hrd] at hw; cases hw
    · rcases hsi r hr hrd with ⟨h6, _⟩ | ⟨w', h6, h7⟩ <;> omega
  · have hkl := keyK_lt (kxO O) hr
    rcases hsi r hr hrd with ⟨_, h7⟩ | ⟨w', h6, h7⟩
    · rw [h7]; unfold ky kk; constructor <;> omega
    · rcases hs r hr hrd with ⟨h1, _⟩ | ⟨w, h1, h2, _⟩
      · omega
      · rw [h7]; constructor <;> omega
  · rcases hsi r hr hrd with ⟨_, h7⟩ | ⟨w', h6, h7⟩
    · omega
    · rcases hs r hr hrd with ⟨h1, _⟩ | ⟨w, h1, h2, h3, h4, _⟩
      · omega
      · have : w = u := by omega
        subst this
        exact ⟨h3, ky_eq.2 h4⟩
end Go.Proofs.Ybulknju
