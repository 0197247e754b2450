import Derived.Test.YbulknjuPlD
namespace Go.Proofs.Ybulknju

/-- What one read owes. -/
structure LkR (O : List OpR) (H : List (List Nat)) (hon : Bool) (r : Nat) : Prop where
  s1 : ∀ u, u < O.length → (opAt O u).rd = false → (opAt O r).kx = (opAt O u).kx → u < r → sI O r ≠ (u : Nat) → ∃ s : Nat, sI O r = (s : Nat) ∧ s < O.length ∧ Lk H hon u s
  s2 : ∀ x u : Nat, x < O.length → sI O r = (u : Nat) → u < O.length → (opAt O x).rd = false → (opAt O x).kx = (opAt O r).kx → u < x → Lk H hon r x
  s3 : ∀ x : Nat, x < O.length → (O.length : Int) ≤ sI O r → (opAt O x).rd = false → (opAt O x).kx = (opAt O r).kx → Lk H hon r x
  src : 0 ≤ sI O r ∧ sI O r < (O.length + kk O : Nat)
  srcw : ∀ u : Nat, sI O r = (u : Nat) → u < O.length → (opAt O u).rd = false ∧ (opAt O u).kx = (opAt O r).kx ∧ u < r
theorem lks_of {O : List OpR} {H : List (List Nat)} {hon : Bool} (h : ∀ r, r < O.length → (opAt O r).rd = true → LkR O H hon r) : Lks O H hon :=
  ⟨fun _ ho => keyK_lt (kxO O) ho, fun r u hr hu hrd hw hk hur hne => (h r hr hrd).s1 u hu hw (ky_eq.1 hk) hur hne, fun r x u hr hx hrd he hu hw hk hux => (h r hr hrd).s2 x u hx he hu hw (ky_eq.1 hk) hux, fun r x hr hx hrd he hw hk => (h r hr hrd).s3 x hx he hw (ky_eq.1 hk), fun r hr hrd => (h r hr hrd).src, fun r u hr hrd he hu => ⟨((h r hr hrd).srcw u he hu).1, ky_eq.2 ((h r hr hrd).srcw u he hu).2.1⟩⟩
theorem LkR.last {O : List OpR} {H : List (List Nat)} {hon : Bool} {r : Nat} (hr : r < O.length) (hrd : (opAt O r).rd = true) (hl : LastW O r (opAt O r).kx (opAt O r).fr) : LkR O H hon r := by
  have hkl := keyK_lt (kxO O) hr
  have hge : ∀ x, (opAt O x).rd = false → ¬ x < r → r < x := fun x hw h8 => by
    rcases Nat.lt_or_ge r x with h9 | h9
    · exact h9
    · have : x = r := by omega
      subst this; rw [hrd] at hw; cases hw
  rcases hl with ⟨h1, h2⟩ | ⟨w, h1, h2, h3, h4, h5⟩
  · have hs : sI O r = (O.length : Int) + (ky O r : Nat) := by unfold sI ky; rw [if_pos hrd, if_pos h1]
    refine ⟨fun u _ hw hk hur _ => absurd hk.symm (h2 u hur hw), fun x u _ he hu _ _ _ => by omega, fun x _ _ hw hk => .inl (hge x hw fun h8 => h2 x h8 hw hk), ?_, fun u he hu => by omega⟩
    rw [hs]; unfold ky kk; constructor <;> omega
  · have hs : sI O r = (w : Nat) := by unfold sI; rw [if_pos hrd, if_neg (by omega)]; exact h1
    refine ⟨fun u _ hw hk hur hne => ⟨w, hs, by omega, .inl ?_⟩, fun x u _ he _ hw hk hux => .inl (hge x hw fun h8 => ?_), fun x _ he _ _ => by omega, by rw [hs]; constructor <;> omega, fun u he _ => ?_⟩
    · rcases Nat.lt_or_ge w u with h8 | h8
      · exact absurd hk.symm (h5 u hur h8 hw)
      · rcases Nat.lt_or_ge u w with h9 | h9
        · exact h9
        · exact absurd (show sI O r = (u : Nat) by rw [hs]; omega) hne
    · have : w = u := by omega
      subst this
      exact h5 x h8 hux hw hk
    · have : w = u := by omega
      subst this
      exact ⟨h3, h4, h2⟩
/-- The history with the stale end. -/
theorem stale_O (s : BS) : s.stale.O = ((s.O ++ [⟨false, 0, -1⟩]) ++ [⟨false, 0, -1⟩]) ++ [⟨true, 0, (s.O.length : Nat)⟩] := rfl
theorem stale_at {s : BS} : (∀ i, i < s.O.length → (opAt s.stale.O i) = (opAt s.O i)) ∧ (opAt s.stale.O (s.O.length)) = ⟨false, 0, -1⟩ ∧ (opAt s.stale.O (s.O.length + 1)) = ⟨false, 0, -1⟩ ∧ (opAt s.stale.O (s.O.length + 2)) = ⟨true, 0, (s.O.length : Nat)⟩ := by
  rw [stale_O]
  refine ⟨fun i hi => ?_, ?_, ?_, ?_⟩
  · rw [app_at _ _ (by simp; omega), app_at _ _ (by simp; omega), app_at _ _ hi]
  · rw [app_at _ _ (by simp), app_at _ _ (by simp), app_last]
  · rw [app_at _ _ (by simp)]
    have := app_last (s.O ++ [⟨false, 0, -1⟩]) ⟨false, 0, -1⟩
    simp only [List.length_append, List.length_singleton] at this
    exact this
  · have := app_last ((s.O ++ [⟨false, 0, -1⟩]) ++ [⟨false, 0, -1⟩]) ⟨true, 0, (s.O.length : Nat)⟩
    simp only [List.length_append, List.length_singleton] at this
    exact this
theorem stale_len (s : BS) : s.stale.O.length = s.O.length + 3 := by rw [stale_O]; simp
theorem lks_stale {s : BS} (h : Bi s) (H : List (List Nat)) (hv1 : Rev H (s.O.length + 1) s.O.length) (hv2 : Rev H (s.O.length + 2) (s.O.length + 1)) : Lks s.stale.O H false := by
  obtain ⟨a0, a1, a2, a3⟩ := stale_at (s := s)
  have hl := stale_len s
  refine lks_of fun r hr hrd => ?_
  rw [hl] at hr
  rcases Nat.lt_or_ge r s.O.length with h1 | h1
  · refine LkR.last (by omega) hrd ?_
    rw [a0 r h1] at hrd ⊢
    rw [stale_O]
    have := h.src r h1 hrd
    exact ((this.app (by omega) _).app (by simp; omega) _).app (by simp; omega) _
  · have hr3 : r = s.O.length ∨ r = s.O.length + 1 ∨ r = s.O.length + 2 := by omega
    rcases hr3 with rfl | rfl | rfl
    · rw [a1] at hrd; cases hrd
    · rw [a2] at hrd; cases hrd
    · have hs : sI s.stale.O (s.O.length + 2) = (s.O.length : Nat) := by unfold sI; rw [a3]; simp
      have hx : ∀ x, x < s.stale.O.length → (opAt s.stale.O x).rd = false → s.O.length < x → x = s.O.length + 1 := fun x hx hw hlt => by
        have : x = s.O.length + 1 ∨ x = s.O.length + 2 := by omega
        rcases this with rfl | rfl
        · rfl
        · rw [a3] at hw; cases hw
      refine ⟨fun u hu hw _ hur hne => ⟨s.O.length, hs, by omega, ?_⟩, fun x u hxl he _ hw _ hux => ?_, fun x _ he _ _ => by omega, by rw [hs]; constructor <;> omega, fun u he _ => ?_⟩
      · rcases Nat.lt_or_ge u s.O.length with h2 | h2
        · exact .inl h2
        · have h3 : u ≠ s.O.length := fun e => hne (by rw [hs, e])
          have := hx u hu hw (by omega)
          subst this
          exact .inr ⟨rfl, hv1⟩
      · have : u = s.O.length := by omega
        subst this
        have := hx x hxl hw hux
        subst this
        exact .inr ⟨rfl, hv2⟩
      · have : u = s.O.length := by omega
        subst this
        rw [a1, a3]
        exact ⟨rfl, rfl, by omega⟩
end Go.Proofs.Ybulknju
