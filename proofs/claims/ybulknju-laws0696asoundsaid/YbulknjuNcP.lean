import Derived.Test.YbulknjuCrw
namespace Go.Proofs.Ybulknju

/-- Of the chain c', what has been laid out when chain c stands at i. -/
def prt (H : List (List Nat)) (c i c' : Nat) : List Nat := if c' < c then H[c']! else if c' = c then (H[c]!).take i else []
def pW (O : List OpR) (k o : Nat) : Bool := !(opAt O o).rd && ky O o == k
def pR (O : List OpR) (k o : Nat) : Bool := (opAt O o).rd && ky O o == k
def fl (p : Nat → Nat → Bool) (H : List (List Nat)) (c i k : Nat) : List (List Nat) := (List.range H.length).map fun c' => (prt H c i c').filter (p k)
theorem fl_len (p : Nat → Nat → Bool) (H : List (List Nat)) (c i k : Nat) : (fl p H c i k).length = H.length := by simp [fl]
theorem fl_at (p : Nat → Nat → Bool) (H : List (List Nat)) (c i k : Nat) {c' : Nat} (h : c' < H.length) : (fl p H c i k)[c']! = (prt H c i c').filter (p k) := by
  rw [getElem!_pos _ c' (by rw [fl_len]; exact h)]; simp [fl]
theorem fl_ext {p : Nat → Nat → Bool} {H : List (List Nat)} {c i k : Nat} {L : List (List Nat)} (hl : L.length = H.length) (h : ∀ c', c' < H.length → (prt H c i c').filter (p k) = L[c']!) : fl p H c i k = L := by
  apply List.ext_getElem (by rw [fl_len, hl])
  intro j h1 h2
  rw [fl_len] at h1
  rw [← getElem!_pos _ j (by rw [fl_len]; exact h1), ← getElem!_pos L j h2, fl_at _ _ _ _ _ h1]
  exact h j h1
theorem fl_zero (p : Nat → Nat → Bool) (H : List (List Nat)) (k : Nat) : fl p H 0 0 k = List.replicate H.length [] := by
  refine fl_ext (by simp) fun c' hc' => ?_
  rw [getElem!_pos _ c' (by simpa using hc')]
  unfold prt
  rw [if_neg (by omega)]
  split <;> simp
theorem prt_next (H : List (List Nat)) {c i : Nat} (hi : i < (H[c]!).length) (c' : Nat) : prt H c (i + 1) c' = if c' = c then prt H c i c ++ [(H[c]!)[i]!] else prt H c i c' := by
  unfold prt
  by_cases h : c' = c
  · subst h
    rw [if_neg (Nat.lt_irrefl _), if_pos rfl, if_pos rfl, if_neg (Nat.lt_irrefl _), if_pos rfl, List.take_succ_eq_append_getElem hi, getElem!_pos _ i hi]
  · rw [if_neg h, if_neg h, if_neg h]
theorem fl_yes {p : Nat → Nat → Bool} {H : List (List Nat)} {c i k : Nat} (hc : c < H.length) (hi : i < (H[c]!).length) (hp : p k (H[c]!)[i]! = true) : fl p H c (i + 1) k = (fl p H c i k).set c ((fl p H c i k)[c]! ++ [(H[c]!)[i]!]) := by
  refine fl_ext (by rw [List.length_set, fl_len]) fun c' hc' => ?_
  rw [set_get (by rw [fl_len]; exact hc), prt_next H hi, fl_at _ _ _ _ _ hc, fl_at _ _ _ _ _ hc']
  split
  · rw [List.filter_append, List.filter_cons, if_pos hp, List.filter_nil]
  · rfl
theorem fl_no {p : Nat → Nat → Bool} {H : List (List Nat)} {c i k : Nat} (hi : i < (H[c]!).length) (hp : p k (H[c]!)[i]! = false) : fl p H c (i + 1) k = fl p H c i k := by
  refine fl_ext (fl_len _ _ _ _ _) fun c' hc' => ?_
  rw [prt_next H hi, fl_at _ _ _ _ _ hc']
  split
  · next e => subst e; rw [List.filter_append, List.filter_cons, if_neg (by rw [hp]; exact Bool.false_ne_true), List.filter_nil, List.append_nil]
  · rfl
theorem fl_row (p : Nat → Nat → Bool) (H : List (List Nat)) (c k : Nat) : fl p H c (H[c]!).length k = fl p H (c + 1) 0 k := by
  refine fl_ext (fl_len _ _ _ _ _) fun c' hc' => ?_
  rw [fl_at _ _ _ _ _ hc']
  congr 1
  unfold prt
  by_cases h1 : c' < c
  · rw [if_pos h1, if_pos (by omega)]
  · rw [if_neg h1]
    by_cases h2 : c' = c
    · subst h2; rw [if_pos rfl, if_pos (by omega), List.take_length]
    · rw [if_neg h2, if_neg (by omega)]
      split <;> simp
theorem fl_end (p : Nat → Nat → Bool) (H : List (List Nat)) (k : Nat) : fl p H H.length 0 k = H.map fun l => l.filter (p k) := by
  refine fl_ext (by simp) fun c' hc' => ?_
  unfold prt
  rw [if_pos hc', getElem!_pos (H.map _) c' (by simpa using hc'), getElem!_pos H c' hc', List.getElem_map]
theorem fl_wr (O : List OpR) (H : List (List Nat)) (k : Nat) : fl (pW O) H H.length 0 k = wrL O H k := fl_end _ _ _
theorem fl_re (O : List OpR) (H : List (List Nat)) (k : Nat) : fl (pR O) H H.length 0 k = reL O H k := fl_end _ _ _
/-- Whether o has been laid out when chain c stands at i. -/
abbrev dn (co po : Nat → Nat) (c i o : Nat) : Prop := co o < c ∨ (co o = c ∧ po o < i)
def ofA (co po : Nat → Nat) (c i o : Nat) : Int := if dn co po c i o then (co o : Nat) else -1
def atA (co po : Nat → Nat) (c i o : Nat) : Int := if dn co po c i o then (po o : Nat) else 0
theorem dn_next {n : Nat} {H : List (List Nat)} {co po : Nat → Nat} (hc : Col n H co po) {c i : Nat} (hcl : c < H.length) (hi : i < (H[c]!).length) {o : Nat} (ho : o < n) : dn co po c (i + 1) o ↔ (dn co po c i o ∨ o = (H[c]!)[i]!) := by
  obtain ⟨b1, b2, b3⟩ := hc.bwd c i hcl hi
  obtain ⟨f1, f2, f3⟩ := hc.fwd o ho
  unfold dn
  constructor
  · rintro (h | ⟨h1, h2⟩)
    · exact .inl (.inl h)
    · rcases Nat.lt_or_ge (po o) i with h3 | h3
      · exact .inl (.inr ⟨h1, h3⟩)
      · have : po o = i := by omega
        rw [h1, this] at f3
        exact .inr f3.symm
  · rintro ((h | ⟨h1, h2⟩) | h)
    · exact .inl h
    · exact .inr ⟨h1, by omega⟩
    · subst h; exact .inr ⟨b2, by omega⟩
theorem dn_row {n : Nat} {H : List (List Nat)} {co po : Nat → Nat} (hc : Col n H co po) {c : Nat} {o : Nat} (ho : o < n) : dn co po c (H[c]!).length o ↔ dn co po (c + 1) 0 o := by
  obtain ⟨f1, f2, f3⟩ := hc.fwd o ho
  unfold dn
  constructor
  · rintro (h | ⟨h1, _⟩)
    · exact .inl (by omega)
    · exact .inl (by omega)
  · rintro (h | ⟨_, h2⟩)
    · rcases Nat.lt_or_ge (co o) c with h1 | h1
      · exact .inl h1
      · have : co o = c := by omega
        rw [this] at f2
        exact .inr ⟨this, f2⟩
    · omega
theorem ofA_next {n : Nat} {H : List (List Nat)} {co po : Nat → Nat} (hc : Col n H co po) {c i : Nat} (hcl : c < H.length) (hi : i < (H[c]!).length) {o : Nat} (ho : o < n) : upd (ofA co po c i) (H[c]!)[i]! (c : Nat) o = ofA co po c (i + 1) o := by
  obtain ⟨b1, b2, b3⟩ := hc.bwd c i hcl hi
  have h := dn_next hc hcl hi ho
  unfold upd ofA
  by_cases e : o = (H[c]!)[i]!
  · rw [if_pos e, if_pos (h.2 (.inr e)), e, b2]
  · rw [if_neg e]
    by_cases hd : dn co po c i o
    · rw [if_pos hd, if_pos (h.2 (.inl hd))]
    · rw [if_neg hd, if_neg (fun hh => (h.1 hh).elim hd e)]
theorem atA_next {n : Nat} {H : List (List Nat)} {co po : Nat → Nat} (hc : Col n H co po) {c i : Nat} (hcl : c < H.length) (hi : i < (H[c]!).length) {o : Nat} (ho : o < n) : upd (atA co po c i) (H[c]!)[i]! (i : Nat) o = atA co po c (i + 1) o := by
  obtain ⟨b1, b2, b3⟩ := hc.bwd c i hcl hi
  have h := dn_next hc hcl hi ho
  unfold upd atA
  by_cases e : o = (H[c]!)[i]!
  · rw [if_pos e, if_pos (h.2 (.inr e)), e, b3]
  · rw [if_neg e]
    by_cases hd : dn co po c i o
    · rw [if_pos hd, if_pos (h.2 (.inl hd))]
    · rw [if_neg hd, if_neg (fun hh => (h.1 hh).elim hd e)]
end Go.Proofs.Ybulknju
