import Derived.Test.YbulknjuDrA
namespace Go.Proofs.Ybulknju

/-- The edges into v from what is not in T. -/
def cnt (E : List (Nat × Nat)) (T : List Nat) (v : Nat) : Nat := (E.filter fun e => e.2 == v && !(T.contains e.1)).length
def sucs (E : List (Nat × Nat)) (u : Nat) : List Nat := (E.filter fun e => e.1 == u).map (·.2)
theorem cnt_nil (E : List (Nat × Nat)) (v : Nat) : cnt E [] v = ((E.filter fun e => e.2 == v).map (·.1)).length := by
  unfold cnt; rw [List.length_map]; congr 1; apply List.filter_congr; intro e _; simp
theorem cnt_cons (e : Nat × Nat) (E : List (Nat × Nat)) (T : List Nat) (v : Nat) : cnt (e :: E) T v = (if e.2 = v ∧ e.1 ∉ T then 1 else 0) + cnt E T v := by
  unfold cnt
  rw [List.filter_cons]
  by_cases h : e.2 = v ∧ e.1 ∉ T
  · rw [if_pos h, if_pos (by simp [h.1, h.2]), List.length_cons]; omega
  · rw [if_neg h, if_neg (by simpa using h)]; omega
theorem sucs_cons (e : Nat × Nat) (E : List (Nat × Nat)) (u v : Nat) : (sucs (e :: E) u).count v = (if e.1 = u ∧ e.2 = v then 1 else 0) + (sucs E u).count v := by
  unfold sucs
  rw [List.filter_cons]
  by_cases h : e.1 = u
  · rw [if_pos (by simp [h]), List.map_cons, List.count_cons]
    by_cases h2 : e.2 = v
    · rw [if_pos (by simp [h2]), if_pos ⟨h, h2⟩]; omega
    · rw [if_neg (by simp [h2]), if_neg (fun hh => h2 hh.2)]; omega
  · rw [if_neg (by simp [h]), if_neg (fun hh => h hh.1)]; omega
theorem cnt_split {u : Nat} {T : List Nat} (hu : u ∉ T) (v : Nat) : ∀ E : List (Nat × Nat), cnt E T v = cnt E (T ++ [u]) v + (sucs E u).count v
  | [] => rfl
  | e :: E => by
    have ih := cnt_split hu v E
    rw [cnt_cons, cnt_cons, sucs_cons]
    by_cases h1 : e.1 = u
    · have h3 : e.1 ∉ T := by rw [h1]; exact hu
      have h4 : e.1 ∈ T ++ [u] := by rw [h1]; simp
      rw [if_neg (fun h : e.2 = v ∧ e.1 ∉ T ++ [u] => h.2 h4)]
      by_cases h2 : e.2 = v
      · rw [if_pos ⟨h2, h3⟩, if_pos ⟨h1, h2⟩]; omega
      · rw [if_neg (fun h => h2 h.1), if_neg (fun h => h2 h.2)]; omega
    · rw [if_neg (fun h : e.1 = u ∧ e.2 = v => h1 h.1)]
      have h4 : e.1 ∈ T ++ [u] ↔ e.1 ∈ T := by simp [h1]
      simp only [h4]
      omega
theorem cnt_zero {E : List (Nat × Nat)} {T : List Nat} {v : Nat} : cnt E T v = 0 ↔ ∀ e ∈ E, e.2 = v → e.1 ∈ T := by
  unfold cnt
  rw [List.length_eq_zero_iff, List.filter_eq_nil_iff]
  constructor
  · intro h e he hv
    have := h e he
    simpa [hv] using this
  · intro h e he
    simp only [Bool.and_eq_true, beq_iff_eq, Bool.not_eq_true', not_and]
    intro hv
    have := h e he hv
    simpa using this

/-- Each operation behind those that an edge leads from. -/
def Ord (E : List (Nat × Nat)) (T : List Nat) : Prop := ∀ e ∈ E, ∀ A B, T = A ++ e.2 :: B → e.1 ∈ A
/-- Between two rounds of 'topological'. -/
structure Tp (E : List (Nat × Nat)) (n : Nat) (T L : List Nat) (f : Nat → Int) : Prop where
  nd : (T ++ L).Nodup
  lt : ∀ v ∈ T ++ L, v < n
  deg : ∀ v, v < n → f v = (cnt E T v : Nat)
  zero : ∀ v, v < n → (v ∈ T ++ L ↔ f v = 0)
  ord : Ord E T
/-- .. in the midst of one. -/
structure Ti (E : List (Nat × Nat)) (n : Nat) (T : List Nat) (u : Nat) (L : List Nat) (k : Nat) (f : Nat → Int) : Prop where
  nd : (T ++ [u] ++ L).Nodup
  lt : ∀ v ∈ T ++ [u] ++ L, v < n
  deg : ∀ v, v < n → f v = (cnt E T v : Nat) - (((sucs E u).take k).count v : Nat)
  zero : ∀ v, v < n → (v ∈ T ++ [u] ++ L ↔ f v = 0)
  ord : Ord E (T ++ [u])
theorem Tp.start {E : List (Nat × Nat)} {n : Nat} {f : Nat → Int} (hf : ∀ v, v < n → f v = (cnt E [] v : Nat)) : Tp E n [] ((List.range n).filter fun v => f v == 0) f := by
  refine ⟨?_, fun v hv => ?_, hf, fun v hv => ?_, fun e _ A B h => ?_⟩
  · rw [List.nil_append]; exact List.nodup_range.filter _
  · rw [List.nil_append] at hv; exact List.mem_range.1 (List.mem_filter.1 hv).1
  · simp [hv]
  · cases A <;> cases h
theorem Tp.pop {E : List (Nat × Nat)} {n : Nat} {T L : List Nat} {u : Nat} {f : Nat → Int} (h : Tp E n T (L ++ [u]) f) : Ti E n T u L 0 f := by
  have hp : (T ++ (L ++ [u])).Perm (T ++ [u] ++ L) := by
    rw [List.append_assoc]
    exact List.Perm.append_left T List.perm_append_comm
  refine ⟨(hp.nodup_iff).1 h.nd, fun v hv => h.lt v (hp.mem_iff.2 hv), fun v hv => ?_, fun v hv => ?_, fun e he A B hAB => ?_⟩
  · rw [h.deg v hv]; simp
  · rw [← hp.mem_iff]; exact h.zero v hv
  · have hu : u < n := h.lt u (by simp)
    have hz : cnt E T u = 0 := by
      have h1 := (h.zero u hu).1 (by simp)
      have h2 := h.deg u hu
      omega
    have hz' := cnt_zero.1 hz
    rcases List.eq_nil_or_concat B with rfl | ⟨B', b, rfl⟩
    · have h1 : T ++ [u] = A ++ [e.2] := hAB
      obtain ⟨rfl, h2⟩ := List.append_inj' h1 rfl
      cases h2
      exact hz' e he rfl
    · have h1 : T ++ [u] = (A ++ e.2 :: B') ++ [b] := by rw [hAB, List.concat_eq_append]; simp
      obtain ⟨h2, _⟩ := List.append_inj' h1 rfl
      exact h.ord e he A B' h2
theorem take_count {l : List Nat} {k : Nat} (hk : k < l.length) (v : Nat) : (l.take (k + 1)).count v = (l.take k).count v + (if l[k]! = v then 1 else 0) := by
  rw [List.take_succ_eq_append_getElem hk, List.count_append, getElem!_pos l k hk]
  congr 1
  by_cases h : l[k] = v <;> simp [h]
theorem Ti.low {E : List (Nat × Nat)} {n : Nat} {T : List Nat} {u : Nat} {L : List Nat} {k : Nat} {f : Nat → Int} (h : Ti E n T u L k f) (hk : k < (sucs E u).length) (hv : (sucs E u)[k]! < n) : 1 ≤ f (sucs E u)[k]! ∧ (sucs E u)[k]! ∉ T ++ [u] ++ L := by
  obtain ⟨v, ev⟩ : ∃ v, v = (sucs E u)[k]! := ⟨_, rfl⟩
  rw [← ev] at hv ⊢
  have hu : u ∉ T := by
    have h1 := h.nd
    rw [List.append_assoc] at h1
    intro hm
    exact (List.nodup_append.1 h1).2.2 u hm u (by simp) rfl
  have h1 := cnt_split hu v E
  have h2 : ((sucs E u).take k).count v + 1 ≤ (sucs E u).count v := by
    have h3 := take_count hk v
    rw [if_pos ev.symm] at h3
    rw [← h3]
    exact (List.take_sublist _ _).count_le v
  have h3 := h.deg v hv
  have h4 : 1 ≤ f v := by omega
  exact ⟨h4, fun hm => by have := (h.zero v hv).1 hm; omega⟩
theorem Ti.next {E : List (Nat × Nat)} {n : Nat} {T : List Nat} {u : Nat} {L : List Nat} {k : Nat} {f : Nat → Int} (h : Ti E n T u L k f) (hk : k < (sucs E u).length) (hv : (sucs E u)[k]! < n) (x : Int) (hx : x = f (sucs E u)[k]! - 1) :
    Ti E n T u (if x = 0 then L ++ [(sucs E u)[k]!] else L) (k + 1) (upd f (sucs E u)[k]! x) := by
  obtain ⟨l1, l2⟩ := h.low hk hv
  have htk := take_count hk
  obtain ⟨v, ev⟩ : ∃ v, v = (sucs E u)[k]! := ⟨_, rfl⟩
  rw [← ev] at hv l1 l2 hx htk ⊢
  have hdeg : ∀ y, y < n → upd f v x y = (cnt E T y : Nat) - (((sucs E u).take (k + 1)).count y : Nat) := fun y hy => by
    rw [htk]
    have := h.deg y hy
    unfold upd
    split
    · next e => subst e; rw [if_pos rfl]; omega
    · next e => rw [if_neg (Ne.symm e)]; omega
  split
  · next h0 =>
    refine ⟨?_, fun y hy => ?_, hdeg, fun y hy => ?_, h.ord⟩
    · rw [← List.append_assoc]
      refine List.nodup_append.2 ⟨h.nd, by simp, fun a ha b hb => ?_⟩
      rw [List.mem_singleton] at hb; subst hb
      rintro rfl; exact l2 ha
    · rw [← List.append_assoc] at hy
      rcases List.mem_append.1 hy with hy | hy
      · exact h.lt y hy
      · rw [List.mem_singleton] at hy; subst hy; exact hv
    · rw [← List.append_assoc, List.mem_append, List.mem_singleton]
      unfold upd
      split
      · next e => subst e; simp [h0]
      · next e => rw [or_iff_left e]; exact h.zero y hy
  · next h0 =>
    refine ⟨h.nd, h.lt, hdeg, fun y hy => ?_, h.ord⟩
    unfold upd
    split
    · next e => subst e; exact ⟨fun hm => absurd hm l2, fun h1 => absurd h1 h0⟩
    · exact h.zero y hy
theorem Ti.done {E : List (Nat × Nat)} {n : Nat} {T : List Nat} {u : Nat} {L : List Nat} {f : Nat → Int} (h : Ti E n T u L (sucs E u).length f) : Tp E n (T ++ [u]) L f := by
  have hu : u ∉ T := by
    have h1 := h.nd
    rw [List.append_assoc] at h1
    intro hm
    exact (List.nodup_append.1 h1).2.2 u hm u (by simp) rfl
  refine ⟨h.nd, h.lt, fun v hv => ?_, h.zero, h.ord⟩
  have h1 := h.deg v hv
  rw [List.take_length] at h1
  have h2 := cnt_split hu v E
  omega
theorem nodup_le : ∀ (A B : List Nat), A.Nodup → (∀ a ∈ A, a ∈ B) → A.length ≤ B.length
  | [], _, _, _ => Nat.zero_le _
  | a :: A, B, h, hs => by
    have h1 := hs a List.mem_cons_self
    have h2 := nodup_le A (B.erase a) (List.nodup_cons.1 h).2 (fun x hx => (List.mem_erase_of_ne (fun e => by subst e; exact (List.nodup_cons.1 h).1 hx)).2 (hs x (List.mem_cons_of_mem _ hx)))
    rw [List.length_erase_of_mem h1] at h2
    have : 0 < B.length := List.length_pos_of_mem h1
    simp only [List.length_cons]
    omega
theorem Tp.len {E : List (Nat × Nat)} {n : Nat} {T L : List Nat} {f : Nat → Int} (h : Tp E n T L f) : T.length + L.length ≤ n := by
  have := nodup_le (T ++ L) (List.range n) h.nd (fun a ha => List.mem_range.2 (h.lt a ha))
  rw [List.length_append, List.length_range] at this
  exact this
theorem Tp.all {E : List (Nat × Nat)} {n : Nat} {T : List Nat} {f : Nat → Int} (h : Tp E n T [] f) (hE : ∀ e ∈ E, e.1 < e.2 ∧ e.2 < n) : T.length = n ∧ (∀ v, v < n → v ∈ T) ∧ T.Nodup := by
  have hm : ∀ v, v < n → v ∈ T := by
    intro v
    induction v using Nat.strongRecOn with
    | ind v ih =>
      intro hv
      have hz : cnt E T v = 0 := cnt_zero.2 fun e he hev => ih e.1 (by have := (hE e he).1; omega) (by have := hE e he; omega)
      have h1 := h.deg v hv
      have h2 := (h.zero v hv).2 (by omega)
      simpa using h2
  have hnd : T.Nodup := by have := h.nd; rwa [List.append_nil] at this
  refine ⟨?_, hm, hnd⟩
  have h1 := h.len
  have h2 := nodup_le (List.range n) T List.nodup_range (fun a ha => hm a (List.mem_range.1 ha))
  rw [List.length_range] at h2
  simp at h1
  omega
end Go.Proofs.Ybulknju
