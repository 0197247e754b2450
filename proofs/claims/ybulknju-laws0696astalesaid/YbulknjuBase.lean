import Derived.Test.YbulknjuLayB
import Derived.Test.YbulknjuNewG
namespace Go.Proofs.Ybulknju
open Go.RowKit

/-- The roles of what does not turn any more: the history and its layout. -/
def RS : Role → Prop := fun r => r = .chk ∨ r = .ops ∨ r = .frm ∨ r = .swp ∨ r = .procs ∨ (∃ p, r = .proc p) ∨ r = .lay ∨ r = .key ∨ r = .src ∨ r = .rdH ∨ ∃ s, r = .rd s
/-- The history and its layout. -/
structure Base (ρ : Rho) (w : World) (C Lb : Nat) (O : List OpR) (Q : List Nat) (P : Nat → List Nat) (F : List (List Nat)) (vo vp vf vs vk vpc vps vsr vrd vsw : Value) : Prop where
  chk : Chk ρ w C O Q P vo vp vf vs
  st : St ρ w .lay Lb 58 #[.pointer (some ⟨C, 0, none⟩), .int .i64 ((tabK (kxO O) O.length).length : Nat), vk, vpc, vps, vsr, vrd, vsw, .slice none 0 0]
  key : FRow ρ w .key vk O.length (fun i => (keyK (kxO O) i : Nat))
  src : FRow ρ w .src vsr O.length (sI O)
  rds : Rag ρ w .rdH .rd vrd F
theorem Base.keep {R : Role → Prop} {ρ ρ' : Rho} {w w' : World} {C Lb : Nat} {O : List OpR} {Q : List Nat} {P : Nat → List Nat} {F : List (List Nat)} {vo vp vf vs vk vpc vps vsr vrd vsw : Value} (h : Base ρ w C Lb O Q P F vo vp vf vs vk vpc vps vsr vrd vsw) (hk : Stp R ρ w ρ' w') (hr : ∀ r, RS r → ¬ R r) :
    Base ρ' w' C Lb O Q P F vo vp vf vs vk vpc vps vsr vrd vsw :=
  ⟨h.chk.keep hk (hr _ (by simp [RS])) (hr _ (by simp [RS])) (hr _ (by simp [RS])) (hr _ (by simp [RS])) (hr _ (by simp [RS])) (fun _ => hr _ (by simp [RS])), h.st.keep hk (hr _ (by simp [RS])), h.key.keep hk (hr _ (by simp [RS])), h.src.keep hk (hr _ (by simp [RS])), h.rds.keep hk (hr _ (by simp [RS])) (fun _ => hr _ (by simp [RS]))⟩
theorem Base.of {ρ ρ' : Rho} {w w' : World} {C Lb : Nat} {O : List OpR} {Q : List Nat} {P : Nat → List Nat} {F : List (List Nat)} {vo vp vf vs vk vpc vps vsr vrd vsw : Value} (h : Chk ρ w C O Q P vo vp vf vs) (hj : J10 ρ w Lb C O (sI O) F vk vpc vps vsr vrd vsw ρ' w') : Base ρ' w' C Lb O Q P F vo vp vf vs vk vpc vps vsr vrd vsw :=
  ⟨h.keepL hj.stp, hj.lay.st, hj.lay.key, hj.lay.src, hj.rds⟩

/-- The graph by its edges, in the order in which they were added. -/
def succOf (n : Nat) (E : List (Nat × Nat)) : List (List Nat) := (List.range n).map fun u => (E.filter fun e => e.1 == u).map (·.2)
def predOf (n : Nat) (E : List (Nat × Nat)) : List (List Nat) := (List.range n).map fun v => (E.filter fun e => e.2 == v).map (·.1)
theorem succOf_len (n : Nat) (E : List (Nat × Nat)) : (succOf n E).length = n := by simp [succOf]
theorem predOf_len (n : Nat) (E : List (Nat × Nat)) : (predOf n E).length = n := by simp [predOf]
theorem succOf_at {n u : Nat} (E : List (Nat × Nat)) (h : u < n) : (succOf n E)[u]! = (E.filter fun e => e.1 == u).map (·.2) := by
  rw [getElem!_pos _ u (by rw [succOf_len]; exact h)]; simp [succOf]
theorem predOf_at {n v : Nat} (E : List (Nat × Nat)) (h : v < n) : (predOf n E)[v]! = (E.filter fun e => e.2 == v).map (·.1) := by
  rw [getElem!_pos _ v (by rw [predOf_len]; exact h)]; simp [predOf]
theorem succOf_add {n u v : Nat} (E : List (Nat × Nat)) (h : u < n) : succOf n (E ++ [(u, v)]) = (succOf n E).set u ((succOf n E)[u]! ++ [v]) := by
  apply List.ext_getElem (by simp [succOf])
  intro i h1 h2
  rw [succOf_len] at h1
  rw [← getElem!_pos _ i (by rw [succOf_len]; exact h1), ← getElem!_pos _ i (by simp [succOf]; exact h1), succOf_at _ h1, set_get (by rw [succOf_len]; exact h), succOf_at _ h, succOf_at _ h1, List.filter_append, List.map_append]
  split
  · next e => subst e; simp
  · next e => simp [Ne.symm e]
theorem predOf_add {n u v : Nat} (E : List (Nat × Nat)) (h : v < n) : predOf n (E ++ [(u, v)]) = (predOf n E).set v ((predOf n E)[v]! ++ [u]) := by
  apply List.ext_getElem (by simp [predOf])
  intro i h1 h2
  rw [predOf_len] at h1
  rw [← getElem!_pos _ i (by rw [predOf_len]; exact h1), ← getElem!_pos _ i (by simp [predOf]; exact h1), predOf_at _ h1, set_get (by rw [predOf_len]; exact h), predOf_at _ h, predOf_at _ h1, List.filter_append, List.map_append]
  split
  · next e => subst e; simp
  · next e => simp [Ne.symm e]
theorem succOf_nil (n : Nat) : succOf n [] = List.replicate n [] := by
  unfold succOf; apply List.ext_getElem (by simp); intro i h1 h2; simp
theorem predOf_nil (n : Nat) : predOf n [] = List.replicate n [] := by
  unfold predOf; apply List.ext_getElem (by simp); intro i h1 h2; simp
theorem succOf_small {n : Nat} (E : List (Nat × Nat)) (u : Nat) : ((succOf n E)[u]!).length ≤ E.length := by
  rcases Nat.lt_or_ge u n with h | h
  · rw [succOf_at _ h, List.length_map]; exact List.length_filter_le _ _
  · rw [getElem!_neg _ u (by rw [succOf_len]; omega)]; exact Nat.zero_le _
theorem predOf_small {n : Nat} (E : List (Nat × Nat)) (u : Nat) : ((predOf n E)[u]!).length ≤ E.length := by
  rcases Nat.lt_or_ge u n with h | h
  · rw [predOf_at _ h, List.length_map]; exact List.length_filter_le _ _
  · rw [getElem!_neg _ u (by rw [predOf_len]; omega)]; exact Nat.zero_le _
end Go.Proofs.Ybulknju
