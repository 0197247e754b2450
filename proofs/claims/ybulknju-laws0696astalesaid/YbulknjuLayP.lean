import Derived.Test.YbulknjuGraph
import Derived.Maps.OwnSet
import Derived.StringKeys
import Derived.Deep.RegionHeld2
namespace Go.Proofs.Ybulknju
open Go.RowKit Go.Maps Go.WideMaps

/-- A row whose number i is f i. -/
def FRow (ρ : Rho) (w : World) (r : Role) (v : Value) (n : Nat) (f : Nat → Int) : Prop := Row ρ w r 3 1 v n ((List.range n).map fun i => .int .i64 (f i))
theorem FRow.keep {R : Role → Prop} {ρ ρ' : Rho} {w w' : World} {r : Role} {v : Value} {n : Nat} {f : Nat → Int} (h : FRow ρ w r v n f) (hk : Stp R ρ w ρ' w') (hr : ¬ R r) : FRow ρ' w' r v n f := Row.keep h hk hr
theorem FRow.congr {ρ : Rho} {w : World} {r : Role} {v : Value} {n : Nat} {f g : Nat → Int} (h : FRow ρ w r v n f) (e : ∀ i, i < n → f i = g i) : FRow ρ w r v n g := by
  have : (List.range n).map (fun i => Value.int .i64 (f i)) = (List.range n).map (fun i => Value.int .i64 (g i)) := List.map_congr_left fun i hi => by rw [e i (List.mem_range.1 hi)]
  unfold FRow; rw [← this]; exact h
theorem FRow.cell {ρ : Rho} {w : World} {r : Role} {n : Nat} {f : Nat → Int} {g cap : Nat} (h : FRow ρ w r (.slice (some ⟨g, 0, none⟩) n cap) n f) {j : Nat} (hj : j < n) : w.cell? ⟨g, j, none⟩ = some (.int .i64 (f j)) := by
  rw [Row.cell h (by omega)]; simp [hj]
theorem FRow.set {ρ : Rho} {w : World} {r : Role} {n : Nat} {f : Nat → Int} {g cap : Nat} (h : FRow ρ w r (.slice (some ⟨g, 0, none⟩) n cap) n f) (j : Nat) (x : Int) : FRow ρ (w.setCell ⟨g, j, none⟩ (.int .i64 x)) r (.slice (some ⟨g, 0, none⟩) n cap) n (upd f j x) := by
  have := Row.set h j (.int .i64 x)
  have e : ((List.range n).map fun i => Value.int .i64 (f i)).set j (.int .i64 x) = (List.range n).map fun i => Value.int .i64 (upd f j x i) := by
    apply List.ext_getElem (by simp)
    intro i h1 h2
    simp only [List.length_map, List.length_range] at h2
    rw [List.getElem_set]
    simp only [List.getElem_map, List.getElem_range, upd]
    split
    · next e => subst e; simp
    · next e => rw [if_neg (fun h => e h.symm)]
  rw [e] at this
  exact this
theorem FRow.made {ρ : Rho} {w : World} {r : Role} {n : Nat} (hm : n ≤ maxLen) : FRow (ext ρ w r) (w.alloc (.cells (madeCells #[.int .i64 0] n) 3)) r (.slice (some ⟨w.heap.size, 0, none⟩) n n) n (fun _ => 0) := by
  have := Row.made (ρ := ρ) (w := w) (r := r) (e := 3) (.int .i64 0) hm
  have e : (List.range n).map (fun _ => Value.int .i64 0) = List.replicate n (.int .i64 0) := by rw [List.map_const']; simp
  unfold FRow; rw [e]; exact this
theorem Rag.made {ρ : Rho} {w : World} {h : Role} {rr : Nat → Role} {n : Nat} (hm : n ≤ maxLen) : Rag (ext ρ w h) (w.alloc (.cells (madeCells #[.slice none 0 0] n) 38)) h rr (.slice (some ⟨w.heap.size, 0, none⟩) n n) (List.replicate n []) := by
  refine ⟨List.replicate n (.slice none 0 0), by simp, ?_, fun i hi => ?_⟩
  · rw [List.length_replicate]; exact Row.made (.slice none 0 0) hm
  · rw [List.length_replicate] at hi
    rw [getElem!_pos _ i (by simpa using hi), getElem!_pos _ i (by simpa using hi)]
    simp only [List.getElem_replicate]
    exact NRow.nil _ _ _

/-- The keys' table: the letters in the order in which they come up. -/
def tabK (kx : Nat → Nat) : Nat → List Nat
  | 0 => []
  | k + 1 => if kx k ∈ tabK kx k then tabK kx k else tabK kx k ++ [kx k]
def keyK (kx : Nat → Nat) (o : Nat) : Nat := (tabK kx (o + 1)).idxOf (kx o)
theorem tabK_forms (kx : Nat → Nat) (h : ∀ i, kx i < 2) (k : Nat) : tabK kx k = [] ∨ tabK kx k = [0] ∨ tabK kx k = [1] ∨ tabK kx k = [0, 1] ∨ tabK kx k = [1, 0] := by
  induction k with
  | zero => exact .inl rfl
  | succ k ih =>
    have hx : kx k = 0 ∨ kx k = 1 := by have := h k; omega
    simp only [tabK]
    rcases ih with e | e | e | e | e <;> rw [e] <;> rcases hx with e' | e' <;> rw [e'] <;> simp
theorem tabK_mem (kx : Nat → Nat) (k : Nat) : kx k ∈ tabK kx (k + 1) := by
  simp only [tabK]; split
  · assumption
  · simp
theorem tabK_le (kx : Nat → Nat) {k m : Nat} (h : k ≤ m) : ∃ r, tabK kx m = tabK kx k ++ r := by
  obtain ⟨d, rfl⟩ : ∃ d, m = k + d := ⟨m - k, by omega⟩
  clear h
  induction d with
  | zero => exact ⟨[], by simp⟩
  | succ d ih =>
    obtain ⟨r, hr⟩ := ih
    rw [← Nat.add_assoc]
    simp only [tabK]
    split
    · exact ⟨r, hr⟩
    · rw [hr, List.append_assoc]; exact ⟨_, rfl⟩
theorem keyK_at (kx : Nat → Nat) {o m : Nat} (h : o < m) : keyK kx o = (tabK kx m).idxOf (kx o) := by
  obtain ⟨r, hr⟩ := tabK_le kx (k := o + 1) (m := m) h
  rw [hr, List.idxOf_append, if_pos (tabK_mem kx o)]; rfl
theorem mem_tabK (kx : Nat → Nat) {o m : Nat} (h : o < m) : kx o ∈ tabK kx m := by
  obtain ⟨r, hr⟩ := tabK_le kx (k := o + 1) (m := m) h
  rw [hr]; exact List.mem_append_left _ (tabK_mem kx o)
theorem keyK_lt (kx : Nat → Nat) {o m : Nat} (h : o < m) : keyK kx o < (tabK kx m).length := by
  rw [keyK_at kx h]; exact List.idxOf_lt_length_of_mem (mem_tabK kx h)
theorem keyK_eq (kx : Nat → Nat) (o o' : Nat) : keyK kx o = keyK kx o' ↔ kx o = kx o' := by
  have h1 : o < max o o' + 1 := by omega
  have h2 : o' < max o o' + 1 := by omega
  rw [keyK_at kx h1, keyK_at kx h2]
  constructor
  · intro e
    have a := List.getElem_idxOf (List.idxOf_lt_length_of_mem (mem_tabK kx h1))
    have b := List.getElem_idxOf (List.idxOf_lt_length_of_mem (mem_tabK kx h2))
    rw [← a, ← b]
    simp only [e]
  · intro e; rw [e]
theorem tabK_len (kx : Nat → Nat) (h : ∀ i, kx i < 2) (k : Nat) : (tabK kx k).length ≤ 2 := by
  rcases tabK_forms kx h k with e | e | e | e | e <;> rw [e] <;> simp

def kl (x : Nat) : Lit := .string (kn x).data.toList
/-- The map that holds the table. -/
def tabD (T : List Nat) : DataW Unit := T.zipIdx.foldl (fun D p => D.put (kl p.1) (.lit (.int .i64 p.2))) (.map [])
theorem law : Keyed Yba.prog 72 := string_keyed Yba.underlying72
theorem keyOf_kn (x : Nat) : keyOf Yba.prog 72 (.string (kn x)) = some (kl x) := keyOf_string_mk Yba.underlying72 (by unfold kn maxLen; split <;> (show (1 : Nat) ≤ _; omega))
theorem zero3 (w : World) : (zeroValue 3).run Yba.prog w = .ok (.int .i64 0) w := by kernel_rfl
/-- The map's own word at a letter. -/
theorem tab_has {T : List Nat} (hT : T = [] ∨ T = [0] ∨ T = [1] ∨ T = [0, 1] ∨ T = [1, 0]) {x : Nat} (hx : x < 2) : Maps.has (tabD T) (kl x) = decide (x ∈ T) := by
  have hx' : x = 0 ∨ x = 1 := by omega
  rcases hT with rfl | rfl | rfl | rfl | rfl <;> rcases hx' with rfl | rfl <;> rfl
theorem tab_at {T : List Nat} (hT : T = [] ∨ T = [0] ∨ T = [1] ∨ T = [0, 1] ∨ T = [1, 0]) {x : Nat} (hx : x < 2) (hm : x ∈ T) : (tabD T).atKey (kl x) (.lit (.int .i64 0)) = .lit (.int .i64 (T.idxOf x)) := by
  have hx' : x = 0 ∨ x = 1 := by omega
  rcases hT with rfl | rfl | rfl | rfl | rfl <;> rcases hx' with rfl | rfl <;> first | rfl | (simp at hm)
theorem tab_put {T : List Nat} (hT : T = [] ∨ T = [0] ∨ T = [1] ∨ T = [0, 1] ∨ T = [1, 0]) {x : Nat} (hx : x < 2) (hm : x ∉ T) : (tabD T).put (kl x) (.lit (.int .i64 T.length)) = tabD (T ++ [x]) := by
  have hx' : x = 0 ∨ x = 1 := by omega
  rcases hT with rfl | rfl | rfl | rfl | rfl <;> rcases hx' with rfl | rfl <;> first | rfl | (simp at hm)
theorem tab_size {T : List Nat} (hT : T = [] ∨ T = [0] ∨ T = [1] ∨ T = [0, 1] ∨ T = [1, 0]) : Maps.size (tabD T) = T.length := by
  rcases hT with rfl | rfl | rfl | rfl | rfl <;> rfl
end Go.Proofs.Ybulknju
