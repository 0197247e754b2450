import Derived.Test.YbulknjuLayP
import Derived.OrdersHeld
/-
  A region that draws its order, and whose last operation (number m) writes what the others read: the condition S on the world is owed behind every operation but that one; each operation that is taken first must be one that number m waits for.
-/
namespace Go.Proofs.Ybulknju
open Go.RowKit

section
variable {P : Program} {ops : Array Oper} {Q : Exit → Act → World → Prop} {md : Region.Mode} {S : World → Prop} {m : Nat}

def wpS (P : Program) (md : Region.Mode) (ops : Array Oper) (Q : Exit → Act → World → Prop) (S : World → Prop) (m : Nat) : Nat → Array Bool → Act → World → Prop
  | 0, l, a, w => Region.ready md ops l = [] ∧ Q .normal a w
  | n + 1, l, a, w => (Region.ready md ops l = [] → Q .normal a w) ∧ ∀ i ∈ Region.ready md ops l, wpOp P ops Q i (fun a' w' => (i ≠ m → S w') ∧ wpS P md ops Q S m n (l.setIfInBounds i true) a' w') a w
theorem any_of_wpS : ∀ (n : Nat) (l : Array Bool) (a : Act) (w : World), wpS P md ops Q S m n l a w → wpAny P md ops Q n l a w
  | 0, _, _, _, h => h
  | n + 1, _, _, _, h => ⟨h.1, fun i hi => wpOp_mono (fun a' w' h' => any_of_wpS n _ a' w' h'.2) (h.2 i hi)⟩
/-- Number m waits for number i. -/
def waitsB (md : Region.Mode) (ops : Array Oper) (m i : Nat) : Bool := ((ops[m]?).map fun o => o.after.any fun e => Region.binds md e && e.on == i).getD false
theorem wpS_first {i : Nat} {oi : Oper} {v : Value} (hi : ops[i]? = some oi) (hw : waitsB md ops m i = true) (hsel : ∀ (j : Nat) (o : Oper) cs b, ops[j]? = some o → o.op ≠ .select cs b) (hQ : ∀ c a w, Q (.panic c) (a.put oi.dst v) w → Q (.panic c) a w) :
    ∀ (n : Nat) (l : Array Bool) (a : Act) (w : World),
      (∀ j oj, ops[j]? = some oj → j ≠ i → l.getD j true = false → (∀ e ∈ oj.after, Region.binds md e = true → e.on ≠ i) → oi.apart ops oj = true) →
      i ∈ Region.ready md ops l → YieldsIf P ops S oi v a → S w →
      wpS P md ops Q S m n (l.setIfInBounds i true) (a.put oi.dst v) w → wpS P md ops Q S m (n + 1) l a w := by
  intro n
  induction n with
  | zero =>
    intro l a w _ hr hy hS H
    refine ⟨fun h => (by rw [h] at hr; cases hr), fun j hj => ?_⟩
    by_cases hji : j = i
    · subst hji; exact hy.wpOp hi hS ⟨fun _ => hS, H⟩
    · have h1 := ready_mono hj hji
      rw [H.1] at h1
      cases h1
  | succ n ih =>
    intro l a w hfree hr hy hS H
    refine ⟨fun h => (by rw [h] at hr; cases hr), fun j hj => ?_⟩
    by_cases hji : j = i
    · subst hji; exact hy.wpOp hi hS ⟨fun _ => hS, H⟩
    · have h1 := H.2 j (ready_mono hj hji)
      obtain ⟨hjun, oj, hoj, hall⟩ := mem_ready.1 hj
      have hnot : ∀ e ∈ oj.after, Region.binds md e = true → e.on ≠ i := fun e he hb heq => by
        have g1 := hall e he hb
        have g0 := (mem_ready.1 hr).1
        rw [heq] at g1
        rcases Nat.lt_or_ge i l.size with h' | h'
        · simp [h'] at g0 g1; rw [g0] at g1; cases g1
        · simp [Array.getElem?_eq_none h'] at g1
      have hjm : j ≠ m := by
        rintro rfl
        unfold waitsB at hw
        rw [hoj] at hw
        simp only [Option.map_some, Option.getD_some] at hw
        obtain ⟨e, he, h2⟩ := Array.any_eq_true'.1 hw
        simp only [Bool.and_eq_true, beq_iff_eq] at h2
        exact hnot e he h2.1 h2.2
      have h2 := wpOp_putIf hoj (hfree j oj hoj hji hjun hnot) (fun cs b => hsel i oi cs b hi) (fun cs b => hsel j oj cs b hoj) hQ hy h1
      have hrj := ready_mono hr (Ne.symm hji)
      have hfree' : ∀ k ok, ops[k]? = some ok → k ≠ i → (l.setIfInBounds j true).getD k true = false → (∀ e ∈ ok.after, Region.binds md e = true → e.on ≠ i) → oi.apart ops ok = true := fun k ok hk hki hun hno => by
        refine hfree k ok hk hki ?_ hno
        by_cases hjk : j = k
        · subst hjk; exact hjun
        · rw [getD_set_ne true hjk] at hun; exact hun
      refine wpOp_mono (fun a' w' h3 => ?_) h2
      obtain ⟨hy', hS', hw'⟩ := h3
      refine ⟨fun _ => hS' hjm, ih _ a' w' hfree' hrj hy' (hS' hjm) ?_⟩
      rw [Array.setIfInBounds_comm _ _ hji]
      exact hw'
/-- Number i is taken first. -/
theorem wpS_take {i : Nat} {oi : Oper} {v : Value} {n : Nat} {l : Array Bool} {a : Act} {w : World} (hi' : ops.toList[i]? = some oi) (hw : waitsB md ops m i = true)
    (hs : Region.noSelect ops = true) (hf : Region.free md ops l i = true) (hr : (Region.ready md ops l).contains i = true)
    (hQ : ∀ c a w, Q (.panic c) (a.put oi.dst v) w → Q (.panic c) a w) (hy : YieldsIf P ops S oi v a) (hS : S w)
    (h : wpS P md ops Q S m n (l.setIfInBounds i true) (a.put oi.dst v) w) : wpS P md ops Q S m (n + 1) l a w := by
  have hi : ops[i]? = some oi := by rw [← Array.getElem?_toList]; exact hi'
  exact wpS_first hi hw (Region.noSelect_spec hs) hQ n l a w (Region.free_spec hi hf) (by simpa using hr) hy hS h
/-- One alone may come up. -/
theorem wpS_one {i : Nat} {oi : Oper} {n : Nat} {l : Array Bool} {a : Act} {w : World} (hi' : ops.toList[i]? = some oi) (hr : Region.ready md ops l = [i])
    (h : ∀ K : Act → World → Prop, Hid (∀ a' w', (i ≠ m → S w') → wpS P md ops Q S m n (l.setIfInBounds i true) a' w' → K a' w') → if Region.wanted oi (yielded ops a.tmps) = true then Oper.wp P oi a w K Q else K (a.put oi.dst undef) w) : wpS P md ops Q S m (n + 1) l a w := by
  have hi : ops[i]? = some oi := by rw [← Array.getElem?_toList]; exact hi'
  refine ⟨fun e => (by rw [hr] at e; cases e), fun j hj => ?_⟩
  rw [hr] at hj
  obtain rfl := List.mem_singleton.1 hj
  exact wpOp_step hi (fun K hK => h K (fun a' w' h1 h2 => hK a' w' ⟨h1, h2⟩))
theorem wpS_done {l : Array Bool} {a : Act} {w : World} (hr : Region.ready md ops l = []) (h : Q .normal a w) : ∀ n, wpS P md ops Q S m n l a w
  | 0 => ⟨hr, h⟩
  | _ + 1 => ⟨fun _ => h, by rw [hr]; simp⟩
theorem wp_region_S {id : Nat} {a : Act} {w : World} (S : World → Prop) (m : Nat) (hm : P.follows .mixedOrders = true) (h : wpS P .any ops Q S m ops.size (Array.replicate ops.size false) a w.drew) : (Code.region id ops true).wp P Q a w :=
  wp_region_any hm (any_of_wpS _ _ _ _ h)
end
end Go.Proofs.Ybulknju
