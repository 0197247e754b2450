import Derived.Test.YbulknisFmtBookAdd
namespace Go.Proofs.YbulknisFmt
open Go.RowKit

/-- Lot order, pairwise. -/
def SP (L : List Lot) : Prop := L.Pairwise fun x y => ¬ lx y x
theorem sp_iff {L : List Lot} : Sorted L ↔ SP L := by
  unfold Sorted SP
  rw [List.pairwise_iff_getElem]
  constructor
  · intro h i j hi hj hij
    have := h i j hij hj
    rwa [lotAt_pos L j hj, lotAt_pos L i hi] at this
  · intro h i j hij hj
    rw [lotAt_pos L j hj, lotAt_pos L i (by omega)]
    exact h i j (by omega) hj hij

/-- The merge's own round: M is merged, i of the lots and j of the added are in it. -/
structure Mg (LB A M : List Lot) (i j : Nat) : Prop where
  lots : SP (M ++ LB.drop i)
  adds : SP (M ++ A.drop j)
  perm : M.Perm (LB.take i ++ A.take j)
theorem Mg.start {LB A : List Lot} (h1 : Sorted LB) (h2 : Sorted A) : Mg LB A [] 0 0 := ⟨by simpa using sp_iff.1 h1, by simpa using sp_iff.1 h2, by simp⟩
theorem drop_cons {L : List Lot} {i : Nat} (h : i < L.length) : L.drop i = (lotAt L i) :: L.drop (i + 1) := by rw [lotAt_pos L i h]; exact List.drop_eq_getElem_cons h
theorem take_snoc {L : List Lot} {i : Nat} (h : i < L.length) : L.take (i + 1) = L.take i ++ [(lotAt L i)] := by rw [lotAt_pos L i h]; simp
theorem Mg.add {LB A M : List Lot} {i j : Nat} (h : Mg LB A M i j) (hi : i < LB.length) (hj : j < A.length) (hlt : lx (lotAt A j) (lotAt LB i)) : Mg LB A (M ++ [(lotAt A j)]) i (j + 1) := by
  obtain ⟨h1, h2, h3⟩ := h
  unfold SP at *
  rw [drop_cons hi] at h1
  rw [drop_cons hj] at h2
  refine ⟨?_, ?_, ?_⟩
  · rw [drop_cons hi]
    unfold SP
    rw [List.pairwise_append] at h1 h2 ⊢
    obtain ⟨m1, l1, x1⟩ := h1
    obtain ⟨_, l2, x2⟩ := h2
    refine ⟨?_, l1, ?_⟩
    · rw [List.pairwise_append]
      exact ⟨m1, by simp, fun a ha b hb => by simp at hb; subst hb; exact x2 a ha _ (by simp)⟩
    · intro a ha b hb
      rcases List.mem_append.1 ha with ha | ha
      · exact x1 a ha b hb
      · obtain rfl := List.mem_singleton.1 ha
        intro hc
        rcases List.mem_cons.1 hb with rfl | hb
        · exact lx_irrefl _ (lx_trans hc hlt)
        · exact (List.pairwise_cons.1 l1).1 b hb (lx_trans hc hlt)
  · rw [List.append_assoc]; exact h2
  · rw [take_snoc hj, ← List.append_assoc]
    exact h3.append_right _
theorem Mg.lot {LB A M : List Lot} {i j : Nat} (h : Mg LB A M i j) (hi : i < LB.length) (hj : j < A.length) (hlt : ¬ lx (lotAt A j) (lotAt LB i)) : Mg LB A (M ++ [(lotAt LB i)]) (i + 1) j := by
  obtain ⟨h1, h2, h3⟩ := h
  unfold SP at *
  rw [drop_cons hi] at h1
  rw [drop_cons hj] at h2
  refine ⟨?_, ?_, ?_⟩
  · rw [List.append_assoc]; exact h1
  · rw [drop_cons hj]
    unfold SP
    rw [List.pairwise_append] at h1 h2 ⊢
    obtain ⟨m1, l1, x1⟩ := h1
    obtain ⟨_, l2, x2⟩ := h2
    refine ⟨?_, l2, ?_⟩
    · rw [List.pairwise_append]
      exact ⟨m1, by simp, fun a ha b hb => by simp at hb; subst hb; exact x1 a ha _ (by simp)⟩
    · intro a ha b hb
      rcases List.mem_append.1 ha with ha | ha
      · exact x2 a ha b hb
      · obtain rfl := List.mem_singleton.1 ha
        rcases List.mem_cons.1 hb with rfl | hb
        · exact hlt
        · exact lx_ntrans ((List.pairwise_cons.1 l2).1 b hb) hlt
  · rw [take_snoc hi]
    refine (h3.append_right _).trans ?_
    rw [List.append_assoc, List.append_assoc]
    exact List.Perm.append_left _ List.perm_append_comm
theorem Mg.done {LB A M : List Lot} {i j : Nat} (h : Mg LB A M i j) (hend : LB.length ≤ i ∨ A.length ≤ j) : Sorted (M ++ LB.drop i ++ A.drop j) ∧ (M ++ LB.drop i ++ A.drop j).Perm (LB ++ A) := by
  obtain ⟨h1, h2, h3⟩ := h
  constructor
  · rw [sp_iff]
    rcases hend with he | he
    · rw [List.drop_eq_nil_of_le he, List.append_nil]; exact h2
    · rw [List.drop_eq_nil_of_le he, List.append_nil]; exact h1
  · refine ((h3.append_right _).append_right _).trans ?_
    have e1 : LB ++ A = (LB.take i ++ LB.drop i) ++ (A.take j ++ A.drop j) := by rw [List.take_append_drop, List.take_append_drop]
    rw [e1]
    rw [List.append_assoc, List.append_assoc, List.append_assoc]
    refine List.Perm.append_left _ ?_
    rw [← List.append_assoc, ← List.append_assoc]
    exact List.Perm.append_right _ List.perm_append_comm

/-- An append at a step of a region that draws its order; nothing may be appended too. -/
theorem step_append_at {P : Program} (w : World) {ops : Array Oper} {o : Oper} {a : Act} {K : Act → World → Prop} {Q : Exit → Act → World → Prop} {E : Prop} (hgd : o.guard = none) (s x : Operand) (t : TypeId)
    (ho : o.op = .call { callee := .builtin .append, args := #[s, x], argTypes := #[t, t] })
    (base : Nat) (e : TypeId) (i : TypeInfo) (z : Value) (size bytes : Nat) (ht : P.underlying t = some (.slice e)) (hi : P.info? e = some i) (hz : i.zero = some z)
    (hsize : i.size = size) (hby : i.bytes = bytes) (hzs : z.cells.size = size) (hsz : 0 < size)
    (v : Value) (n : Nat) (xs : List Value) (hs : a.eval s = v) (hown : w.ownsRow base e size v n xs)
    (ad : Addr) (m c : Nat) (news : List Value) (hx : a.eval x = .slice (some ad) m c) (hl : news.length = m * size) (hnews : ∀ j u, news[j]? = some u → w.cell? (ad.add j) = some u) (h1 : ∀ u ∈ news, u.oneCell' = true)
    (h63 : n + m ≤ maxLen) (hbytes : (n + m) * bytes ≤ 140737488355328) (hbase : base ≤ w.heap.size)
    (h : ∀ v' w', w'.ownsRow base e size v' (n + m) (xs ++ news) → w.grownBy w' v.ownBlock → (v'.ownBlock = v.ownBlock ∨ v'.ownBlock = some w.heap.size) → K (a.put o.dst v') w') :
    if Region.wanted o (yielded ops a.tmps) = true then Oper.wp P o a w K Q else E := by
  have hw : Region.wanted o (yielded ops a.tmps) = true := by simp [Region.wanted, hgd]
  rw [if_pos hw]
  obtain ⟨v', w', hr, h2, h3, _, h4⟩ := run_append_own_at (P := P) w base t o.type e i z size bytes ht hi hz hsize hby hzs hsz v n xs hown ad m c news hl hnews h1 h63 hbytes hbase
  unfold Oper.wp execOp
  simp only [ho, resolve, invoke, builtin, Sem.run_bind, Sem.run_pure, Result.andThen_ok, List.map_toArray, List.map_cons, List.map_nil, hs, hx, hr]
  exact h v' w' h2 h3 h4
end Go.Proofs.YbulknisFmt
