import Derived.Test.YbulknjuRho
namespace Go.Proofs.Ybulknju
open Go.RowKit

theorem app_core {ρ : Rho} {w w1 w' : World} {r : Role} {e : TypeId} {size : Nat} {v v' : Value} {n n' : Nat} {xs xs' : List Value} (hrow : Row ρ w r e size v n xs) (hbel : Below w.heap.size w w1) (hg : w1.grownBy w' v.ownBlock)
    (ho : w'.ownsRow 0 e size v' n' xs') (hat : v'.ownBlock = v.ownBlock ∨ v'.ownBlock = some w1.heap.size) : Row (ext ρ w r) w' r e size v' n' xs' ∧ Stp (fun q => q = r) ρ w (ext ρ w r) w' := by
  have hs : Stp (fun q => q = r) ρ w (ext ρ w r) w1 := Stp.ofBelow hbel r
  obtain ⟨h1, h2⟩ := hrow.grown hs hg ho (by rcases hat with h | h; exact .inl h.symm; exact .inr fun k hk => by rw [h] at hk; cases hk; exact Nat.le_refl _) rfl
  refine ⟨⟨h2.own, fun k hk => ?_⟩, h1.reRole fun k hk => ?_⟩
  · have h3 := h2.role k hk
    rcases Nat.lt_or_ge k w.heap.size with h | h
    · rw [ext_old h]
      rw [ext_old (Nat.lt_of_lt_of_le h hbel.size), ext_old h] at h3
      exact h3
    · exact ext_new h
  · rw [ext_old hk, ext_old (Nat.lt_of_lt_of_le hk hbel.size), ext_old hk]

theorem St.store {ρ : Rho} {w : World} {r : Role} {b : Nat} {T : TypeId} {cs : Array Value} (h : St ρ w r b T cs) (i : Nat) (v : Value) : Stp (fun q => q = r) ρ w ρ (w.setCell ⟨b, i, none⟩ v) := (Stp.refl _ ρ w).setCell _ _ h.role
theorem Row.store {ρ : Rho} {w : World} {r : Role} {e : TypeId} {size : Nat} {n : Nat} {xs : List Value} {g cap : Nat} (h : Row ρ w r e size (.slice (some ⟨g, 0, none⟩) n cap) n xs) (i : Nat) (v : Value) : Stp (fun q => q = r) ρ w ρ (w.setCell ⟨g, i, none⟩ v) := (Stp.refl _ ρ w).setCell _ _ (h.role g rfl)
theorem Stp.one {R : Role → Prop} {r : Role} {ρ ρ' : Rho} {w w' : World} (h : Stp (fun q => q = r) ρ w ρ' w') (hr : R r) : Stp R ρ w ρ' w' := h.mono fun _ hq => hq ▸ hr

/-- 'append(s, x)', one element, in a plain region. -/
theorem wpl_app {P : Program} {ρ : Rho} (w w1 : World) {ops : Array Oper} {rest : List Oper} {o : Oper} {a : Act} {Q : Exit → Act → World → Prop} (hgd : o.guard = none) (s x : Operand) (t : TypeId)
    (ho : o.op = .call { callee := .builtin .append, args := #[s, x], argTypes := #[t, t] })
    (r : Role) (e : TypeId) (z : Value) (size bytes : Nat) (ht : P.underlying t = some (.slice e)) (hinfo : (P.info? e).map (fun i => (i.zero, i.size, i.bytes)) = some (some z, size, bytes)) (hzs : z.cells.size = size) (hsz : 0 < size)
    (v : Value) (n : Nat) (xs : List Value) (hs : a.eval s = v) (hrow : Row ρ w r e size v n xs) (hbel : Below w.heap.size w w1) (B : Nat)
    (cs : Array Value) (fr : Nat × Nat) (hnew : w1.heap[B]? = some (.cells cs e fr)) (hx : a.eval x = .slice (some ⟨B, 0, none⟩) 1 1) (hl : cs.size = size) (h1 : ∀ u ∈ cs.toList, u.oneCell' = true)
    (hn : n ≤ 100000000) (hby : bytes ≤ 1000)
    (h : ∀ g' c' w', Row (ext ρ w r) w' r e size (.slice (some ⟨g', 0, none⟩) (n + 1) c') (n + 1) (xs ++ cs.toList) → Stp (fun q => q = r) ρ w (ext ρ w r) w' → wpList P ops Q rest (a.put o.dst (.slice (some ⟨g', 0, none⟩) (n + 1) c')) w') :
    wpList P ops Q (o :: rest) a w1 := by
  obtain ⟨i, hi, hz, h2, h3⟩ := info_parts hinfo
  have hk : Row ρ w1 r e size v n xs := (hrow.keep (Stp.ofBelow (R := fun _ => False) (ρ := ρ) hbel .no) (fun h => h)).own |> fun h => ⟨h, hrow.role⟩
  refine wpList_append_own_at w1 hgd s x t ho 0 e i z size bytes ht hi hz h2 h3 hzs hsz v n xs hs hk.own ⟨B, 0, none⟩ 1 1 cs.toList hx (by simpa using hl) (World.news_of_block hnew) h1 (by unfold maxLen; omega) ?_ (Nat.zero_le _) ?_
  · calc (n + 1) * bytes ≤ 100000001 * 1000 := Nat.mul_le_mul (by omega) hby
      _ ≤ 140737488355328 := by omega
  · intro v' w' hown hg _ hat
    obtain ⟨a1, a2⟩ := app_core hrow hbel hg hown hat
    obtain ⟨g', c', rfl, _⟩ := a1.has (by omega)
    exact h g' c' w' a1 a2

/-- 'append(s, x)', one element, at a step of a region that draws its order. -/
theorem step_app {P : Program} {ρ : Rho} (w w1 : World) {ops : Array Oper} {o : Oper} {a : Act} {K : Act → World → Prop} {Q : Exit → Act → World → Prop} {E : Prop} (hgd : o.guard = none) (s x : Operand) (t : TypeId)
    (ho : o.op = .call { callee := .builtin .append, args := #[s, x], argTypes := #[t, t] })
    (r : Role) (e : TypeId) (z : Value) (size bytes : Nat) (ht : P.underlying t = some (.slice e)) (hinfo : (P.info? e).map (fun i => (i.zero, i.size, i.bytes)) = some (some z, size, bytes)) (hzs : z.cells.size = size) (hsz : 0 < size)
    (v : Value) (n : Nat) (xs : List Value) (hs : a.eval s = v) (hrow : Row ρ w r e size v n xs) (hbel : Below w.heap.size w w1) (B : Nat)
    (cs : Array Value) (fr : Nat × Nat) (hnew : w1.heap[B]? = some (.cells cs e fr)) (hx : a.eval x = .slice (some ⟨B, 0, none⟩) 1 1) (hl : cs.size = size) (h1 : ∀ u ∈ cs.toList, u.oneCell' = true)
    (hn : n ≤ 100000000) (hby : bytes ≤ 1000)
    (h : ∀ g' c' w', Row (ext ρ w r) w' r e size (.slice (some ⟨g', 0, none⟩) (n + 1) c') (n + 1) (xs ++ cs.toList) → Stp (fun q => q = r) ρ w (ext ρ w r) w' → K (a.put o.dst (.slice (some ⟨g', 0, none⟩) (n + 1) c')) w') :
    if Region.wanted o (yielded ops a.tmps) = true then Oper.wp P o a w1 K Q else E := by
  have hw : Region.wanted o (yielded ops a.tmps) = true := by simp [Region.wanted, hgd]
  rw [if_pos hw]
  obtain ⟨i, hi, hz, h2, h3⟩ := info_parts hinfo
  have hk : Row ρ w1 r e size v n xs := (hrow.keep (Stp.ofBelow (R := fun _ => False) (ρ := ρ) hbel .no) (fun h => h)).own |> fun h => ⟨h, hrow.role⟩
  obtain ⟨v', w', hr, hown, hg, _, hat⟩ := run_append_own_at (P := P) w1 0 t o.type e i z size bytes ht hi hz h2 h3 hzs hsz v n xs hk.own ⟨B, 0, none⟩ 1 1 cs.toList (by simpa using hl) (World.news_of_block hnew) h1 (by unfold maxLen; omega) (by
    calc (n + 1) * bytes ≤ 100000001 * 1000 := Nat.mul_le_mul (by omega) hby
      _ ≤ 140737488355328 := by omega) (Nat.zero_le _)
  unfold Oper.wp execOp
  simp only [ho, resolve, invoke, builtin, Sem.run_bind, Sem.run_pure, Result.andThen_ok, List.map_toArray, List.map_cons, List.map_nil, hs, hx, hr]
  obtain ⟨a1, a2⟩ := app_core hrow hbel hg hown hat
  obtain ⟨g', c', rfl, _⟩ := a1.has (by omega)
  exact h g' c' w' a1 a2

/-- A call of a Go function at a step of a region that draws its order. -/
theorem step_call {P : Program} (w : World) {ops : Array Oper} {o : Oper} {a : Act} {K : Act → World → Prop} {Q : Exit → Act → World → Prop} {E : Prop} (hgd : o.guard = none) (g : FuncId) (ars : Array Operand) (tys : Array TypeId)
    (ho : o.op = .call { callee := .value (.func g), args := ars, argTypes := tys }) (heg : ∀ args w, (callFunc g args).run P w = .ok (.enter g args) w) (vals : Array Value) (hv' : ars.toList.map a.eval = vals.toList) {post : Ending → World → Prop} (hc : Calls P g vals w post)
    (h : ∀ e w', post e w' → ∃ v, e = .returned v ∧ K (a.put o.dst v) w') :
    if Region.wanted o (yielded ops a.tmps) = true then Oper.wp P o a w K Q else E := by
  have hw : Region.wanted o (yielded ops a.tmps) = true := by simp [Region.wanted, hgd]
  rw [if_pos hw]
  have hv : ars.map a.eval = vals := by rw [← Array.toList_inj, Array.toList_map]; exact hv'
  have e1 : Oper.wp P o a w K Q = Calls P g vals w (fun
    | .returned v, w'' => K (a.put o.dst v) w''
    | .panicked chain, w'' => Q (.panic chain) a w''
    | .outgrown, _ => LetsOut Q) := by
    unfold Oper.wp execOp
    simp [ho, resolve, invoke, Deferred.ofValue, hv, heg, Act.eval]
    rfl
  rw [e1]
  refine hc.mono fun e w' hp => ?_
  obtain ⟨v, rfl, hk⟩ := h e w' hp
  exact hk
end Go.Proofs.Ybulknju
