import Derived.Test.YbulknjuLow
import Derived.WalkSmall
namespace Go.Proofs.Ybulknju
open Go.RowKit

/-- The closure in a world. -/
structure Cl (ρ : Rho) (w : World) (C Lb : Nat) (O : List OpR) (Q : List Nat) (P : Nat → List Nat) (F : List (List Nat)) (vo vp vf vs vk vpc vps vsr vrd vsw : Value) (Cb gof gat : Nat) (vW vR vL : Value) (co po : Nat → Nat) (B G : Nat) (gs gp : Value) (gR : Nat) (vh : Value) (vd : Value) (E : List (Nat × Nat)) (f : Nat → Int) (D : List Drp) : Prop where
  sta : Sta ρ w C Lb O Q P F vo vp vf vs vk vpc vps vsr vrd vsw Cb gof gat vW vR vL co po
  dyn : Dyn ρ w O.length Q.length (kk O) Lb Cb B G gs gp gR vh vd E f D
  inv : Inv O (Q.map P) E f D
def RK : Role → Prop := fun r => RV r ∨ r = .tmp 0
/-- A later state of the closure. -/
def LinkP (ρ : Rho) (w : World) (C Lb : Nat) (O : List OpR) (Q : List Nat) (P : Nat → List Nat) (F : List (List Nat)) (vo vp vf vs vk vpc vps vsr vrd vsw : Value) (Cb gof gat : Nat) (vW vR vL : Value) (co po : Nat → Nat) (B G : Nat) (gs gp : Value) (gR : Nat) (vh : Value) (E : List (Nat × Nat)) (f : Nat → Int) (D : List Drp) (w' : World) : Prop :=
  ∃ ρ' vd' E' f' D', Cl ρ' w' C Lb O Q P F vo vp vf vs vk vpc vps vsr vrd vsw Cb gof gat vW vR vL co po B G gs gp gR vh vd' E' f' D' ∧ E'.length + mu (O.length * Q.length) f' ≤ E.length + mu (O.length * Q.length) f ∧ D'.length + mu (O.length * Q.length) f' ≤ D.length + mu (O.length * Q.length) f ∧ Stp RK ρ w ρ' w'
theorem Cl.keep0 {ρ ρ' : Rho} {w w' : World} {R : Role → Prop} {C Lb : Nat} {O : List OpR} {Q : List Nat} {P : Nat → List Nat} {F : List (List Nat)} {vo vp vf vs vk vpc vps vsr vrd vsw : Value} {Cb gof gat : Nat} {vW vR vL : Value} {co po : Nat → Nat} {B G : Nat} {gs gp : Value} {gR : Nat} {vh : Value} {vd : Value} {E : List (Nat × Nat)} {f : Nat → Int} {D : List Drp} (h : Cl ρ w C Lb O Q P F vo vp vf vs vk vpc vps vsr vrd vsw Cb gof gat vW vR vL co po B G gs gp gR vh vd E f D) (hk : Stp R ρ w ρ' w') (hr : ∀ r, R r → r = .tmp 0 ∨ r = .no ∨ r = .tmp 1 ∨ r = .tmp 2) : Cl ρ' w' C Lb O Q P F vo vp vf vs vk vpc vps vsr vrd vsw Cb gof gat vW vR vL co po B G gs gp gR vh vd E f D := by
  have hn : ∀ r, RT r ∨ RV r ∨ r = .hkH ∨ (∃ k, r = .hkK k) → ¬ R r := fun r h1 h2 => by
    have h3 := hr r h2
    unfold RT RS RV RG at h1
    rcases h3 with h3 | h3 | h3 | h3 <;> simp [h3] at h1
  exact ⟨h.sta.keep hk fun r h => hn r (.inl h), h.dyn.keep hk (fun r h => hn r (.inr (.inl h))) (hn _ (by simp)) (fun k => hn _ (by simp)), h.inv⟩
theorem Cl.stay {ρ : Rho} {w w' : World} {C Lb : Nat} {O : List OpR} {Q : List Nat} {P : Nat → List Nat} {F : List (List Nat)} {vo vp vf vs vk vpc vps vsr vrd vsw : Value} {Cb gof gat : Nat} {vW vR vL : Value} {co po : Nat → Nat} {B G : Nat} {gs gp : Value} {gR : Nat} {vh : Value} {vd : Value} {E : List (Nat × Nat)} {f : Nat → Int} {D : List Drp} (h : Cl ρ w C Lb O Q P F vo vp vf vs vk vpc vps vsr vrd vsw Cb gof gat vW vR vL co po B G gs gp gR vh vd E f D) (hk : Stp (fun _ => False) ρ w ρ w') : LinkP ρ w C Lb O Q P F vo vp vf vs vk vpc vps vsr vrd vsw Cb gof gat vW vR vL co po B G gs gp gR vh E f D w' := ⟨ρ, vd, E, f, D, h.keep0 hk (fun _ h => h.elim), Nat.le_refl _, Nat.le_refl _, hk.mono fun _ h => h.elim⟩
/-- u stands right behind v in a chain. -/
def Rev (H : List (List Nat)) (u v : Nat) : Prop := ∃ c i, c < H.length ∧ i + 1 < (H[c]!).length ∧ (H[c]!)[i]! = v ∧ (H[c]!)[i + 1]! = u
theorem inv_no {O : List OpR} {H : List (List Nat)} {co po : Nat → Nat} {E : List (Nat × Nat)} {f : Nat → Int} {D : List Drp} (hi : Inv O H E f D) (hc : Col O.length H co po) {u v : Nat} (huv : u < v) (hv : v < O.length) : rch f H.length co po v u = false := by
  unfold rch
  rw [decide_eq_false_iff_not]
  intro h
  obtain ⟨a, b, c⟩ := hc.fwd u (by omega)
  have h1 := (hi.rng v (co u) hv a).1
  have h2 := hi.inc v (co u) hv a (by omega)
  obtain ⟨p, hp⟩ : ∃ p : Nat, (f (v * H.length + co u)).toNat = p := ⟨_, rfl⟩
  rw [hp] at h2
  have h3 : p ≤ po u := by omega
  rcases Nat.lt_or_ge p (po u) with h4 | h4
  · have := hc.inc (co u) p (po u) a h4 b
    omega
  · have : p = po u := by omega
    subst this
    omega
theorem rev_yes {O : List OpR} {H : List (List Nat)} {co po : Nat → Nat} {E : List (Nat × Nat)} {f : Nat → Int} {D : List Drp} (hi : Inv O H E f D) (hc : Col O.length H co po) {u v : Nat} (h : Rev H u v) : rch f H.length co po v u = true ∧ v < u := by
  obtain ⟨c, i, h1, h2, h3, h4⟩ := h
  obtain ⟨a1, a2, a3⟩ := hc.bwd c (i + 1) h1 h2
  have h5 := hi.nxt c i h1 h2
  have h6 := hc.inc c i (i + 1) h1 (Nat.lt_succ_self i) h2
  rw [h4] at a2 a3
  unfold rch
  rw [a2, a3, ← h3]
  exact ⟨decide_eq_true h5, by rw [← h4]; exact h6⟩
theorem Row.pop {ρ : Rho} {w : World} {r : Role} {e : TypeId} {size g cap n : Nat} {xs last : List Value} (h : Row ρ w r e size (.slice (some ⟨g, 0, none⟩) (n + 1) cap) (n + 1) (xs ++ last)) (hx : xs.length = n * size) : Row ρ w r e size (.slice (some ⟨g, 0, none⟩) n cap) n xs := ⟨ownsRow_pop hx h.own, h.role⟩
/-- An edge more. -/
theorem Cl.edge {ρ ρ1 : Rho} {w w1 w' : World} {C Lb : Nat} {O : List OpR} {Q : List Nat} {P : Nat → List Nat} {F : List (List Nat)} {vo vp vf vs vk vpc vps vsr vrd vsw : Value} {Cb gof gat : Nat} {vW vR vL : Value} {co po : Nat → Nat} {B G : Nat} {gs gp : Value} {gR : Nat} {vh : Value} {vd : Value} {E : List (Nat × Nat)} {f : Nat → Int} {D : List Drp} {u v : Nat} (h : Cl ρ w C Lb O Q P F vo vp vf vs vk vpc vps vsr vrd vsw Cb gof gat vW vR vL co po B G gs gp gR vh vd E f D) (huv : u < v) (hv : v < O.length) (hk : Stp (fun _ => False) ρ w ρ1 w1) (ha : GAdd G (succOf O.length E) (predOf O.length E) gs gp u v ρ1 w1 w') : ∃ ρ', Cl ρ' w' C Lb O Q P F vo vp vf vs vk vpc vps vsr vrd vsw Cb gof gat vW vR vL co po B G gs gp gR vh vd (E ++ [(u, v)]) f D ∧ Stp RK ρ w ρ' w' := by
  obtain ⟨ρ', g, s⟩ := ha
  have h1 := h.keep0 hk (fun _ h => h.elim)
  have hn : ∀ r, RT r → ¬ RG r := fun r hr hg => RV.rt hr (.inr (.inr (.inl hg)))
  refine ⟨ρ', ⟨h1.sta.keep s hn, ⟨h1.dyn.clo.keep s (by simp [RG]), ?_, h1.dyn.rch.keep s (by simp [RG]), h1.dyn.drp.keep s (by simp [RG]), h1.dyn.hks.keep s (by simp [RG]) (by simp [RG])⟩, ?_⟩, (hk.mono fun _ h => h.elim).trans (s.mono fun r hr => .inl (.inr (.inr (.inl hr))))⟩
  · rw [succOf_add E (show u < O.length by omega), predOf_add E hv]; exact g
  · exact ⟨fun e he => by
      rcases List.mem_append.1 he with he | he
      · exact h1.inv.edge e he
      · rw [List.mem_singleton] at he; subst he; exact ⟨huv, hv⟩, h1.inv.rng, h1.inv.inc, h1.inv.nxt, h1.inv.drp⟩
theorem Cl.low {ρ : Rho} {w w' : World} {C Lb : Nat} {O : List OpR} {Q : List Nat} {P : Nat → List Nat} {F : List (List Nat)} {vo vp vf vs vk vpc vps vsr vrd vsw : Value} {Cb gof gat : Nat} {vW vR vL : Value} {co po : Nat → Nat} {B G : Nat} {gs gp : Value} {gR : Nat} {vh : Value} {vd : Value} {E : List (Nat × Nat)} {f : Nat → Int} {D : List Drp} {u c : Nat} {x : Int} (h : Cl ρ w C Lb O Q P F vo vp vf vs vk vpc vps vsr vrd vsw Cb gof gat vW vR vL co po B G gs gp gR vh vd E f D) (hl : LowP C Lb O Q P F vo vp vf vs vk vpc vps vsr vrd vsw Cb gof gat vW vR vL co po B G gs gp gR vh vd E f D u c x ρ w w') (hu : u < O.length) (hc : c < Q.length) (h0 : 0 ≤ x) (h1 : x < f (u * Q.length + c)) (h2 : u < ((Q.map P)[c]!)[x.toNat]!) :
    ∃ ρ' vd' f' D', Cl ρ' w' C Lb O Q P F vo vp vf vs vk vpc vps vsr vrd vsw Cb gof gat vW vR vL co po B G gs gp gR vh vd' E f' D' ∧ mu (O.length * Q.length) f' + 1 ≤ mu (O.length * Q.length) f ∧ D'.length + mu (O.length * Q.length) f' ≤ D.length + mu (O.length * Q.length) f ∧ Stp RW ρ w ρ' w' ∧ f' = upd f (u * Q.length + c) x := by
  obtain ⟨ρ', vd', hd, hs, hst⟩ := hl
  have hm := mu_upd (f := f) (x := x) (at_lt hu hc) h0 h1
  have hi := inv_low (H := Q.map P) h.inv hu (by rw [col_len]; exact hc) h0 (by rw [col_len]; exact h1) h2
  rw [col_len] at hi
  refine ⟨ρ', vd', _, _, ⟨hs, hd, hi⟩, hm, ?_, hst, rfl⟩
  unfold dropTo
  split
  · omega
  · rw [List.length_append, List.length_singleton]; omega
/-- The same measure, read off the world. -/
def wmu (g N : Nat) (w : World) : Nat := mu N fun i => match w.cell? ⟨g, i, none⟩ with | some v => intOf v | none => 0
def slen : Value → Nat | .slice _ n _ => n | _ => 0
theorem R32.wmu {ρ : Rho} {w : World} {r : Role} {n : Nat} {f : Nat → Int} {g cap : Nat} (h : R32 ρ w r (.slice (some ⟨g, 0, none⟩) n cap) n f) : wmu g n w = mu n f := by
  unfold Ybulknju.wmu mu
  congr 1
  apply List.map_congr_left
  intro i hi
  rw [List.mem_range] at hi
  simp only [h.cell hi]
  rfl
theorem idx62o {b n c o : Nat} {k : Nat} (hk : k < n) (w : World) : (Instr.indexAt 62 (.slice (some ⟨b, o, none⟩) n c) (.int .i64 k)).run Yba.prog w = .ok (.pointer (some ⟨b, o + k, none⟩)) w := by
  have e : Yba.prog.elem 62 = 21 := by kernel_rfl
  rw [run_indexAt_slice (h := by kernel_rfl), e, if_pos (by omega), sizeOf21]
  simp [Addr.add]
  try exact fun h => h.symm
/-- The entries of the reach that have fallen. -/
def chg (W : Nat) (L : List (Nat × Nat)) : List Nat := L.map fun p => p.1 * W + p.2
theorem chg_len (W : Nat) (L : List (Nat × Nat)) : (chg W L).length = L.length := by simp [chg]
theorem chg_app (W : Nat) (L : List (Nat × Nat)) (p : Nat × Nat) : chg W (L ++ [p]) = chg W L ++ [p.1 * W + p.2] := by simp [chg]
theorem Stp.rk {ρ ρ' : Rho} {w w' : World} (h : Stp RW ρ w ρ' w') : Stp RK ρ w ρ' w' := h.rv.mono fun _ hr => .inl hr
def RX : Role → Prop := fun r => RW r ∨ r = .tmp 0
theorem Stp.rx {ρ ρ' : Rho} {w w' : World} (h : Stp RX ρ w ρ' w') : Stp RK ρ w ρ' w' := h.mono fun r hr => by
  unfold RX RW at hr; unfold RK RV
  rcases hr with (h | h | h) | h <;> simp [h]
/-- Between two steps of 'link'. -/
def Lq (R : Role → Prop) (ρ : Rho) (w : World) (C Lb : Nat) (O : List OpR) (Q : List Nat) (P : Nat → List Nat) (F : List (List Nat)) (vo vp vf vs vk vpc vps vsr vrd vsw : Value) (Cb gof gat : Nat) (vW vR vL : Value) (co po : Nat → Nat) (B G : Nat) (gs gp : Value) (gR : Nat) (vh : Value) (E1 : List (Nat × Nat)) (e0 d0 l0 : Nat) (vc : Value) (wr : World) : Prop :=
  ∃ ρr vdr fr Dr L, Cl ρr wr C Lb O Q P F vo vp vf vs vk vpc vps vsr vrd vsw Cb gof gat vW vR vL co po B G gs gp gR vh vdr E1 fr Dr ∧ NRow ρr wr (.tmp 0) vc (chg Q.length L) ∧ (∀ p ∈ L, p.1 < O.length ∧ p.2 < Q.length) ∧ E1.length + mu (O.length * Q.length) fr ≤ e0 ∧ Dr.length + mu (O.length * Q.length) fr ≤ d0 ∧ L.length + mu (O.length * Q.length) fr ≤ l0 ∧ Stp R ρ w ρr wr
def Lp (ρ : Rho) (w : World) (C Lb : Nat) (O : List OpR) (Q : List Nat) (P : Nat → List Nat) (F : List (List Nat)) (vo vp vf vs vk vpc vps vsr vrd vsw : Value) (Cb gof gat : Nat) (vW vR vL : Value) (co po : Nat → Nat) (B G : Nat) (gs gp : Value) (gR : Nat) (vh : Value) (E1 : List (Nat × Nat)) (e0 d0 : Nat) (vc : Value) (wr : World) : Prop := Lq RK ρ w C Lb O Q P F vo vp vf vs vk vpc vps vsr vrd vsw Cb gof gat vW vR vL co po B G gs gp gR vh E1 e0 d0 20000001 vc wr
theorem pred_lt {n x y : Nat} {E : List (Nat × Nat)} (hx : x < n) (hy : y ∈ (predOf n E)[x]!) : (y, x) ∈ E := by
  rw [predOf_at _ hx] at hy
  obtain ⟨e, he, rfl⟩ := List.mem_map.1 hy
  obtain ⟨h1, h2⟩ := List.mem_filter.1 he
  have : e.2 = x := by simpa using h2
  subst this
  exact h1
theorem Lq.len {R : Role → Prop} {ρ : Rho} {w : World} {C Lb : Nat} {O : List OpR} {Q : List Nat} {P : Nat → List Nat} {F : List (List Nat)} {vo vp vf vs vk vpc vps vsr vrd vsw : Value} {Cb gof gat : Nat} {vW vR vL : Value} {co po : Nat → Nat} {B G : Nat} {gs gp : Value} {gR : Nat} {vh : Value} {E1 : List (Nat × Nat)} {e0 d0 l0 : Nat} {vc : Value} {wr : World} (h : Lq R ρ w C Lb O Q P F vo vp vf vs vk vpc vps vsr vrd vsw Cb gof gat vW vR vL co po B G gs gp gR vh E1 e0 d0 l0 vc wr) : wmu gR (O.length * Q.length) wr + slen vc ≤ l0 := by
  obtain ⟨ρr, vdr, fr, Dr, L, hj, hn, _, _, _, hl, _⟩ := h
  rw [hj.dyn.rch.wmu]
  obtain ⟨a, c, e, _⟩ := Row.form hn
  subst e
  show _ + (chg Q.length L).length ≤ _
  rw [chg_len]; omega
end Go.Proofs.Ybulknju
