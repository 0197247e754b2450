import Derived.Test.YbulknjuBuild
namespace Go.Proofs.Ybulknju
open Go.RowKit

theorem Rag.at {ρ : Rho} {w : World} {h : Role} {rr : Nat → Role} {v : Value} {F : List (List Nat)} (hr : Rag ρ w h rr v F) (hn : 0 < F.length) :
    ∃ g cap vs, v = .slice (some ⟨g, 0, none⟩) F.length cap ∧ vs.length = F.length ∧ Row ρ w h 38 1 (.slice (some ⟨g, 0, none⟩) F.length cap) F.length vs ∧ (∀ i, i < F.length → NRow ρ w (rr i) vs[i]! F[i]!) ∧ ρ g = h := by
  obtain ⟨vs, e, a, b⟩ := hr.ex
  obtain ⟨g, cap, rfl, _, hg, _⟩ := a.has hn
  exact ⟨g, cap, vs, rfl, e, a, b, hg⟩
theorem Row.cell1 {ρ : Rho} {w : World} {r : Role} {e : TypeId} {n : Nat} {xs : List Value} {g cap : Nat} (h : Row ρ w r e 1 (.slice (some ⟨g, 0, none⟩) n cap) n xs) {j : Nat} (hj : j < n) (hl : xs.length = n) : w.cell? ⟨g, j, none⟩ = some xs[j]! := by
  rw [h.cell (by omega), List.getElem?_eq_getElem (by omega), getElem!_pos xs j (by omega)]
theorem set_get {α : Type} [Inhabited α] {l : List α} {i : Nat} (hi : i < l.length) (x : α) (j : Nat) : (l.set i x)[j]! = if j = i then x else l[j]! := by
  rcases Nat.lt_or_ge j l.length with h | h
  · rw [getElem!_pos _ j (by simpa using h), getElem!_pos _ j h, List.getElem_set]
    split <;> split <;> first | rfl | (exfalso; omega)
  · rw [if_neg (by omega), getElem!_neg _ j (by simpa using h), getElem!_neg _ j (by omega)]
theorem Rag.push {ρ : Rho} {w w' : World} {h : Role} {rr : Nat → Role} {g cap : Nat} {F : List (List Nat)} {vs : List Value} {i x : Nat} {v' : Value} (hl : vs.length = F.length) (hrow : Row ρ w h 38 1 (.slice (some ⟨g, 0, none⟩) F.length cap) F.length vs)
    (hn : ∀ j, j < F.length → NRow ρ w (rr j) vs[j]! F[j]!) (hi : i < F.length) (hh : ∀ j, rr j ≠ h) (hinj : ∀ j, rr j = rr i → j = i) (hr : Row (ext ρ w (rr i)) w' (rr i) 3 1 v' ((F[i]!).length + 1) ((F[i]!).map nv ++ [nv x])) (hs : Stp (fun q => q = rr i) ρ w (ext ρ w (rr i)) w') :
    Rag (ext ρ w (rr i)) (w'.setCell ⟨g, i, none⟩ v') h rr (.slice (some ⟨g, 0, none⟩) F.length cap) (F.set i (F[i]! ++ [x])) ∧ Stp (fun q => q = h ∨ q = rr i) ρ w (ext ρ w (rr i)) (w'.setCell ⟨g, i, none⟩ v') := by
  have hrow' := hrow.keep hs (fun e => hh i e.symm)
  have hs6 := hrow'.store i v'
  refine ⟨⟨vs.set i v', by simpa using hl, ?_, fun j hj => ?_⟩, (hs.one (.inr rfl)).trans (hs6.one (.inl rfl))⟩
  · have := hrow'.set i v'
    rw [List.length_set]; exact this
  · rw [List.length_set] at hj
    rw [set_get (by omega), set_get hi]
    split
    · next e =>
      subst e
      unfold NRow
      rw [List.map_append, List.length_append]
      exact hr.keep hs6 (hh j)
    · next e => exact ((hn j hj).keep hs (fun e' => e (hinj j e'))).keep hs6 (hh j)

/-- The graph. -/
structure Gr (ρ : Rho) (w : World) (G : Nat) (S D : List (List Nat)) (vs vp : Value) : Prop where
  st : St ρ w .gr G 88 #[vs, vp]
  su : Rag ρ w .suH .su vs S
  pr : Rag ρ w .prH .pr vp D
def RG : Role → Prop := fun r => r = .suH ∨ (∃ u, r = .su u) ∨ r = .prH ∨ ∃ u, r = .pr u
theorem Gr.keep {R : Role → Prop} {ρ ρ' : Rho} {w w' : World} {G : Nat} {S D : List (List Nat)} {vs vp : Value} (h : Gr ρ w G S D vs vp) (hk : Stp R ρ w ρ' w') (h0 : ¬ R .gr) (h1 : ¬ R .suH) (h2 : ∀ u, ¬ R (.su u)) (h3 : ¬ R .prH) (h4 : ∀ u, ¬ R (.pr u)) : Gr ρ' w' G S D vs vp :=
  ⟨h.st.keep hk h0, h.su.keep hk h1 h2, h.pr.keep hk h3 h4⟩

theorem sizeOf38' (w : World) : (sizeOf 38).run Yba.prog w = .ok 1 w := sizeOf38 w
theorem idx48 {b n c : Nat} {k : Nat} (hk : k < n) (w : World) : (Instr.indexAt 48 (.slice (some ⟨b, 0, none⟩) n c) (.int .i64 k)).run Yba.prog w = .ok (.pointer (some ⟨b, k, none⟩)) w := by
  rw [run_indexAt_slice (h := by kernel_rfl), if_pos (by omega)]
  have e : Yba.prog.elem 48 = 38 := by kernel_rfl
  rw [e, sizeOf38]
  simp [Addr.add]
  exact fun h => h.symm
theorem idx38 {b n c : Nat} {k : Nat} (hk : k < n) (w : World) : (Instr.indexAt 38 (.slice (some ⟨b, 0, none⟩) n c) (.int .i64 k)).run Yba.prog w = .ok (.pointer (some ⟨b, k, none⟩)) w := by
  rw [run_indexAt_slice (h := by kernel_rfl), if_pos (by omega)]
  have e : Yba.prog.elem 38 = 3 := by kernel_rfl
  rw [e, sizeOf3]
  simp [Addr.add]
  exact fun h => h.symm

/-- What graph.add leaves. -/
def GAdd (G : Nat) (S D : List (List Nat)) (vs vp : Value) (u v : Nat) (ρ : Rho) (w w' : World) : Prop := ∃ ρ', Gr ρ' w' G (S.set u (S[u]! ++ [v])) (D.set v (D[v]! ++ [u])) vs vp ∧ Stp RG ρ w ρ' w'

set_option maxHeartbeats 4000000 in
set_option maxRecDepth 100000 in
theorem gadd_any (G : Nat) (S D : List (List Nat)) (vs vp : Value) (u v : Nat) (ρ : Rho) (w : World) (hu : u < S.length) (hv : v < D.length) (hSl : (S[u]!).length ≤ 50000000) (hDl : (D[v]!).length ≤ 50000000) (h : Gr ρ w G S D vs vp) :
    Calls Yba.prog 14 #[.pointer (some ⟨G, 0, none⟩), .int .i64 u, .int .i64 v] w fun e w' => e = .returned (.tuple #[]) ∧ GAdd G S D vs vp u v ρ w w' := by
  obtain ⟨g, cap, vl, hvs, hl, hrow, hn, hg⟩ := h.su.at (by omega)
  subst hvs
  have q0 := h.st.cell 0 rfl
  have q0a := fun o => cell?_alloc_old o q0
  have r0 := hrow.cell1 hu hl
  obtain ⟨X, eX⟩ : ∃ X, X = S[u]! := ⟨_, rfl⟩
  have hnu := hn u hu
  rw [← eX] at hnu hSl
  obtain ⟨aU, cU, hvU, _, _⟩ := Row.form hnu
  rw [hvU] at r0
  have r0a := fun o => cell?_alloc_old o r0
  have ix := fun wx => idx48 (b := g) (c := cap) hu wx
  have HU : Hid (NRow ρ w (.su u) (.slice aU X.length cU) X) := by rw [← hvU]; exact hnu
  have EX := hide eX
  have HV := hide (And.intro hl (And.intro hrow hn))
  have HH := hide h
  clear h hl hrow hn hg hvU hnu eX
  go_enter Yba.func14, Yba.ntmps14
  go_upto_region 0 with fail
  go_cut [6] (fun _ wx => ∃ ρ1, Rag ρ1 wx .suH .su (.slice (some ⟨g, 0, none⟩) S.length cap) (S.set u (S[u]! ++ [v])) ∧ Stp (fun q => q = .suH ∨ q = .su u) ρ w ρ1 wx)
  case first =>
    go_region_law (refine step_app w _ (by rfl) _ _ _ (by rfl) (.su u) 3 _ 1 8 Yba.underlying38 info3 rfl (by omega) (.slice aU X.length cU) X.length (X.map nv) (by rfl) HU.out ((Below.refl _ w).alloc (Nat.le_refl _) _).drew w.heap.size #[.int .i64 v] (0, 0) (heap_alloc_new w _) (by rfl) rfl (by simp [Value.oneCell']) (by omega) (by omega) ?_; intro g5 c5 w5 hr5 hs5; have hc5 := HV.out.2.1.keep hs5 (by simp); have k5 := hc5.cell1 hu HV.out.1; have f5 := hc5.free u; have m5 := (HH.out.st.keep hs5 (by simp)).cell 0 rfl; have H5 := hide (And.intro hr5 hs5); clear hr5 hs5 hc5)
    all_goals
      go_wp2
      go_meet
      case rel => exact ⟨_, Rag.push (rr := .su) HV.out.1 HV.out.2.1 HV.out.2.2 hu (by simp) (by simp) (by rw [← EX.out]; exact H5.out.1) H5.out.2⟩
  obtain ⟨W1, e1⟩ : ∃ W1, W1 = wc := ⟨_, rfl⟩
  subst e1
  obtain ⟨ρ1, hsu1, hs1⟩ := hcut
  clear q0 q0a r0 r0a ix HU HV
  have hst1 := HH.out.st.keep hs1 (by simp)
  have hpr1 := HH.out.pr.keep hs1 (by simp) (by simp)
  obtain ⟨g2, cap2, vl2, hvp, hl, hrow, hn, hg⟩ := hpr1.at (by omega)
  subst hvp
  have q0 := hst1.cell 1 rfl
  have q0a := fun o => cell?_alloc_old o q0
  have r0 := hrow.cell1 hv hl
  obtain ⟨Y, eY⟩ : ∃ Y, Y = D[v]! := ⟨_, rfl⟩
  have hnu := hn v hv
  rw [← eY] at hnu hDl
  obtain ⟨aU, cU, hvU, _, _⟩ := Row.form hnu
  rw [hvU] at r0
  have r0a := fun o => cell?_alloc_old o r0
  have ix := fun wx => idx48 (b := g2) (c := cap2) hv wx
  have HU : Hid (NRow ρ1 W1 (.pr v) (.slice aU Y.length cU) Y) := by rw [← hvU]; exact hnu
  have EY := hide eY
  have HV := hide (And.intro hl (And.intro hrow hn))
  have H1 := hide (And.intro hsu1 (And.intro hs1 hst1))
  clear hl hrow hn hg hvU hpr1 hsu1 hs1 hst1 hnu eY
  go_upto_region 1 with fail
  go_region_law (refine step_app W1 _ (by rfl) _ _ _ (by rfl) (.pr v) 3 _ 1 8 Yba.underlying38 info3 rfl (by omega) (.slice aU Y.length cU) Y.length (Y.map nv) (by rfl) HU.out ((Below.refl _ W1).alloc (Nat.le_refl _) _).drew W1.heap.size #[.int .i64 u] (0, 0) (heap_alloc_new W1 _) (by rfl) rfl (by simp [Value.oneCell']) (by omega) (by omega) ?_; intro g5 c5 w5 hr5 hs5; have hc5 := HV.out.2.1.keep hs5 (by simp); have k5 := hc5.cell1 hv HV.out.1; have f5 := hc5.free v; have m5 := (H1.out.2.2.keep hs5 (by simp)).cell 1 rfl; have H5 := hide (And.intro hr5 hs5); clear hr5 hs5 hc5)
  all_goals
    go_wp2
    go_end0
    obtain ⟨hsu1, hs1, hst1⟩ := H1.out
    obtain ⟨a1, a2⟩ := Rag.push (rr := .pr) HV.out.1 HV.out.2.1 HV.out.2.2 hv (by simp) (by simp) (by rw [← EY.out]; exact H5.out.1) H5.out.2
    exact ⟨rfl, _, ⟨hst1.keep a2 (by simp), hsu1.keep a2 (by simp) (by simp), a1⟩, (hs1.mono (fun r hr => by unfold RG; rcases hr with h | h <;> simp [h])).trans (a2.mono (fun r hr => by unfold RG; rcases hr with h | h <;> simp [h]))⟩
end Go.Proofs.Ybulknju
