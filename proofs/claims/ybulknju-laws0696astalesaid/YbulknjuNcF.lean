import Derived.Test.YbulknjuNcC
import Derived.Test.YbulknjuNcD
import Derived.Test.YbulknjuNcE
import Derived.Test.YbulknjuNcP
namespace Go.Proofs.Ybulknju
open Go.RowKit

def R33 : Role → Prop := fun r => r = .cols ∨ r = .cof ∨ r = .cat ∨ r = .wrH ∨ (∃ k, r = .wrK k) ∨ (∃ k c, r = .wr k c) ∨ r = .reH ∨ (∃ k, r = .reK k) ∨ (∃ k c, r = .re k c) ∨ r = .loH
theorem R33.rs {r : Role} (h : RS r) : ¬ R33 r := by
  unfold RS at h; unfold R33
  rcases h with h | h | h | h | h | ⟨_, h⟩ | h | h | h | h | ⟨_, h⟩ <;> simp [h]
/-- The columns being made. -/
structure Nw (ρ : Rho) (w : World) (n nK nW : Nat) (vp : Value) (Cb gof gat gL : Nat) (vW vR : Value) (a b : Nat → Int) (kW kR : Nat) (LW LR : Nat → List (List Nat)) (ρr : Rho) (wr : World) : Prop where
  st : St ρr wr .cols Cb 103 #[.slice (some ⟨gof, 0, none⟩) n n, .slice (some ⟨gat, 0, none⟩) n n, vp, vW, vR, .slice (some ⟨gL, 0, none⟩) nK nK]
  of : FRow ρr wr .cof (.slice (some ⟨gof, 0, none⟩) n n) n a
  pos : FRow ρr wr .cat (.slice (some ⟨gat, 0, none⟩) n n) n b
  lo : Row ρr wr .loH 38 1 (.slice (some ⟨gL, 0, none⟩) nK nK) nK (List.replicate nK (.slice none 0 0))
  wri : Rag3 ρr wr .wrH .wrK .wr vW kW LW
  rea : Rag3 ρr wr .reH .reK .re vR kR LR
  stp : Stp R33 ρ w ρr wr
theorem Rag3.nil0 (ρ : Rho) (w : World) (h : Role) (r1 : Nat → Role) (r2 : Nat → Nat → Role) (L : Nat → List (List Nat)) : Rag3 ρ w h r1 r2 (.slice none 0 0) 0 L := ⟨[], rfl, Row.nil _ _ _ _ _, fun k hk => absurd hk (Nat.not_lt_zero k)⟩
theorem C0.nw {ρ : Rho} {w : World} {n nK : Nat} (nW : Nat) {vp : Value} {Cb gof gat gL : Nat} {ρr : Rho} {wr : World} (h : C0 ρ w n nK vp Cb gof gat gL ρr wr) (L : Nat → List (List Nat)) : Nw ρ w n nK nW vp Cb gof gat gL (.slice none 0 0) (.slice none 0 0) (fun _ => 0) (fun _ => 0) 0 0 L L ρr wr :=
  ⟨h.st, h.of, h.pos, h.lo, Rag3.nil0 _ _ _ _ _ _, Rag3.nil0 _ _ _ _ _ _, h.stp.mono fun _ h => h.elim⟩
/-- A key more. -/
theorem Rag3.app {ρ : Rho} {w w9 : World} {h : Role} {r1 : Nat → Role} {r2 : Nat → Nat → Role} {nk nW g' c' : Nat} {vs : List Value} (hm : nW ≤ maxLen) (hl : vs.length = nk) (hrag : ∀ k, k < nk → Rag ρ w (r1 k) (r2 k) vs[k]! (List.replicate nW []))
    (hr : Row (ext (ext ρ w (r1 nk)) (w.alloc (.cells (madeCells #[.slice none 0 0] nW) 38)) h) w9 h 48 1 (.slice (some ⟨g', 0, none⟩) (nk + 1) c') (nk + 1) (vs ++ [.slice (some ⟨w.heap.size, 0, none⟩) nW nW]))
    (hs : Stp (fun q => q = h) (ext ρ w (r1 nk)) (w.alloc (.cells (madeCells #[.slice none 0 0] nW) 38)) (ext (ext ρ w (r1 nk)) (w.alloc (.cells (madeCells #[.slice none 0 0] nW) 38)) h) w9) (h1 : ∀ k, r1 k ≠ h) (h2 : ∀ k c, r2 k c ≠ h) :
    Rag3 (ext (ext ρ w (r1 nk)) (w.alloc (.cells (madeCells #[.slice none 0 0] nW) 38)) h) w9 h r1 r2 (.slice (some ⟨g', 0, none⟩) (nk + 1) c') (nk + 1) (fun _ => List.replicate nW []) := by
  have s1 : Stp (fun _ => False) ρ w (ext ρ w (r1 nk)) (w.alloc (.cells (madeCells #[.slice none 0 0] nW) 38)) := (Stp.refl _ ρ w).alloc _ _
  refine ⟨_, by simp [hl], hr, fun k hk => ?_⟩
  by_cases hk' : k < nk
  · have e : (vs ++ [Value.slice (some ⟨w.heap.size, 0, none⟩) nW nW])[k]! = vs[k]! := by
      rw [getElem!_pos _ k (by simp; omega), getElem!_pos vs k (by omega), List.getElem_append_left]
    rw [e]
    exact ((hrag k hk').keep s1 (fun h => h) (fun _ h => h)).keep hs (h1 k) (h2 k)
  · obtain rfl : k = nk := by omega
    have e : (vs ++ [Value.slice (some ⟨w.heap.size, 0, none⟩) nW nW])[k]! = .slice (some ⟨w.heap.size, 0, none⟩) nW nW := by
      rw [getElem!_pos _ k (by simp; omega), List.getElem_append_right (by omega)]; simp [hl]
    rw [e]
    exact (Rag.made hm).keep hs (h1 k) (h2 k)

theorem Nw.app5 {ρ : Rho} {w : World} {n nK nW : Nat} {vp : Value} {Cb gof gat gL : Nat} {vW vR : Value} {a b : Nat → Int} {kW kR : Nat} {L : Nat → List (List Nat)} {ρr : Rho} {wr w9 : World} {g' c' : Nat} {vs : List Value} (hm : nW ≤ maxLen) (h : Nw ρ w n nK nW vp Cb gof gat gL vW vR a b kW kR (fun _ => List.replicate nW []) L ρr wr) (hvs : vs.length = kW) (hrag : ∀ k, k < kW → Rag ρr wr (.wrK k) (.wr k) vs[k]! (List.replicate nW []))
    (hr : Row (ext (ext ρr wr (.wrK kW)) (wr.alloc (.cells (madeCells #[.slice none 0 0] nW) 38)) .wrH) w9 .wrH 48 1 (.slice (some ⟨g', 0, none⟩) (kW + 1) c') (kW + 1) (vs ++ [.slice (some ⟨wr.heap.size, 0, none⟩) nW nW])) (hs : Stp (fun q => q = .wrH) (ext ρr wr (.wrK kW)) (wr.alloc (.cells (madeCells #[.slice none 0 0] nW) 38)) (ext (ext ρr wr (.wrK kW)) (wr.alloc (.cells (madeCells #[.slice none 0 0] nW) 38)) .wrH) w9) :
    Nw ρ w n nK nW vp Cb gof gat gL (.slice (some ⟨g', 0, none⟩) (kW + 1) c') vR a b (kW + 1) kR (fun _ => List.replicate nW []) L (ext (ext ρr wr (.wrK kW)) (wr.alloc (.cells (madeCells #[.slice none 0 0] nW) 38)) .wrH) (w9.setCell ⟨Cb, 3, none⟩ (.slice (some ⟨g', 0, none⟩) (kW + 1) c')) := by
  have s1 : Stp (fun _ => False) ρr wr (ext ρr wr (.wrK kW)) (wr.alloc (.cells (madeCells #[.slice none 0 0] nW) 38)) := (Stp.refl _ ρr wr).alloc _ _
  have hst := (h.st.keep s1 (fun h => h)).keep hs (by decide)
  have s3 := hst.store 3 (.slice (some ⟨g', 0, none⟩) (kW + 1) c')
  have ha := Rag3.app (r1 := .wrK) (r2 := .wr) hm hvs hrag hr hs (by simp) (by simp)
  exact ⟨hst.set 3 _, ((h.of.keep s1 (fun h => h)).keep hs (by decide)).keep s3 (by decide), ((h.pos.keep s1 (fun h => h)).keep hs (by decide)).keep s3 (by decide), ((h.lo.keep s1 (fun h => h)).keep hs (by decide)).keep s3 (by decide), ha.keep s3 (by decide) (by simp) (by simp), ((h.rea.keep s1 (fun h => h) (fun _ h => h) (fun _ _ h => h)).keep hs (by decide) (by simp) (by simp)).keep s3 (by decide) (by simp) (by simp), ((h.stp.trans (s1.mono fun _ h => h.elim)).trans (hs.one (by simp [R33]))).trans (s3.one (by simp [R33]))⟩

theorem Nw.app6 {ρ : Rho} {w : World} {n nK nW : Nat} {vp : Value} {Cb gof gat gL : Nat} {vW vR : Value} {a b : Nat → Int} {kW kR : Nat} {L : Nat → List (List Nat)} {ρr : Rho} {wr w9 : World} {g' c' : Nat} {vs : List Value} (hm : nW ≤ maxLen) (h : Nw ρ w n nK nW vp Cb gof gat gL vW vR a b kW kR L (fun _ => List.replicate nW []) ρr wr) (hvs : vs.length = kR) (hrag : ∀ k, k < kR → Rag ρr wr (.reK k) (.re k) vs[k]! (List.replicate nW []))
    (hr : Row (ext (ext ρr wr (.reK kR)) (wr.alloc (.cells (madeCells #[.slice none 0 0] nW) 38)) .reH) w9 .reH 48 1 (.slice (some ⟨g', 0, none⟩) (kR + 1) c') (kR + 1) (vs ++ [.slice (some ⟨wr.heap.size, 0, none⟩) nW nW])) (hs : Stp (fun q => q = .reH) (ext ρr wr (.reK kR)) (wr.alloc (.cells (madeCells #[.slice none 0 0] nW) 38)) (ext (ext ρr wr (.reK kR)) (wr.alloc (.cells (madeCells #[.slice none 0 0] nW) 38)) .reH) w9) :
    Nw ρ w n nK nW vp Cb gof gat gL vW (.slice (some ⟨g', 0, none⟩) (kR + 1) c') a b kW (kR + 1) L (fun _ => List.replicate nW []) (ext (ext ρr wr (.reK kR)) (wr.alloc (.cells (madeCells #[.slice none 0 0] nW) 38)) .reH) (w9.setCell ⟨Cb, 4, none⟩ (.slice (some ⟨g', 0, none⟩) (kR + 1) c')) := by
  have s1 : Stp (fun _ => False) ρr wr (ext ρr wr (.reK kR)) (wr.alloc (.cells (madeCells #[.slice none 0 0] nW) 38)) := (Stp.refl _ ρr wr).alloc _ _
  have hst := (h.st.keep s1 (fun h => h)).keep hs (by decide)
  have s3 := hst.store 4 (.slice (some ⟨g', 0, none⟩) (kR + 1) c')
  have ha := Rag3.app (r1 := .reK) (r2 := .re) hm hvs hrag hr hs (by simp) (by simp)
  exact ⟨hst.set 4 _, ((h.of.keep s1 (fun h => h)).keep hs (by decide)).keep s3 (by decide), ((h.pos.keep s1 (fun h => h)).keep hs (by decide)).keep s3 (by decide), ((h.lo.keep s1 (fun h => h)).keep hs (by decide)).keep s3 (by decide), ((h.wri.keep s1 (fun h => h) (fun _ h => h) (fun _ _ h => h)).keep hs (by decide) (by simp) (by simp)).keep s3 (by decide) (by simp) (by simp), ha.keep s3 (by decide) (by simp) (by simp), ((h.stp.trans (s1.mono fun _ h => h.elim)).trans (hs.one (by simp [R33]))).trans (s3.one (by simp [R33]))⟩

/-- An operation more in a column of a key. -/
theorem Rag3.push {ρ : Rho} {w w9 : World} {h : Role} {r1 : Nat → Role} {r2 : Nat → Nat → Role} {K gA cA gB cB k c x : Nat} {L : Nat → List (List Nat)} {vs us : List Value} {v' : Value} (hvs : vs.length = K) (hrow : Row ρ w h 48 1 (.slice (some ⟨gA, 0, none⟩) K cA) K vs) (hrag : ∀ k, k < K → Rag ρ w (r1 k) (r2 k) vs[k]! (L k)) (hk : k < K) (hvk : vs[k]! = .slice (some ⟨gB, 0, none⟩) (L k).length cB) (hus : us.length = (L k).length) (hur : Row ρ w (r1 k) 38 1 (.slice (some ⟨gB, 0, none⟩) (L k).length cB) (L k).length us) (hun : ∀ c, c < (L k).length → NRow ρ w (r2 k c) us[c]! (L k)[c]!) (hc : c < (L k).length)
    (hr : Row (ext ρ w (r2 k c)) w9 (r2 k c) 3 1 v' (((L k)[c]!).length + 1) (((L k)[c]!).map nv ++ [nv x])) (hs : Stp (fun q => q = r2 k c) ρ w (ext ρ w (r2 k c)) w9) (h1 : ∀ k, r1 k ≠ h) (h2 : ∀ k c, r2 k c ≠ h) (h3 : ∀ k k' c, r2 k c ≠ r1 k') (h4 : ∀ k k', r1 k = r1 k' → k = k') (h5 : ∀ k c k' c', r2 k c = r2 k' c' → k = k' ∧ c = c') :
    Rag3 (ext ρ w (r2 k c)) (w9.setCell ⟨gB, c, none⟩ v') h r1 r2 (.slice (some ⟨gA, 0, none⟩) K cA) K (fun k' => if k' = k then (L k).set c ((L k)[c]! ++ [x]) else L k') ∧ Stp (fun q => q = r1 k ∨ q = r2 k c) ρ w (ext ρ w (r2 k c)) (w9.setCell ⟨gB, c, none⟩ v') := by
  obtain ⟨p1, p2⟩ := Rag.push (rr := r2 k) hus hur hun hc (fun j => h3 k k j) (fun j e => (h5 k j k c e).2) hr hs
  refine ⟨⟨vs, hvs, hrow.keep p2 (by rintro (e | e); exact h1 k e.symm; exact h2 k c e.symm), fun k' hk' => ?_⟩, p2⟩
  by_cases e : k' = k
  · subst e
    rw [if_pos rfl, hvk]; exact p1
  · rw [if_neg e]
    exact (hrag k' hk').keep p2 (by rintro (e' | e'); exact e (h4 _ _ e'); exact h3 k k' c e'.symm) (by rintro j (e' | e'); exact h3 k' k j e'; exact e (h5 _ _ _ _ e').1)

def ColsP (ρ : Rho) (w : World) (C Lb : Nat) (O : List OpR) (Q : List Nat) (P : Nat → List Nat) (F : List (List Nat)) (vo vp vf vs vk vpc vps vsr vrd vsw : Value) (co po : Nat → Nat) (e : Ending) (w' : World) : Prop := ∃ Cb gof gat vW vR vL ρ', e = .returned (.pointer (some ⟨Cb, 0, none⟩)) ∧ Sta ρ' w' C Lb O Q P F vo vp vf vs vk vpc vps vsr vrd vsw Cb gof gat vW vR vL co po ∧ Stp R33 ρ w ρ' w'
set_option maxHeartbeats 8000000 in
set_option maxRecDepth 100000 in
theorem newCols_any (C Lb : Nat) (O : List OpR) (Q : List Nat) (P : Nat → List Nat) (F : List (List Nat)) (vo vp vf vs vk vpc vps vsr vrd vsw : Value) (co po : Nat → Nat) (ρ : Rho) (w : World) (hO : O.length ≤ 2000) (hQ : Q.length ≤ 3) (hK : kk O ≤ 2000) (hco : Col O.length (Q.map P) co po) (hky : ∀ o, o < O.length → ky O o < kk O) (h : Base ρ w C Lb O Q P F vo vp vf vs vk vpc vps vsr vrd vsw) :
    Calls Yba.prog 33 #[.pointer (some ⟨Lb, 0, none⟩), vp] w fun e w' => ColsP ρ w C Lb O Q P F vo vp vf vs vk vpc vps vsr vrd vsw co po e w' := by
  obtain ⟨vl, hvl, hvr, hvn⟩ := h.chk.prc.ex
  obtain ⟨aP, cP, hvp, _, _⟩ := hvr.form
  rw [List.length_map] at hvp
  subst hvp
  obtain ⟨ao, cao, hvo, _, _⟩ := h.chk.ops.form
  have l0 := h.st.cell 0 rfl
  have l1 := h.st.cell 1 rfl
  have q0 : w.cell? ⟨C, 0, none⟩ = some (.slice ao O.length cao) := by rw [← hvo]; exact h.chk.chk.cell 0 rfl
  have HH := hide h
  have HCO := hide hco
  have HKY := hide hky
  have HVL : Hid (vl.length = Q.length ∧ Row ρ w .procs 38 1 (.slice aP Q.length cP) Q.length vl ∧ ∀ c, c < Q.length → NRow ρ w (.proc Q[c]!) vl[c]! (Q.map P)[c]!) := ⟨by rw [hvl, List.length_map], by rw [List.length_map] at hvr; exact hvr, fun c hc => hvn c (by rw [List.length_map]; exact hc)⟩
  obtain ⟨H, eH⟩ : ∃ H, H = Q.map P := ⟨_, rfl⟩
  have hHl : H.length = Q.length := by rw [eH, col_len]
  have EH := hide eH
  rw [← eH] at HCO HVL
  clear eH
  have HVO := hide hvo
  clear h hco hky hvl hvr hvn hvo
  go_enter Yba.func33, Yba.ntmps33
  go_upto_region 2 with fail
  refine wp_then (reg33_2_any Lb O.length Q.length (kk O) cP aP ρ w hO hK l1 _ _ _ _ _ _ _ _ _ _ _ _ _ _ _ _ _ _ _ _ _ _ _ _ _ _ _ _ _ _ _ _ _ _ _ _ _ _ _ _ _ _ _ _ _ _ _ _ _ _ _ _ _ _ _ _ _ _ _ _ _ _ _ _ _ _ _ _ _ _ _ _ _ _ _ _ _ _ _ _ _ _ _ _ _ _ _ _ _ _ _ _ _ _ _ _ _ _ _ _ _ _ _ _ _ _ _ _ _ _ _ _ _ _ _ _ _ _ _ _ _ _ _ _ _ _ _ _ _ _ _ _ _ _ _ _ _ _ _ _ _ _ _ _ _ _ _ _ _ _ _ _ _ _ _ _ _ _ _ _ _ _ _ _ _ _ _ _ _ _ _ _ _ _ _ _ _ _ _ _ _ _ _ _ _ _ _ _ _ _ _ _ _ _ _ _ _ _ _ _ _ _ _ _ _ _ _ _ _ _ _ _ _ _ ?_)
  rintro Cb W1 x23 x24 x25 x26 x27 x28 x29 x30 x31 x32 x33 x34 ⟨gof, gat, gL, ρ1, hc0⟩
  have HN1 := hide (hc0.nw Q.length (fun _ => List.replicate Q.length []))
  have l1' : W1.cell? ⟨Lb, 1, none⟩ = some (.int .i64 (kk O : Nat)) := ((HH.out.keep hc0.stp (fun _ _ h => h)).st.cell 1 rfl)
  clear hc0 l0 l1 q0
  go_upto_block 0 with fail
  go_cut [39] (fun _ wx => ∃ ρr vW vR, Nw ρ w O.length (kk O) Q.length (.slice aP Q.length cP) Cb gof gat gL vW vR (fun _ => 0) (fun _ => 0) (kk O) (kk O) (fun _ => List.replicate Q.length []) (fun _ => List.replicate Q.length []) ρr wx)
  case first =>
    go_wp2
    go_loopw [39] (fun i wr => ∃ k : Nat, k ≤ kk O ∧ i = .int .i64 k ∧ ∃ ρr vW vR, Nw ρ w O.length (kk O) Q.length (.slice aP Q.length cP) Cb gof gat gL vW vR (fun _ => 0) (fun _ => 0) k k (fun _ => List.replicate Q.length []) (fun _ => List.replicate Q.length []) ρr wr) (fun i _ => kk O - (intOf i).toNat)
    case atStart => exact ⟨0, by omega, rfl, _, _, _, HN1.out⟩
    case round =>
      clear HN1 l1'
      obtain ⟨k, hk, rfl, ρr, vW, vR, hw⟩ := hrel
      by_cases hkk : k < kk O
      · obtain ⟨vs, hvs, hrow, hrag⟩ := hw.wri.ex
        have HW := hide hw
        have HRG := hide (And.intro hvs hrag)
        go_upto_region 5 with fail
        refine wp_then (reg33_5_any Q.length cP Cb k k aP vW vs _ ρr wr (by omega) (by omega) rfl (hide hw.st) (hide hrow) _ _ _ _ _ _ _ _ _ _ _ _ _ _ _ _ _ _ _ _ _ _ _ _ _ _ _ _ _ _ _ _ _ _ _ _ _ _ _ _ _ _ _ _ _ _ _ _ _ _ _ _ _ _ _ _ _ _ _ _ _ _ _ _ _ _ _ _ _ _ _ _ _ _ _ _ _ _ _ _ _ _ _ _ _ _ _ _ _ _ _ _ _ _ _ _ _ _ _ _ _ _ _ _ _ _ _ _ _ _ _ _ _ _ _ _ _ _ _ _ _ _ _ _ _ _ _ _ _ _ _ _ _ _ _ _ _ _ _ _ _ _ _ _ _ _ _ _ _ _ _ _ _ _ _ _ _ _ _ _ _ _ _ _ _ _ _ _ _ _ _ _ _ _ _ _ _ _ _ _ _ _ _ _ _ _ _ _ _ _ _ _ _ _ _ _ _ _ _ _ _ _ _ _ _ _ _ _ _ _ _ _ _ _ _ ?_)
        rintro g5 c5 w5 x41 x42 x43 x44 x45 x46 x47 x48 x49 x50 x51 x52 ⟨hr5, hs5⟩
        have hw5 := hw.app5 (by unfold maxLen; omega) hvs hrag hr5 hs5
        obtain ⟨W5, e5⟩ : ∃ W5, W5 = w5.setCell ⟨Cb, 3, none⟩ (.slice (some ⟨g5, 0, none⟩) (k + 1) c5) := ⟨_, rfl⟩
        obtain ⟨ρ5, r5⟩ : ∃ ρ5, ρ5 = ext (ext ρr wr (.wrK k)) (wr.alloc (.cells (madeCells #[.slice none 0 0] Q.length) 38)) .wrH := ⟨_, rfl⟩
        rw [← e5, ← r5] at hw5
        rw [← e5]
        clear hw hvs hrow hrag hr5 hs5 e5 r5 HW HRG
        obtain ⟨vs6, hvs6, hrow6, hrag6⟩ := hw5.rea.ex
        go_upto_region 6 with fail
        refine wp_end (reg33_6_any Q.length cP Cb k k aP vR vs6 _ ρ5 W5 (by omega) (by omega) rfl (hide hw5.st) (hide hrow6) _ _ _ _ _ _ _ _ _ _ _ _ _ _ _ _ _ _ _ _ _ _ _ _ _ _ _ _ _ _ _ _ _ _ _ _ _ _ _ _ _ _ _ _ _ _ _ _ _ _ _ _ _ _ _ _ _ _ _ _ _ _ _ _ _ _ _ _ _ _ _ _ _ _ _ _ _ _ _ _ _ _ _ _ _ _ _ _ _ _ _ _ _ _ _ _ _ _ _ _ _ _ _ _ _ _ _ _ _ _ _ _ _ _ _ _ _ _ _ _ _ _ _ _ _ _ _ _ _ _ _ _ _ _ _ _ _ _ _ _ _ _ _ _ _ _ _ _ _ _ _ _ _ _ _ _ _ _ _ _ _ _ _ _ _ _ _ _ _ _ _ _ _ _ _ _ _ _ _ _ _ _ _ _ _ _ _ _ _ _ _ _ _ _ _ _ _ _ _ _ _ _ _ _ _ _ _ _ _ _ _ _ _ _ _ ?_)
        rintro g6 c6 w6 x53 x54 x55 x56 x57 x58 x59 x60 x61 x62 x63 x64 ⟨hr6, hs6⟩
        have HW6 := hide (hw5.app6 (by unfold maxLen; omega) hvs6 hrag6 hr6 hs6)
        clear hw5 hvs6 hrow6 hrag6 hr6 hs6
        go_wp2
        go_roundw
        case rel => exact ⟨k + 1, by omega, by go_num, _, _, _, HW6.out⟩
        case measure => simp [intOf]; omega
      · obtain rfl : kk O = k := by omega
        have HW := hide hw
        clear hw
        go_wp2
        go_meet
        case rel => exact ⟨_, _, _, HW.out⟩
  obtain ⟨W2, e2⟩ : ∃ W2, W2 = wc := ⟨_, rfl⟩
  subst e2
  obtain ⟨ρ2, vW, vR, hw2⟩ := hcut
  have k0 := hw2.st.cell 0 rfl
  have HW2 := hide hw2
  clear hw2 HN1 l1'
  go_upto_block 2 with fail
  go_cut [7] (fun _ wx => ∃ ρr, Nw ρ w O.length (kk O) Q.length (.slice aP Q.length cP) Cb gof gat gL vW vR (fun _ => -1) (fun _ => 0) (kk O) (kk O) (fun _ => List.replicate Q.length []) (fun _ => List.replicate Q.length []) ρr wx)
  case first =>
    go_wp2
    go_loopw [7, 71] (fun _ i wr => ∃ k : Nat, k ≤ O.length ∧ i = .int .i64 k ∧ ∃ ρr, Nw ρ w O.length (kk O) Q.length (.slice aP Q.length cP) Cb gof gat gL vW vR (fun j => if j < k then -1 else 0) (fun _ => 0) (kk O) (kk O) (fun _ => List.replicate Q.length []) (fun _ => List.replicate Q.length []) ρr wr) (fun _ i _ => O.length - (intOf i).toNat)
    case atStart => exact ⟨0, by omega, rfl, _, by simpa using HW2.out⟩
    case round =>
      clear HW2 k0
      obtain ⟨k, hk, rfl, ρr, hw⟩ := hrel
      by_cases hkn : k < O.length
      · have k0 := hw.st.cell 0 rfl
        have r1 := hw.of.cell hkn
        have rf := Row.free hw.of k
        have ix1 := fun wx => idx38 (b := gof) (c := O.length) hkn wx
        have s1 := Row.store hw.of k (.int .i64 (-1))
        have HW3 : Hid (Nw ρ w O.length (kk O) Q.length (.slice aP Q.length cP) Cb gof gat gL vW vR (fun j => if j < k + 1 then -1 else 0) (fun _ => 0) (kk O) (kk O) (fun _ => List.replicate Q.length []) (fun _ => List.replicate Q.length []) ρr (wr.setCell ⟨gof, k, none⟩ (.int .i64 (-1)))) := ⟨hw.st.keep s1 (by decide), (hw.of.set k (-1)).congr (fun i _ => upd_src (fun _ => (-1 : Int)) k (-1) rfl i), hw.pos.keep s1 (by decide), hw.lo.keep s1 (by decide), hw.wri.keep s1 (by decide) (by simp) (by simp), hw.rea.keep s1 (by decide) (by simp) (by simp), hw.stp.trans (s1.one (by simp [R33]))⟩
        clear hw s1
        go_wp2
        go_roundw
        case rel => exact ⟨k + 1, by omega, by go_num, _, HW3.out⟩
        case measure => simp [intOf]; omega
      · obtain rfl : O.length = k := by omega
        have HW3 : Hid (Nw ρ w O.length (kk O) Q.length (.slice aP Q.length cP) Cb gof gat gL vW vR (fun _ => -1) (fun _ => 0) (kk O) (kk O) (fun _ => List.replicate Q.length []) (fun _ => List.replicate Q.length []) ρr wr) := ⟨hw.st, hw.of.congr (fun i hi => by simp [hi]), hw.pos, hw.lo, hw.wri, hw.rea, hw.stp⟩
        clear hw
        go_wp2
        go_meet
        case rel => exact ⟨_, HW3.out⟩
  obtain ⟨W3, e3⟩ : ∃ W3, W3 = wc := ⟨_, rfl⟩
  subst e3
  obtain ⟨ρ3, hw3⟩ := hcut
  have HW3 : Hid (Nw ρ w O.length (kk O) Q.length (.slice aP Q.length cP) Cb gof gat gL vW vR (ofA co po 0 0) (atA co po 0 0) (kk O) (kk O) (fl (pW O) H 0 0) (fl (pR O) H 0 0) ρ3 W3) := by
    refine ⟨hw3.st, hw3.of.congr (fun i _ => by unfold ofA dn; simp), hw3.pos.congr (fun i _ => by unfold atA dn; simp), hw3.lo, ?_, ?_, hw3.stp⟩
    · have e : fl (pW O) H 0 0 = (fun _ => List.replicate Q.length []) := by funext k; rw [fl_zero, hHl]
      rw [e]; exact hw3.wri
    · have e : fl (pR O) H 0 0 = (fun _ => List.replicate Q.length []) := by funext k; rw [fl_zero, hHl]
      rw [e]; exact hw3.rea
  clear hw3 HW2 k0
  go_upto_block 4 with fail
  go_cut [8, 9, 10, 11, 12] (fun _ _ _ _ _ wx => ∃ ρr, Nw ρ w O.length (kk O) Q.length (.slice aP Q.length cP) Cb gof gat gL vW vR (ofA co po H.length 0) (atA co po H.length 0) (kk O) (kk O) (fl (pW O) H H.length 0) (fl (pR O) H H.length 0) ρr wx)
  case first =>
    go_wp2
    go_loopw [8, 9, 10, 11, 12, 83] (fun _ _ _ _ _ i wr => ∃ c : Nat, c ≤ H.length ∧ i = .int .i64 c ∧ ∃ ρr, Nw ρ w O.length (kk O) Q.length (.slice aP Q.length cP) Cb gof gat gL vW vR (ofA co po c 0) (atA co po c 0) (kk O) (kk O) (fl (pW O) H c 0) (fl (pR O) H c 0) ρr wr) (fun _ _ _ _ _ i _ => H.length - (intOf i).toNat)
    case atStart => exact ⟨0, by omega, rfl, _, HW3.out⟩
    case round =>
      clear HW3
      obtain ⟨c, hc, rfl, ρr, hw⟩ := hrel
      by_cases hcH : c < H.length
      · obtain ⟨hvl, hvr, hvn⟩ := HVL.out
        have hvr' := hvr.keep hw.stp (R33.rs (by simp [RS]))
        obtain ⟨gP, cP', hvP, _, _, _⟩ := hvr'.has (by omega)
        cases hvP
        have r0 := hvr'.cell1 (j := c) (by omega) hvl
        have hnX := hvn c (by omega)
        obtain ⟨X, eX⟩ : ∃ X, X = H[c]! := ⟨_, rfl⟩
        rw [← eX] at hnX
        obtain ⟨aX, cX, hvX, _, _⟩ := Row.form hnX
        rw [hvX] at r0 hnX
        have hX3 : X.length ≤ 3000 := by rw [eX]; exact HCO.out.small c hcH
        have hcQ : c < Q.length := by omega
        have ixp := fun wx => idx48 (b := gP) (c := cP) hcQ wx
        have EX := hide eX
        have HNX := hide hnX
        have HW := hide hw
        clear hw hvl hvr hvn hvr' hnX hvX eX
        go_upto_block 6 with fail
        clear r0
        go_wp2
        go_loopw [10, 11, 12, 90] (fun _ _ _ i wr => ∃ j : Nat, j ≤ X.length ∧ i = .int .i64 j ∧ ∃ ρr, Nw ρ w O.length (kk O) Q.length (.slice (some ⟨gP, 0, none⟩) Q.length cP) Cb gof gat gL vW vR (ofA co po c j) (atA co po c j) (kk O) (kk O) (fl (pW O) H c j) (fl (pR O) H c j) ρr wr) (fun _ _ _ i _ => X.length - (intOf i).toNat)
        case atStart => exact ⟨0, by omega, rfl, _, HW.out⟩
        case round =>
          clear HW
          obtain ⟨j, hj, rfl, ρr, hw⟩ := hrel
          by_cases hjX : j < X.length
          · have hjX' : j < (H[c]!).length := by rw [← EX.out]; exact hjX
            have hnr := HNX.out.keep hw.stp (R33.rs (by simp [RS]))
            obtain ⟨gX, cX'', hvX, _, _, _⟩ := Row.has hnr (by omega)
            cases hvX
            have y0 := hnr.cell (j := j) hjX
            obtain ⟨b1, b2, b3⟩ := HCO.out.bwd c j hcH hjX'
            obtain ⟨o, eo⟩ : ∃ o, o = X[j]! := ⟨_, rfl⟩
            have EO : Hid (o = (H[c]!)[j]!) := by show _ = _; rw [eo, EX.out]
            rw [← EO.out] at b1 b2 b3
            rw [← eo] at y0
            clear eo hnr
            have ix1 := fun wx => idx38 (b := gX) (c := cX) hjX wx
            have c1 := hw.of.cell b1
            have c2 := hw.pos.cell b1
            have f1 := Row.free hw.of o
            have f2 := Row.free hw.pos o
            have hne : gof ≠ gat := role_ne (Row.role hw.of gof rfl) (Row.role hw.pos gat rfl) (by simp)
            have hne1 : gof ≠ Cb := role_ne (Row.role hw.of gof rfl) hw.st.role (by simp)
            have hne2 : gat ≠ Cb := role_ne (Row.role hw.pos gat rfl) hw.st.role (by simp)
            have HW := hide hw
            clear hw
            go_upto_region 19 with fail
            refine wp_then (reg33_19_any Cb gof gat O.length c j o _ _ wr (HW.out.st.cell 0 rfl) (HW.out.st.cell 1 rfl) b1 c1 c2 f1 f2 hne hne1 hne2 _ _ _ _ _ _ _ _ _ _ _ _ _ _ _ _ _ _ _ _ _ _ _ _ _ _ _ _ _ _ _ _ _ _ _ _ _ _ _ _ _ _ _ _ _ _ _ _ _ _ _ _ _ _ _ _ _ _ _ _ _ _ _ _ _ _ _ _ _ _ _ _ _ _ _ _ _ _ _ _ _ _ _ _ _ _ _ _ _ _ _ _ _ _ _ _ _ _ _ _ _ _ _ _ _ _ _ _ _ _ _ _ _ _ _ _ _ _ _ _ _ _ _ _ _ _ _ _ _ _ _ _ _ _ _ _ _ _ _ _ _ _ _ _ _ _ _ _ _ _ _ _ _ _ _ _ _ _ _ _ _ _ _ _ _ _ _ _ _ _ _ _ _ _ _ _ _ _ _ _ _ _ _ _ _ _ _ _ _ _ _ _ _ _ _ _ _ _ _ _ _ _ _ _ _ _ _ _ _ _ _ _ _ ?_)
            rintro x95 x96 x97 x98 x99 x100 x101 x102 x103 x104 x105 x106 x107 x108
            have HW5 : Hid (Nw ρ w O.length (kk O) Q.length (.slice (some ⟨gP, 0, none⟩) Q.length cP) Cb gof gat gL vW vR (ofA co po c (j + 1)) (atA co po c (j + 1)) (kk O) (kk O) (fl (pW O) H c j) (fl (pR O) H c j) ρr ((wr.setCell ⟨gof, o, none⟩ (.int .i64 (c : Nat))).setCell ⟨gat, o, none⟩ (.int .i64 (j : Nat))).drew) := by
              have hw := HW.out
              have s1 := Row.store hw.of o (.int .i64 (c : Nat))
              have p1 := hw.pos.keep s1 (by decide)
              have s2 := Row.store p1 o (.int .i64 (j : Nat))
              have s3 : Stp (fun _ => False) ρr ((wr.setCell ⟨gof, o, none⟩ (.int .i64 (c : Nat))).setCell ⟨gat, o, none⟩ (.int .i64 (j : Nat))) ρr ((wr.setCell ⟨gof, o, none⟩ (.int .i64 (c : Nat))).setCell ⟨gat, o, none⟩ (.int .i64 (j : Nat))).drew := (Stp.refl _ ρr _).drewN 1
              have h1 := (FRow.congr (g := ofA co po c (j + 1)) (hw.of.set o (c : Nat)) (fun i hi => by rw [EO.out]; exact ofA_next HCO.out hcH hjX' hi)).keep s2 (by decide)
              have h2 := FRow.congr (g := atA co po c (j + 1)) (p1.set o (j : Nat)) (fun i hi => by rw [EO.out]; exact atA_next HCO.out hcH hjX' hi)
              exact ⟨((hw.st.keep s1 (by decide)).keep s2 (by decide)).keep s3 (fun h => h), h1.keep s3 (fun h => h), h2.keep s3 (fun h => h), ((hw.lo.keep s1 (by decide)).keep s2 (by decide)).keep s3 (fun h => h), ((hw.wri.keep s1 (by decide) (by simp) (by simp)).keep s2 (by decide) (by simp) (by simp)).keep s3 (fun h => h) (fun _ h => h) (fun _ _ h => h), ((hw.rea.keep s1 (by decide) (by simp) (by simp)).keep s2 (by decide) (by simp) (by simp)).keep s3 (fun h => h) (fun _ h => h) (fun _ _ h => h), ((hw.stp.trans (s1.one (by simp [R33]))).trans (s2.one (by simp [R33]))).trans (s3.mono fun _ h => h.elim)⟩
            obtain ⟨W5, e5⟩ : ∃ W5, W5 = ((wr.setCell ⟨gof, o, none⟩ (.int .i64 (c : Nat))).setCell ⟨gat, o, none⟩ (.int .i64 (j : Nat))).drew := ⟨_, rfl⟩
            rw [← e5] at HW5
            rw [← e5]
            clear e5 HW c1 c2 f1 f2 y0
            have hb := HH.out.keep HW5.out.stp (fun r hr => R33.rs hr)
            obtain ⟨gk, ck, hvk, _, _, _⟩ := Row.has hb.key (by omega)
            have l2 : W5.cell? ⟨Lb, 2, none⟩ = some (.slice (some ⟨gk, 0, none⟩) O.length ck) := by rw [← hvk]; exact hb.st.cell 2 rfl
            have kc : W5.cell? ⟨gk, o, none⟩ = some (.int .i64 ((ky O o : Nat) : Int)) := by have := hb.key; rw [hvk] at this; exact FRow.cell this b1
            have hkyo := HKY.out o b1
            have l0 := hb.st.cell 0 rfl
            have hor : Row ρr W5 .ops 74 6 (.slice ao O.length cao) O.length (flatO O) := by rw [← HVO.out]; exact hb.chk.ops
            obtain ⟨gO, cO, hvO, _, _, _⟩ := hor.has (by omega)
            have q0 : W5.cell? ⟨C, 0, none⟩ = some (.slice (some ⟨gO, 0, none⟩) O.length cO) := by rw [← hvO, ← HVO.out]; exact hb.chk.chk.cell 0 rfl
            rw [hvO] at hor
            have hop := hor.op rfl b1
            obtain ⟨xo, hxo⟩ : ∃ xo, xo = (opAt O o) := ⟨_, rfl⟩
            rw [← hxo] at hop
            obtain ⟨p0, p1, p2, p3, p4, p5⟩ := hop
            have HXO := hide hxo
            have ixk := fun wx => idx38 (b := gk) (c := ck) b1 wx
            have ixo := fun wx => idx47 (b := gO) (c := cO) b1 wx
            clear hb hvk hor hvO hxo p0 p2 p3 p4 p5
            cases hrd : xo.rd with
            | false =>
              rw [hrd] at p1
              have hkd : kd false = ⟨#[119, 114, 105, 116, 101]⟩ := rfl
              rw [hkd] at p1
              have HRD := hide hrd
              have HYES : Hid (pW O (ky O o) o = true) := by show _ = _; unfold pW; rw [← HXO.out, HRD.out]; simp
              have HNO : Hid (∀ k', pR O k' o = false) := fun k' => by unfold pR; rw [← HXO.out, HRD.out]; simp
              have HNE : Hid (∀ k', k' ≠ ky O o → pW O k' o = false) := fun k' hne => by unfold pW; simp; intro _ e; exact hne e.symm
              clear hrd hkd
              go_upto_region 22 with fail
              obtain ⟨vs, hvs, hrow, hrag⟩ := HW5.out.wri.ex
              obtain ⟨gA, cA, hvA, _, _, _⟩ := hrow.has (by omega)
              obtain ⟨us, hus, hur, hun⟩ := (hrag (ky O o) hkyo).ex
              obtain ⟨gB, cB, hvB, _, _, _⟩ := hur.has (by rw [fl_len]; omega)
              have hcl : c < (fl (pW O) H c j (ky O o)).length := by rw [fl_len]; omega
              have hnX := hun c hcl
              obtain ⟨aX', cX', hvX', _, _⟩ := Row.form hnX
              have hrow' := hrow
              rw [hvA] at hrow'
              have hur' := hur
              rw [hvB] at hur'
              have e0 := HW5.out.st.cell 3 rfl
              have e1 := hrow'.cell1 hkyo hvs
              have e2 := hur'.cell1 hcl hus
              have hflc : ((fl (pW O) H c j (ky O o))[c]!).length ≤ 3000 := by
                rw [fl_at _ _ _ _ _ (by omega)]
                refine Nat.le_trans (List.length_filter_le _ _) ?_
                unfold prt
                rw [if_neg (Nat.lt_irrefl _), if_pos rfl]
                exact Nat.le_trans (by simp; omega) (HCO.out.small c hcH)
              have hnX' := hnX
              rw [hvX'] at hnX' e2
              rw [hvB] at e1
              refine wp_end (reg33_22_any Cb gA gB cA cB (kk O) (fl (pW O) H c j (ky O o)).length c o (ky O o) aX' cX' _ us ρr W5 (by rw [← hvA]; exact e0) e1 e2 hkyo hcl hflc hus vs hvs (hide hvB) _ (hide (by rw [← hvA]; rfl)) (hide HW5.out.st) (hide hrow') (hide hur') (hide hnX') _ _ _ _ _ _ _ _ _ _ _ _ _ _ _ _ _ _ _ _ _ _ _ _ _ _ _ _ _ _ _ _ _ _ _ _ _ _ _ _ _ _ _ _ _ _ _ _ _ _ _ _ _ _ _ _ _ _ _ _ _ _ _ _ _ _ _ _ _ _ _ _ _ _ _ _ _ _ _ _ _ _ _ _ _ _ _ _ _ _ _ _ _ _ _ _ _ _ _ _ _ _ _ _ _ _ _ _ _ _ _ _ _ _ _ _ _ _ _ _ _ _ _ _ _ _ _ _ _ _ _ _ _ _ _ _ _ _ _ _ _ _ _ _ _ _ _ _ _ _ _ _ _ _ _ _ _ _ _ _ _ _ _ _ _ _ _ _ _ _ _ _ _ _ _ _ _ _ _ _ _ _ _ _ _ _ _ _ _ _ _ _ _ _ _ _ _ _ _ _ _ _ _ _ _ _ _ _ _ _ _ _ _ ?_)
              rintro g9 c9 w9 x128 x129 x130 x131 x132 x133 x134 x135 x136 x137 x138 x139 x140 x141 x142 x143 x144 x145 x146 x147 x148 x149 ⟨hr9, hs9⟩
              have HP := hide (Rag3.push (h := .wrH) (r1 := .wrK) (r2 := .wr) hvs hrow' hrag hkyo hvB hus hur' hun hcl hr9 hs9 (by simp) (by simp) (by simp) (by simp) (by simp))
              have HW6 : Hid (Nw ρ w O.length (kk O) Q.length (.slice (some ⟨gP, 0, none⟩) Q.length cP) Cb gof gat gL vW vR (ofA co po c (j + 1)) (atA co po c (j + 1)) (kk O) (kk O) (fl (pW O) H c (j + 1)) (fl (pR O) H c (j + 1)) (ext ρr W5 (.wr (ky O o) c)) (w9.setCell ⟨gB, c, none⟩ (.slice (some ⟨g9, 0, none⟩) (((fl (pW O) H c j (ky O o))[c]!).length + 1) c9))) := by
                obtain ⟨p1, p2⟩ := HP.out
                have hw := HW5.out
                refine ⟨hw.st.keep p2 (by simp), hw.of.keep p2 (by simp), hw.pos.keep p2 (by simp), hw.lo.keep p2 (by simp), ?_, ?_, hw.stp.trans (p2.mono fun r hr => by unfold R33; rcases hr with h | h <;> simp [h])⟩
                · rw [hvA]
                  have e : fl (pW O) H c (j + 1) = fun k' => if k' = ky O o then (fl (pW O) H c j (ky O o)).set c ((fl (pW O) H c j (ky O o))[c]! ++ [o]) else fl (pW O) H c j k' := by
                    funext k'
                    by_cases ek : k' = ky O o
                    · subst ek; rw [if_pos rfl, fl_yes hcH hjX' (by rw [← EO.out]; exact HYES.out), ← EO.out]
                    · rw [if_neg ek, fl_no hjX' (by rw [← EO.out]; exact HNE.out k' ek)]
                  rw [e]; exact p1
                · have e : fl (pR O) H c (j + 1) = fl (pR O) H c j := by funext k'; exact fl_no hjX' (by rw [← EO.out]; exact HNO.out k')
                  rw [e]; exact hw.rea.keep p2 (by simp) (by simp) (by simp)
              obtain ⟨W6, e6⟩ : ∃ W6, W6 = w9.setCell ⟨gB, c, none⟩ (.slice (some ⟨g9, 0, none⟩) (((fl (pW O) H c j (ky O o))[c]!).length + 1) c9) := ⟨_, rfl⟩
              rw [← e6] at HW6
              rw [← e6]
              clear hvs hrow hrag hus hur hun hnX hrow' hur' e0 e1 e2 hnX' hr9 hs9 HP HW5 e6
              go_wp2
              go_roundw
              case rel => exact ⟨j + 1, by omega, by go_num, _, HW6.out⟩
              case measure => simp [intOf]; omega
            | true =>
              rw [hrd] at p1
              have hkd : kd true = ⟨#[114, 101, 97, 100]⟩ := rfl
              rw [hkd] at p1
              have HRD := hide hrd
              have HYES : Hid (pR O (ky O o) o = true) := by show _ = _; unfold pR; rw [← HXO.out, HRD.out]; simp
              have HNO : Hid (∀ k', pW O k' o = false) := fun k' => by unfold pW; rw [← HXO.out, HRD.out]; simp
              have HNE : Hid (∀ k', k' ≠ ky O o → pR O k' o = false) := fun k' hne => by unfold pR; simp; intro _ e; exact hne e.symm
              clear hrd hkd
              go_upto_region 23 with fail
              obtain ⟨vs, hvs, hrow, hrag⟩ := HW5.out.rea.ex
              obtain ⟨gA, cA, hvA, _, _, _⟩ := hrow.has (by omega)
              obtain ⟨us, hus, hur, hun⟩ := (hrag (ky O o) hkyo).ex
              obtain ⟨gB, cB, hvB, _, _, _⟩ := hur.has (by rw [fl_len]; omega)
              have hcl : c < (fl (pR O) H c j (ky O o)).length := by rw [fl_len]; omega
              have hnX := hun c hcl
              obtain ⟨aX', cX', hvX', _, _⟩ := Row.form hnX
              have hrow' := hrow
              rw [hvA] at hrow'
              have hur' := hur
              rw [hvB] at hur'
              have e0 := HW5.out.st.cell 4 rfl
              have e1 := hrow'.cell1 hkyo hvs
              have e2 := hur'.cell1 hcl hus
              have hflc : ((fl (pR O) H c j (ky O o))[c]!).length ≤ 3000 := by
                rw [fl_at _ _ _ _ _ (by omega)]
                refine Nat.le_trans (List.length_filter_le _ _) ?_
                unfold prt
                rw [if_neg (Nat.lt_irrefl _), if_pos rfl]
                exact Nat.le_trans (by simp; omega) (HCO.out.small c hcH)
              have hnX' := hnX
              rw [hvX'] at hnX' e2
              rw [hvB] at e1
              refine wp_end (reg33_23_any Cb gA gB cA cB (kk O) (fl (pR O) H c j (ky O o)).length c o (ky O o) aX' cX' _ us ρr W5 (by rw [← hvA]; exact e0) e1 e2 hkyo hcl hflc hus vs hvs (hide hvB) _ (hide (by rw [← hvA]; rfl)) (hide HW5.out.st) (hide hrow') (hide hur') (hide hnX') _ _ _ _ _ _ _ _ _ _ _ _ _ _ _ _ _ _ _ _ _ _ _ _ _ _ _ _ _ _ _ _ _ _ _ _ _ _ _ _ _ _ _ _ _ _ _ _ _ _ _ _ _ _ _ _ _ _ _ _ _ _ _ _ _ _ _ _ _ _ _ _ _ _ _ _ _ _ _ _ _ _ _ _ _ _ _ _ _ _ _ _ _ _ _ _ _ _ _ _ _ _ _ _ _ _ _ _ _ _ _ _ _ _ _ _ _ _ _ _ _ _ _ _ _ _ _ _ _ _ _ _ _ _ _ _ _ _ _ _ _ _ _ _ _ _ _ _ _ _ _ _ _ _ _ _ _ _ _ _ _ _ _ _ _ _ _ _ _ _ _ _ _ _ _ _ _ _ _ _ _ _ _ _ _ _ _ _ _ _ _ _ _ _ _ _ _ _ _ _ _ _ _ _ _ _ _ _ _ _ _ _ _ ?_)
              rintro g9 c9 w9 x150 x151 x152 x153 x154 x155 x156 x157 x158 x159 x160 x161 x162 x163 x164 x165 x166 x167 x168 x169 x170 x171 ⟨hr9, hs9⟩
              have HP := hide (Rag3.push (h := .reH) (r1 := .reK) (r2 := .re) hvs hrow' hrag hkyo hvB hus hur' hun hcl hr9 hs9 (by simp) (by simp) (by simp) (by simp) (by simp))
              have HW6 : Hid (Nw ρ w O.length (kk O) Q.length (.slice (some ⟨gP, 0, none⟩) Q.length cP) Cb gof gat gL vW vR (ofA co po c (j + 1)) (atA co po c (j + 1)) (kk O) (kk O) (fl (pW O) H c (j + 1)) (fl (pR O) H c (j + 1)) (ext ρr W5 (.re (ky O o) c)) (w9.setCell ⟨gB, c, none⟩ (.slice (some ⟨g9, 0, none⟩) (((fl (pR O) H c j (ky O o))[c]!).length + 1) c9))) := by
                obtain ⟨p1, p2⟩ := HP.out
                have hw := HW5.out
                refine ⟨hw.st.keep p2 (by simp), hw.of.keep p2 (by simp), hw.pos.keep p2 (by simp), hw.lo.keep p2 (by simp), ?_, ?_, hw.stp.trans (p2.mono fun r hr => by unfold R33; rcases hr with h | h <;> simp [h])⟩
                · have e : fl (pW O) H c (j + 1) = fl (pW O) H c j := by funext k'; exact fl_no hjX' (by rw [← EO.out]; exact HNO.out k')
                  rw [e]; exact hw.wri.keep p2 (by simp) (by simp) (by simp)
                · rw [hvA]
                  have e : fl (pR O) H c (j + 1) = fun k' => if k' = ky O o then (fl (pR O) H c j (ky O o)).set c ((fl (pR O) H c j (ky O o))[c]! ++ [o]) else fl (pR O) H c j k' := by
                    funext k'
                    by_cases ek : k' = ky O o
                    · subst ek; rw [if_pos rfl, fl_yes hcH hjX' (by rw [← EO.out]; exact HYES.out), ← EO.out]
                    · rw [if_neg ek, fl_no hjX' (by rw [← EO.out]; exact HNE.out k' ek)]
                  rw [e]; exact p1
              obtain ⟨W6, e6⟩ : ∃ W6, W6 = w9.setCell ⟨gB, c, none⟩ (.slice (some ⟨g9, 0, none⟩) (((fl (pR O) H c j (ky O o))[c]!).length + 1) c9) := ⟨_, rfl⟩
              rw [← e6] at HW6
              rw [← e6]
              clear hvs hrow hrag hus hur hun hnX hrow' hur' e0 e1 e2 hnX' hr9 hs9 HP HW5 e6
              go_wp2
              go_roundw
              case rel => exact ⟨j + 1, by omega, by go_num, _, HW6.out⟩
              case measure => simp [intOf]; omega
          · obtain rfl : X.length = j := by omega
            have HW7 : Hid (Nw ρ w O.length (kk O) Q.length (.slice (some ⟨gP, 0, none⟩) Q.length cP) Cb gof gat gL vW vR (ofA co po (c + 1) 0) (atA co po (c + 1) 0) (kk O) (kk O) (fl (pW O) H (c + 1) 0) (fl (pR O) H (c + 1) 0) ρr wr) := by
              refine ⟨hw.st, FRow.congr (g := ofA co po (c + 1) 0) hw.of (fun i hi => ?_), FRow.congr (g := atA co po (c + 1) 0) hw.pos (fun i hi => ?_), hw.lo, ?_, ?_, hw.stp⟩
              · unfold ofA; rw [EX.out]; simp only [dn_row HCO.out hi]
              · unfold atA; rw [EX.out]; simp only [dn_row HCO.out hi]
              · have e : fl (pW O) H (c + 1) 0 = fl (pW O) H c X.length := by funext k'; rw [EX.out, fl_row]
                rw [e]; exact hw.wri
              · have e : fl (pR O) H (c + 1) 0 = fl (pR O) H c X.length := by funext k'; rw [EX.out, fl_row]
                rw [e]; exact hw.rea
            clear hw
            go_wp2
            go_roundw
            case rel => exact ⟨c + 1, by omega, by go_num, _, HW7.out⟩
            case measure => simp [intOf]; omega
      · obtain rfl : H.length = c := by omega
        have HW := hide hw
        clear hw
        go_wp2
        go_meet
        case rel => exact ⟨_, HW.out⟩
  obtain ⟨W8, e8⟩ : ∃ W8, W8 = wc := ⟨_, rfl⟩
  subst e8
  obtain ⟨ρ8, hw8⟩ := hcut
  have HW8 : Hid (Nw ρ w O.length (kk O) Q.length (.slice aP Q.length cP) Cb gof gat gL vW vR (fun i => (co i : Nat)) (fun i => (po i : Nat)) (kk O) (kk O) (wrL O H) (reL O H) ρ8 W8) := by
    refine ⟨hw8.st, FRow.congr (g := fun i => ((co i : Nat) : Int)) hw8.of (fun i hi => ?_), FRow.congr (g := fun i => ((po i : Nat) : Int)) hw8.pos (fun i hi => ?_), hw8.lo, ?_, ?_, hw8.stp⟩
    · have hd : dn co po H.length 0 i := Or.inl (HCO.out.fwd i hi).1
      unfold ofA; rw [if_pos hd]
    · have hd : dn co po H.length 0 i := Or.inl (HCO.out.fwd i hi).1
      unfold atA; rw [if_pos hd]
    · have e : fl (pW O) H H.length 0 = wrL O H := by funext k'; exact fl_wr O H k'
      rw [← e]; exact hw8.wri
    · have e : fl (pR O) H H.length 0 = reL O H := by funext k'; exact fl_re O H k'
      rw [← e]; exact hw8.rea
  have k0 := HW8.out.st.cell 0 rfl
  clear hw8 HW3
  go_upto_block 8 with fail
  go_cut [13, 14] (fun _ _ wx => wx = W8)
  case first =>
    go_wp2
    go_loopw [13, 14, 179] (fun _ _ i wr => ∃ k : Nat, k ≤ O.length ∧ i = .int .i64 k ∧ wr = W8) (fun _ _ i _ => O.length - (intOf i).toNat)
    case atStart => exact ⟨0, by omega, rfl, rfl⟩
    case round =>
      obtain ⟨k, hk, rfl, rfl⟩ := hrel
      by_cases hkn : k < O.length
      · have r1 := HW8.out.of.cell hkn
        obtain ⟨ck, eck⟩ : ∃ ck, ck = co k := ⟨_, rfl⟩
        rw [← eck] at r1
        have hz : decide ((ck : Int) < 0) = false := by simp
        have ix1 := fun wx => idx38 (b := gof) (c := O.length) hkn wx
        clear eck
        go_wp2
        go_roundw
        case rel => exact ⟨k + 1, by omega, by go_num, by first | trivial | rfl⟩
        case measure => simp [intOf]; omega
      · obtain rfl : O.length = k := by omega
        go_wp2
        go_meet
        case rel => rfl
  subst hcut
  go_wp2
  go_ret
  have hw := HW8.out
  refine ⟨Cb, gof, gat, vW, vR, _, ρ8, rfl, ⟨HH.out.keep hw.stp (fun r hr => R33.rs hr), hw.st, hw.of, hw.pos, by rw [← EH.out]; exact hw.wri, by rw [← EH.out]; exact hw.rea, hw.lo⟩, hw.stp⟩
end Go.Proofs.Ybulknju
