import Derived.Test.YbulknjuRea
namespace Go.Proofs.Ybulknju
open Go.RowKit

/-- The drops behind the lowering of u's reach. -/
def dropTo (O : List OpR) (D : List Drp) (u c : Nat) (old now : Int) : List Drp := if (opAt O u).rd then D else D ++ [⟨u, c, old, now⟩]
def RW : Role → Prop := fun r => r = .clo ∨ r = .reach ∨ r = .drops
theorem Stp.rv {ρ ρ' : Rho} {w w' : World} (h : Stp RW ρ w ρ' w') : Stp RV ρ w ρ' w' := h.mono fun r hr => by unfold RW at hr; unfold RV; rcases hr with h | h | h <;> simp [h]
def LowP (C Lb : Nat) (O : List OpR) (Q : List Nat) (P : Nat → List Nat) (F : List (List Nat)) (vo vp vf vs vk vpc vps vsr vrd vsw : Value) (Cb gof gat : Nat) (vW vR vL : Value) (co po : Nat → Nat) (B G : Nat) (gs gp : Value) (gR : Nat) (vh _vd : Value) (E : List (Nat × Nat)) (f : Nat → Int) (D : List Drp) (u c : Nat) (x : Int) (ρ : Rho) (w w' : World) : Prop :=
  ∃ ρ' vd', Dyn ρ' w' O.length Q.length (kk O) Lb Cb B G gs gp gR vh vd' E (upd f (u * Q.length + c) x) (dropTo O D u c (f (u * Q.length + c)) x) ∧ Sta ρ' w' C Lb O Q P F vo vp vf vs vk vpc vps vsr vrd vsw Cb gof gat vW vR vL co po ∧ Stp RW ρ w ρ' w'

theorem inv_low {O : List OpR} {H : List (List Nat)} {E : List (Nat × Nat)} {f : Nat → Int} {D : List Drp} (hi : Inv O H E f D) {u c : Nat} {x : Int} (hu : u < O.length) (hc : c < H.length) (h0 : 0 ≤ x) (h1 : x < f (u * H.length + c)) (h2 : u < (H[c]!)[x.toNat]!) : Inv O H E (upd f (u * H.length + c) x) (dropTo O D u c (f (u * H.length + c)) x) := by
  have hr := (hi.rng u c hu hc).2
  refine ⟨hi.edge, fun u' c' hu' hc' => ?_, fun u' c' hu' hc' hl => ?_, fun c' i hc' hl => ?_, fun d hd => ?_⟩
  · unfold upd
    split
    · next e => obtain ⟨rfl, rfl⟩ := at_inj hc' hc e; exact ⟨h0, by omega⟩
    · exact hi.rng u' c' hu' hc'
  · unfold upd at hl ⊢
    split
    · next e => obtain ⟨rfl, rfl⟩ := at_inj hc' hc e; exact h2
    · next e => rw [if_neg e] at hl; exact hi.inc u' c' hu' hc' hl
  · unfold upd
    split
    · next e => obtain ⟨e1, rfl⟩ := at_inj hc' hc e; have := hi.nxt c' i hc' hl; rw [e1] at this; omega
    · exact hi.nxt c' i hc' hl
  · unfold dropTo at hd
    split at hd
    · exact hi.drp d hd
    · next hw =>
      rcases List.mem_append.1 hd with hd | hd
      · exact hi.drp d hd
      · rw [List.mem_singleton] at hd; subst hd
        exact ⟨hu, hc, by simpa using hw, h0, h1, hr, h2⟩

theorem Dyn.setR {ρ : Rho} {w : World} {n W K Lb Cb B G : Nat} {gs gp : Value} {gR : Nat} {vh vd : Value} {E : List (Nat × Nat)} {f : Nat → Int} {D : List Drp} (h : Dyn ρ w n W K Lb Cb B G gs gp gR vh vd E f D) (j : Nat) (x : Int) :
    Dyn ρ (w.setCell ⟨gR, j, none⟩ (.int .i32 x)) n W K Lb Cb B G gs gp gR vh vd E (upd f j x) D ∧ Stp (fun q => q = .reach) ρ w ρ (w.setCell ⟨gR, j, none⟩ (.int .i32 x)) := by
  have s := Row.store h.rch j (.int .i32 x)
  exact ⟨⟨h.clo.keep s (by decide), h.gr.keep s (by decide) (by decide) (by simp) (by decide) (by simp), h.rch.set j x, h.drp.keep s (by decide), h.hks.keep s (by decide) (by simp)⟩, s⟩

set_option maxHeartbeats 4000000 in
set_option maxRecDepth 100000 in
theorem lower_any (C Lb : Nat) (O : List OpR) (Q : List Nat) (P : Nat → List Nat) (F : List (List Nat)) (vo vp vf vs vk vpc vps vsr vrd vsw : Value) (Cb gof gat : Nat) (vW vR vL : Value) (co po : Nat → Nat) (B G : Nat) (gs gp : Value) (gR : Nat) (vh vd : Value) (E : List (Nat × Nat)) (f : Nat → Int) (D : List Drp) (ρ : Rho) (w : World) (hO : O.length ≤ 2000) (hQ : Q.length ≤ 3) (hD : D.length ≤ 90000000) (hs : Sta ρ w C Lb O Q P F vo vp vf vs vk vpc vps vsr vrd vsw Cb gof gat vW vR vL co po) (hd : Dyn ρ w O.length Q.length (kk O) Lb Cb B G gs gp gR vh vd E f D) (u c : Nat) (x : Int) (hu : u < O.length) (hc : c < Q.length) :
    Calls Yba.prog 51 #[.pointer (some ⟨B, 0, none⟩), .int .i64 u, .int .i64 c, .int .i32 x] w fun e w' => if f (u * Q.length + c) ≤ x then e = .returned (.bool false) ∧ w' = w else e = .returned (.bool true) ∧ LowP C Lb O Q P F vo vp vf vs vk vpc vps vsr vrd vsw Cb gof gat vW vR vL co po B G gs gp gR vh vd E f D u c x ρ w w' := by
  have c1 := hd.clo.cell 1 rfl
  have c3 := hd.clo.cell 3 rfl
  obtain ⟨aP, cP, hvp, _, _⟩ := (hs.base.chk.prc.ex).choose_spec.2.1.form
  rw [List.length_map] at hvp
  have k2 : w.cell? ⟨Cb, 2, none⟩ = some (.slice aP Q.length cP) := by rw [← hvp]; exact hs.cst.cell 2 rfl
  have hat := at_lt (n := O.length) hu hc
  have hmul : u * Q.length ≤ 6000 := Nat.le_trans (Nat.mul_le_mul (show u ≤ 2000 by omega) hQ) (by decide)
  have r1 := hd.rch.cell hat
  obtain ⟨y, ey⟩ : ∃ y, y = f (u * Q.length + c) := ⟨_, rfl⟩
  obtain ⟨m, em⟩ : ∃ m, m = u * Q.length := ⟨_, rfl⟩
  have EY := hide ey
  have EM := hide em
  rw [← ey] at r1
  rw [← ey]
  rw [← em] at hmul hat r1
  have rf := Row.free hd.rch (m + c)
  have ix3 := fun wx => idx62 (b := gR) (c := O.length * Q.length) hat wx
  simp only [Int.natCast_add] at ix3
  have w1 : IntKind.i64.wrap ((u : Int) * (Q.length : Int)) = (m : Nat) := by
    have : (u : Int) * (Q.length : Int) = ((u * Q.length : Nat) : Int) := by simp
    rw [this, ← em]; simp [IntKind.wrap, IntKind.signed, IntKind.bits]; omega
  have HS := hide hs
  have HDY := hide hd
  clear ey em hvp hs hd
  by_cases hx : y ≤ x
  · have hx1 : decide (y ≤ x) = true := decide_eq_true hx
    simp only [if_pos hx]
    clear EY
    go_enter Yba.func51, Yba.ntmps51
    go_wp2
    go_ret
    exact ⟨rfl, rfl⟩
  · have hx1 : decide (y ≤ x) = false := decide_eq_false hx
    simp only [if_neg hx]
    go_enter Yba.func51, Yba.ntmps51
    go_upto_region 6 with fail
    have hd1 := HDY.out.setR (m + c) x
    have hs1 := HS.out.keep hd1.2 (fun r hr e => by subst e; exact RV.rt hr (by simp [RV]))
    obtain ⟨W1, e1⟩ : ∃ W1, W1 = w.setCell ⟨gR, m + c, none⟩ (.int .i32 x) := ⟨_, rfl⟩
    rw [← e1] at hd1 hs1 ⊢
    clear e1 c1 c3 k2 r1 rf ix3 w1
    have c0 := hd1.1.clo.cell 0 rfl
    have c5 := hd1.1.clo.cell 5 rfl
    have c9 := hd1.1.clo.cell 9 rfl
    have f9 := hd1.1.clo.free 9
    have l0 := hs1.base.st.cell 0 rfl
    obtain ⟨gO, cO, hvo, _, _, _⟩ := hs1.base.chk.ops.has (by omega)
    have q0 : W1.cell? ⟨C, 0, none⟩ = some (.slice (some ⟨gO, 0, none⟩) O.length cO) := by rw [← hvo]; exact hs1.base.chk.chk.cell 0 rfl
    have hor := hs1.base.chk.ops
    rw [hvo] at hor
    have hop := hor.op rfl hu
    obtain ⟨xo, hxo⟩ : ∃ xo, xo = (opAt O u) := ⟨_, rfl⟩
    rw [← hxo] at hop
    obtain ⟨p0, p1, p2, p3, p4, p5⟩ := hop
    have hidx := fun wx => idx47 (b := gO) (c := cO) hu wx
    have HX := hide hxo
    have HD1 := hide hd1
    have HS1 := hide hs1
    clear hvo hor hxo hd1 hs1 p0 p2 p3 p4 p5
    cases hrd : xo.rd with
    | true =>
      rw [hrd] at p1
      have hkd : kd true = ⟨#[114, 101, 97, 100]⟩ := rfl
      rw [hkd] at p1
      have HRD := hide hrd
      clear hrd hkd
      go_wp2
      go_ret
      refine ⟨rfl, ρ, vd, ?_, HS1.out, HD1.out.2.one (by simp [RW])⟩
      have h := HD1.out.1
      unfold dropTo
      rw [← HX.out, HRD.out, if_pos rfl, ← EM.out]
      exact h
    | false =>
      rw [hrd] at p1
      have hkd : kd false = ⟨#[119, 114, 105, 116, 101]⟩ := rfl
      rw [hkd] at p1
      have HRD := hide hrd
      clear hrd hkd
      go_wp2_with (at_builtin; refine wpl_app W1 _ rfl _ _ _ rfl .drops 106 _ 4 24 Yba.underlying67 info106 rfl (by omega) vd D.length (flatD D) rfl HD1.out.1.drp ((Below.refl _ W1).alloc (Nat.le_refl _) _) W1.heap.size #[.int .i64 u, .int .i64 c, .int .i32 y, .int .i32 x] (0, 0) (heap_alloc_new W1 _) rfl rfl (by simp [Value.oneCell']) (by omega) (by omega) ?_; intro g7 c7 w7 hr7 hs7; have hc7 := HD1.out.1.clo.keep hs7 (by decide); have k7 := hc7.cell 9 rfl; have f7 := hc7.free 9; have H7 := hide (And.intro hr7 (And.intro hs7 hc7)); clear hr7 hs7 hc7)
      go_ret
      obtain ⟨hr7, hs7, hc7⟩ := H7.out
      have hs8 := hc7.store 9 (.slice (some ⟨g7, 0, none⟩) (D.length + 1) c7)
      have hc8 := hc7.set 9 (.slice (some ⟨g7, 0, none⟩) (D.length + 1) c7)
      have hd := HD1.out.1
      refine ⟨rfl, ext ρ W1 .drops, .slice (some ⟨g7, 0, none⟩) (D.length + 1) c7, ?_, ((HS1.out.keep hs7 (fun r hr e => by subst e; exact RV.rt hr (by simp [RV]))).keep hs8 (fun r hr e => by subst e; exact RV.rt hr (by simp [RV]))), (HD1.out.2.one (by simp [RW])).trans ((hs7.one (by simp [RW])).trans (hs8.one (by simp [RW])))⟩
      unfold dropTo
      have ey2 : f (m + c) = y := by rw [EM.out]; exact EY.out.symm
      rw [← HX.out, HRD.out, if_neg (by simp), ← EM.out, ey2]
      refine ⟨hc8, (hd.gr.keep hs7 (by decide) (by decide) (by simp) (by decide) (by simp)).keep hs8 (by decide) (by decide) (by simp) (by decide) (by simp), (hd.rch.keep hs7 (by decide)).keep hs8 (by decide), ?_, (hd.hks.keep hs7 (by decide) (by simp)).keep hs8 (by decide) (by simp)⟩
      rw [flatD_app, List.length_append]
      exact hr7.keep hs8 (by decide)
end Go.Proofs.Ybulknju
