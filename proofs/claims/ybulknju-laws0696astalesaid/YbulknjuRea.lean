import Derived.Test.YbulknjuCol
namespace Go.Proofs.Ybulknju
open Go.RowKit

theorem col_len {Q : List Nat} {P : Nat → List Nat} : (Q.map P).length = Q.length := List.length_map ..

set_option maxHeartbeats 2000000 in
set_option maxRecDepth 100000 in
theorem reaches_any (C Lb : Nat) (O : List OpR) (Q : List Nat) (P : Nat → List Nat) (F : List (List Nat)) (vo vp vf vs vk vpc vps vsr vrd vsw : Value) (Cb gof gat : Nat) (vW vR vL : Value) (co po : Nat → Nat) (B G : Nat) (gs gp : Value) (gR : Nat) (vh vd : Value) (E : List (Nat × Nat)) (f : Nat → Int) (D : List Drp) (ρ : Rho) (w : World) (hO : O.length ≤ 2000) (hQ : Q.length ≤ 3) (hco : Col O.length (Q.map P) co po) (hs : Sta ρ w C Lb O Q P F vo vp vf vs vk vpc vps vsr vrd vsw Cb gof gat vW vR vL co po) (hd : Dyn ρ w O.length Q.length (kk O) Lb Cb B G gs gp gR vh vd E f D) (hi : Inv O (Q.map P) E f D) (u v : Nat) (hu : u < O.length) (hv : v < O.length) :
    Calls Yba.prog 31 #[.pointer (some ⟨B, 0, none⟩), .int .i64 u, .int .i64 v] w fun e w' => e = .returned (.bool (decide (f (u * Q.length + co v) ≤ (po v : Nat)))) ∧ ∃ q, w' = w.drewN q := by
  obtain ⟨h1, h2, h3⟩ := hco.fwd v hv
  rw [col_len] at h1
  obtain ⟨g1, g2⟩ := hi.rng u (co v) hu (by rw [col_len]; exact h1)
  rw [col_len] at g1 g2
  have g3 := hco.small (co v) (by rw [col_len]; exact h1)
  have c1 := hd.clo.cell 1 rfl
  have c3 := hd.clo.cell 3 rfl
  have k0 := hs.cst.cell 0 rfl
  have k1 := hs.cst.cell 1 rfl
  obtain ⟨aP, cP, hvp, _, _⟩ := (hs.base.chk.prc.ex).choose_spec.2.1.form
  rw [List.length_map] at hvp
  have k2 : w.cell? ⟨Cb, 2, none⟩ = some (.slice aP Q.length cP) := by rw [← hvp]; exact hs.cst.cell 2 rfl
  have o1 := hs.of.cell hv
  have o2 := hs.pos.cell hv
  have hat := at_lt (n := O.length) hu h1
  have hmul : u * Q.length ≤ 6000 := Nat.le_trans (Nat.mul_le_mul (show u ≤ 2000 by omega) hQ) (by decide)
  have r1 := hd.rch.cell hat
  obtain ⟨x, ex⟩ : ∃ x, x = f (u * Q.length + co v) := ⟨_, rfl⟩
  obtain ⟨m, em⟩ : ∃ m, m = u * Q.length := ⟨_, rfl⟩
  obtain ⟨cv, ecv⟩ : ∃ cv, cv = co v := ⟨_, rfl⟩
  obtain ⟨pv, epv⟩ : ∃ pv, pv = po v := ⟨_, rfl⟩
  rw [← ex] at r1 g1 g2
  rw [← ex, ← epv]
  rw [← em] at hmul hat r1
  rw [← ecv] at hat r1 o1 h1 g2 g3
  rw [← epv] at o2
  have ix1 := fun wx => idx38 (b := gof) (c := O.length) hv wx
  have ix2 := fun wx => idx38 (b := gat) (c := O.length) hv wx
  have ix3 := fun wx => idx62 (b := gR) (c := O.length * Q.length) hat wx
  simp only [Int.natCast_add] at ix3
  have w1 : IntKind.i64.wrap ((u : Int) * (Q.length : Int)) = (m : Nat) := by
    have : (u : Int) * (Q.length : Int) = ((u * Q.length : Nat) : Int) := by simp
    rw [this, ← em]; simp [IntKind.wrap, IntKind.signed, IntKind.bits]; omega
  have HX := hide ex
  clear ex em ecv epv h2 h3 hco hs hd hi hvp
  go_enter Yba.func31, Yba.ntmps31
  go_upto_region 1 with fail
  go_quiet (fail)
  go_wp2
  go_ret
  exact ⟨rfl, _, rfl⟩

/-- Whether u reaches v. -/
def rch (f : Nat → Int) (W : Nat) (co po : Nat → Nat) (u v : Nat) : Bool := decide (f (u * W + co v) ≤ (po v : Nat))

set_option maxHeartbeats 2000000 in
set_option maxRecDepth 100000 in
theorem before_any (C Lb : Nat) (O : List OpR) (Q : List Nat) (P : Nat → List Nat) (F : List (List Nat)) (vo vp vf vs vk vpc vps vsr vrd vsw : Value) (Cb gof gat : Nat) (vW vR vL : Value) (co po : Nat → Nat) (B G : Nat) (gs gp : Value) (gR : Nat) (vh vd : Value) (E : List (Nat × Nat)) (f : Nat → Int) (D : List Drp) (ρ : Rho) (w : World) (hO : O.length ≤ 2000) (hQ : Q.length ≤ 3) (hco : Col O.length (Q.map P) co po) (hs : Sta ρ w C Lb O Q P F vo vp vf vs vk vpc vps vsr vrd vsw Cb gof gat vW vR vL co po) (hd : Dyn ρ w O.length Q.length (kk O) Lb Cb B G gs gp gR vh vd E f D) (hi : Inv O (Q.map P) E f D) (u v : Nat) (hu : u < O.length) (hv : v < O.length) :
    Calls Yba.prog 50 #[.pointer (some ⟨B, 0, none⟩), .int .i64 u, .int .i64 v] w fun e w' => e = .returned (.bool (rch f Q.length co po u v)) ∧ ∃ q, w' = w.drewN q := by
  have RA := hide (reaches_any C Lb O Q P F vo vp vf vs vk vpc vps vsr vrd vsw Cb gof gat vW vR vL co po B G gs gp gR vh vd E f D ρ w hO hQ hco hs hd hi u v hu hv)
  have c1 := hd.clo.cell 1 rfl
  have k0 := hs.cst.cell 0 rfl
  have o1 := hs.of.cell hv
  obtain ⟨cv, ecv⟩ : ∃ cv, cv = co v := ⟨_, rfl⟩
  rw [← ecv] at o1
  have ix1 := fun wx => idx38 (b := gof) (c := O.length) hv wx
  have h0 : decide ((0 : Int) ≤ (cv : Nat)) = true := by simp
  unfold rch
  obtain ⟨bb, ebb⟩ : ∃ bb, bb = decide (f (u * Q.length + co v) ≤ (po v : Nat)) := ⟨_, rfl⟩
  rw [← ebb] at RA ⊢
  clear hs hd hi hco ecv ebb
  go_enter Yba.func50, Yba.ntmps50
  go_wp2_with (go_at_call 31; refine RA.out.mono ?_; rintro e w1 ⟨rfl, q, rfl⟩)
  go_ret
  exact ⟨rfl, _, rfl⟩
end Go.Proofs.Ybulknju
