import Derived.Test.YbulknjuTopW
import Derived.Test.YbulknjuDrN
namespace Go.Proofs.Ybulknju
open Go.RowKit

set_option maxHeartbeats 2000000 in
theorem stretch_any (n p : Nat) (hn : n ≤ 2000) (hp : p ≤ 3) (w : World) : Calls Yba.prog 22 #[.int .i64 n, .int .i64 p] w fun e w' => ∃ s : Int, e = .returned (.int .i64 s) ∧ (n : Int) < 2 * s ∧ s ≤ 1000000 ∧ w' = w := by
  have hpc : p = 0 ∨ p = 1 ∨ p = 2 ∨ p = 3 := by omega
  rcases hpc with rfl | rfl | rfl | rfl
  all_goals
    go_enter Yba.func22, Yba.ntmps22
    go_wp2
    all_goals
      go_ret
      refine ⟨_, rfl, ?_, ?_, rfl⟩ <;> omega

set_option maxHeartbeats 4000000 in
theorem crowded_any (C Lb : Nat) (O : List OpR) (Q : List Nat) (P : Nat → List Nat) (F : List (List Nat)) (vo vp vf vs vk vpc vps vsr vrd vsw : Value) (ρ : Rho) (w : World) (hO : O.length ≤ 2000) (hQ : Q.length ≤ 3) (h : Base ρ w C Lb O Q P F vo vp vf vs vk vpc vps vsr vrd vsw) : Calls Yba.prog 16 #[.pointer (some ⟨Lb, 0, none⟩)] w fun e w' => e = .returned (.bool false) ∧ w' = w := by
  obtain ⟨ao, cao, hvo, _, _⟩ := h.chk.ops.form
  obtain ⟨vl, hvl, hvr, hvn⟩ := h.chk.prc.ex
  obtain ⟨aP, cP, hvp, _, _⟩ := hvr.form
  rw [List.length_map] at hvp
  have l0 := h.st.cell 0 rfl
  have q0 : w.cell? ⟨C, 0, none⟩ = some (.slice ao O.length cao) := by rw [← hvo]; exact h.chk.chk.cell 0 rfl
  have q1 : w.cell? ⟨C, 1, none⟩ = some (.slice aP Q.length cP) := by rw [← hvp]; exact h.chk.chk.cell 1 rfl
  have SA := hide (stretch_any O.length Q.length hO hQ w)
  clear h hvl hvr hvn hvo hvp
  go_enter Yba.func16, Yba.ntmps16
  go_wp2_with (go_at_call 22; refine SA.out.mono ?_; rintro e w1 ⟨s, rfl, hs1, hs2, hw1⟩; subst hw1)
  go_ret
  exact ⟨rfl, rfl⟩
end Go.Proofs.Ybulknju
