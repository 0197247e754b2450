import Derived.Test.YbulknieDoorWalkA
namespace Go.Proofs.YbulknieDoor
open Go.RowKit

set_option maxHeartbeats 400000 in
theorem dim_any (y m : Int) (w : World) (h1 : 1 ≤ y) (h2 : y ≤ 10000) :
    Calls Ybad.prog 6 #[.int .i64 y, .int .i64 m] w fun e w' => e = .returned (.int .i64 (Cal.dim y m)) ∧ w' = w := by
  by_cases hm : m = 2
  · subst hm
    cases hl : Cal.leapB y
    all_goals
      go_enter Ybad.func6, Ybad.ntmps6
      go_wp2_with (go_at_call 9; refine (leap_any _ _ (by omega) (by omega)).mono ?_; rintro e w' ⟨rfl, hw⟩; replace hw := hw.symm; subst hw)
      go_ret
      first
        | exact ⟨by rw [Cal.dim_common hl]; rfl, rfl⟩
        | exact ⟨by rw [Cal.dim_leap hl]; rfl, rfl⟩
  · by_cases hm' : m = 4 ∨ m = 6 ∨ m = 9 ∨ m = 11
    · have e : Cal.dim y m = 30 := by simp [Cal.dim, hm, hm']
      rw [e]
      clear e hm
      rcases hm' with rfl | rfl | rfl | rfl
      all_goals
        go_enter Ybad.func6, Ybad.ntmps6
        go_wp2
        go_ret
        exact ⟨rfl, rfl⟩
    · have e : Cal.dim y m = 31 := by simp [Cal.dim, hm, hm']
      rw [e]
      clear e
      have b1 : (m == 2) = false := by simp [hm]
      have b2 : (m == 4) = false := by simp; omega
      have b3 : (m == 6) = false := by simp; omega
      have b4 : (m == 9) = false := by simp; omega
      have b5 : (m == 11) = false := by simp; omega
      clear hm hm'
      go_enter Ybad.func6, Ybad.ntmps6
      go_wp2
      go_ret
      exact ⟨rfl, rfl⟩

set_option maxHeartbeats 400000 in
theorem before_any (y m : Int) (w : World) (h1 : 1 ≤ y) (h2 : y ≤ 9999) (h3 : 1 ≤ m) (h4 : m ≤ 12) :
    Calls Ybad.prog 7 #[.int .i64 y, .int .i64 m] w fun e w' => e = .returned (.int .i64 (Cal.bef y m)) ∧ w' = w := by
  go_enter Ybad.func7, Ybad.ntmps7
  go_wp2
  go_loop [5, 6] (fun s t => ∃ k : Int, 1 ≤ k ∧ k ≤ m ∧ t = .int .i64 k ∧ s = .int .i64 (Cal.bef y k)) (fun _ t => (m - intOf t).toNat)
  case atStart => exact ⟨1, by omega, by omega, rfl, by rw [Cal.bef_one]⟩
  case round =>
    obtain ⟨k, hk1, hk2, rfl, rfl⟩ := hrel
    have bb := Cal.bef_bounds y k hk1 (by omega)
    have db := Cal.dim_bounds y k
    obtain ⟨bb1, bb2⟩ := bb
    obtain ⟨db1, db2⟩ := db
    by_cases hlt : k < m
    · have HS : Hid (Cal.bef y (k + 1) = Cal.bef y k + Cal.dim y k) := Cal.bef_succ y k hk1 (by omega)
      go_wp2_with (go_at_call 6; refine (dim_any _ _ _ (by omega) (by omega)).mono ?_; rintro e w' ⟨rfl, hw⟩; replace hw := hw.symm; subst hw)
      go_round
      case rel => exact ⟨k + 1, by omega, by omega, rfl, by rw [HS.out]⟩
      case measure => simp [intOf]; omega
    · obtain rfl : k = m := by omega
      go_wp2
      go_ret
      exact ⟨rfl, rfl⟩
end Go.Proofs.YbulknieDoor
