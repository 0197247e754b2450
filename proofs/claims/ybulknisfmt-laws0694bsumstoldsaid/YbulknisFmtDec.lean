import Derived.Test.YbulknisFmtLot
namespace Go.Proofs.YbulknisFmt
open Go.RowKit

def nameOf (m : Int) : Fin 4 := if m % 4 = 0 then 1 else if m % 4 = 1 then 2 else if m % 4 = 2 then 3 else 0
def fundOf (m : Int) : Fin 3 := if m % 3 = 0 then 0 else if m % 3 = 1 then 1 else 2
set_option maxHeartbeats 400000 in
theorem bname_any (m : Int) (w : World) (h0 : 0 ≤ m) : Calls Ybaf.prog 12 #[.int .u8 m] w fun e w' => e = .returned (.string (nm (nameOf m))) ∧ w' = w := by
  have ht : m.tmod 4 = m % 4 := Int.tmod_eq_emod_of_nonneg h0
  have hlo : 0 ≤ m % 4 := Int.emod_nonneg _ (by omega)
  have hhi : m % 4 < 4 := Int.emod_lt_of_pos _ (by omega)
  rcases (show m % 4 = 0 ∨ m % 4 = 1 ∨ m % 4 = 2 ∨ m % 4 = 3 by omega) with h | h | h | h
  all_goals
    rw [h] at ht
    have hn : ∃ v, v = nm (nameOf m) := ⟨_, rfl⟩
    obtain ⟨v, hv⟩ := hn
    rw [← hv]
    simp [nameOf, h] at hv
    have HV := hide hv
    clear hv hlo hhi h
    go_enter Ybaf.func12, Ybaf.ntmps12
    go_wp2
    go_ret
    exact ⟨by rw [HV.out]; rfl, rfl⟩
set_option maxHeartbeats 400000 in
theorem bfund_any (m : Int) (w : World) (h0 : 0 ≤ m) : Calls Ybaf.prog 11 #[.int .u8 m] w fun e w' => e = .returned (.string (fdn (fundOf m))) ∧ w' = w := by
  have ht : m.tmod 3 = m % 3 := Int.tmod_eq_emod_of_nonneg h0
  have hlo : 0 ≤ m % 3 := Int.emod_nonneg _ (by omega)
  have hhi : m % 3 < 3 := Int.emod_lt_of_pos _ (by omega)
  rcases (show m % 3 = 0 ∨ m % 3 = 1 ∨ m % 3 = 2 by omega) with h | h | h
  all_goals
    rw [h] at ht
    have hn : ∃ v, v = fdn (fundOf m) := ⟨_, rfl⟩
    obtain ⟨v, hv⟩ := hn
    rw [← hv]
    simp [fundOf, h] at hv
    have HV := hide hv
    clear hv hlo hhi h
    go_enter Ybaf.func11, Ybaf.ntmps11
    go_wp2
    go_ret
    exact ⟨by rw [HV.out]; rfl, rfl⟩

set_option maxHeartbeats 400000 in
theorem checkScale_two (w : World) : Calls Ybaf.prog 27 #[.int .i64 2] w fun e w' => e = .returned (.tuple #[]) ∧ w' = w := by
  go_enter Ybaf.func27, Ybaf.ntmps27
  go_wp2
  go_end0
  exact ⟨rfl, rfl⟩
/-- A decimal of two places. -/
def dec (c : Int) : Value := .agg #[.int .i64 c, .int .i32 2]
set_option maxHeartbeats 400000 in
theorem new_any (c : Int) (w : World) : Calls Ybaf.prog 13 #[.int .i64 c, .int .i64 2] w fun e w' => e = .returned (dec c) ∧ Lays w w' := by
  go_enter Ybaf.func13, Ybaf.ntmps13
  go_wp2_with (go_at_call 27; refine (checkScale_two _).mono ?_; rintro e w' ⟨rfl, rfl⟩)
  try simp only [Exit.inBlock, Exit.then]
  refine bodyPost_ret (results_cell_row rfl _ _ w.heap.size 45 _ _ _ rfl (heap_alloc_new w _) Ybaf.underlying45 rfl (by kernel_rfl)) rfl ?_
  exact ⟨rfl, (Lays.refl w).alloc _⟩
set_option maxHeartbeats 400000 in
theorem sign_any (c s : Int) (w : World) : Calls Ybaf.prog 20 #[.agg #[.int .i64 c, .int .i32 s]] w fun e w' => e = .returned (.int .i64 (cI c 0)) ∧ Lays w w' := by
  have hcs := cI_cases c 0
  generalize cI c 0 = r at *
  rcases hcs with ⟨h, rfl⟩ | ⟨h, rfl⟩ | ⟨h, rfl⟩
  all_goals
    go_enter Ybaf.func20, Ybaf.ntmps20
    go_wp2
    go_ret
    exact ⟨rfl, (Lays.refl w).alloc _⟩
set_option maxHeartbeats 1000000 in
theorem cmp_any (a b : Int) (w : World) : Calls Ybaf.prog 21 #[dec a, dec b] w fun e w' => e = .returned (.int .i64 (cI a b)) ∧ Lays w w' := by
  unfold dec
  have hcs := cI_cases a b
  generalize cI a b = r at *
  rcases hcs with ⟨h, rfl⟩ | ⟨h, rfl⟩ | ⟨h, rfl⟩
  all_goals
    go_enter Ybaf.func21, Ybaf.ntmps21
    go_wp2
    go_quiet (fail)
    go_wp2
    go_ret
    exact ⟨rfl, (((Lays.refl w).alloc _).alloc _).drewN _⟩
set_option maxHeartbeats 1000000 in
theorem align_any (a b : Int) (w : World) : Calls Ybaf.prog 34 #[dec a, dec b] w fun e w' => e = .returned (.tuple #[.int .i64 a, .int .i64 b, .int .i32 2]) ∧ Lays w w' := by
  unfold dec
  go_enter Ybaf.func34, Ybaf.ntmps34
  go_wp2
  go_quiet (fail)
  go_wp2
  go_ret3
  exact ⟨rfl, (((Lays.refl w).alloc _).alloc _).drewN _⟩
end Go.Proofs.YbulknisFmt
