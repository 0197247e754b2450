import Derived.Test.YbulknieDoorWalkB
import Derived.OpenShut
namespace Go.Proofs.YbulknieDoor
open Go.RowKit

theorem reduced (z m : Int) (h1 : 0 < m) (h2 : m ≤ 3652059) : ∃ n, wrap64 ((IntKind.u64.wrap z).tmod m) = n ∧ 0 ≤ n ∧ n ≤ m - 1 := by
  refine ⟨_, rfl, ?_⟩
  have h : 0 ≤ IntKind.u64.wrap z := (bounds_u64 (wf_wrap .u64 z)).1
  have h3 : 0 ≤ (IntKind.u64.wrap z).tmod m := Int.tmod_nonneg _ h
  have h4 : (IntKind.u64.wrap z).tmod m < m := Int.tmod_lt_of_pos _ h1
  unfold wrap64
  omega

set_option maxHeartbeats 1000000 in
theorem dayNumber_any (x : Int) (w : World) (hD : Tab w) :
    Calls Ybad.prog 3 #[.int .u64 x] w fun e w' => e = .returned (.bool true) ∧ ∃ k, w' = w.drewN k := by
  have HD : Hid (Tab w) := hD
  clear hD
  obtain ⟨n, hn, hn0, hn1⟩ := reduced (x * 104730) 3652059 (by omega) (by omega)
  go_enter Ybad.func3, Ybad.ntmps3
  go_wp2_with fail
  refine (civil_any n _ hn0 (by omega) HD.out).mono ?_
  rintro e w' ⟨y, m, d, rfl, hg, k, rfl⟩
  have hy1 := hg.y1
  have hy2 := hg.y2
  have hm1 := hg.m1
  have hm2 := hg.m2
  have hd1 := hg.d1
  have hd2 := hg.d2
  have hnum : Hid (Cal.num y m d = n) := hg.num
  obtain ⟨db1, db2⟩ := Cal.dim_bounds y m
  obtain ⟨bb1, bb2⟩ := Cal.bef_bounds y m hm1 hm2
  clear hg
  go_wp2_with fail
  refine (dim_any y m _ (by omega) (by omega)).mono ?_
  rintro e w' ⟨rfl, rfl⟩
  go_wp2_with fail
  refine (before_any y m _ (by omega) (by omega) (by omega) (by omega)).mono ?_
  rintro e w' ⟨rfl, rfl⟩
  go_wp2
  go_ret
  exact ⟨congrArg (fun b => Ending.returned (.bool b)) (beq_iff_eq.2 hnum.out : (Cal.num y m d == n) = true), k, rfl⟩

set_option maxHeartbeats 1000000 in
theorem next_any (x : Int) (w : World) (hD : Tab w) :
    Calls Ybad.prog 4 #[.int .u64 x] w fun e w' => e = .returned (.bool true) ∧ ∃ k, w' = w.drewN k := by
  have HD : Hid (Tab w) := hD
  clear hD
  obtain ⟨n, hn, hn0, hn1⟩ := reduced (x * 2654435761) 3652058 (by omega) (by omega)
  go_enter Ybad.func4, Ybad.ntmps4
  go_wp2_with fail
  refine (civil_any n _ hn0 (by omega) HD.out).mono ?_
  rintro e w' ⟨y, m, d, rfl, hg, k, rfl⟩
  have hy1 := hg.y1
  have hy2 := hg.y2
  have hm1 := hg.m1
  have hm2 := hg.m2
  have hd1 := hg.d1
  have hd2 := hg.d2
  have HG : Hid (Cal.Good n y m d) := hg
  obtain ⟨db1, db2⟩ := Cal.dim_bounds y m
  clear hg
  go_wp2_with fail
  refine (civil_any (n + 1) _ (by omega) (by omega) (fun j hj => ?_)).mono ?_
  · simpa using HD.out j hj
  rintro e w' ⟨y2, m2, d2, rfl, hg2, k2, rfl⟩
  by_cases hc : d + 1 ≤ Cal.dim y m
  · obtain ⟨rfl, rfl, rfl⟩ := Cal.unique hg2 (Cal.next_same HG.out hc)
    clear hg2
    go_wp2_with (go_at_call 6; refine (dim_any _ _ _ (by omega) (by omega)).mono ?_; rintro e w' ⟨rfl, rfl⟩)
    go_ret
    exact ⟨rfl, k + k2, rfl⟩
  · by_cases h12 : m < 12
    · obtain ⟨rfl, rfl, rfl⟩ := Cal.unique hg2 (Cal.next_month HG.out (by omega) h12)
      clear hg2
      go_wp2_with (go_at_call 6; refine (dim_any _ _ _ (by omega) (by omega)).mono ?_; rintro e w' ⟨rfl, rfl⟩)
      go_ret
      exact ⟨rfl, k + k2, rfl⟩
    · obtain ⟨rfl, rfl, rfl⟩ := Cal.unique hg2 (Cal.next_year HG.out (by omega) h12 (by omega))
      clear hg2
      go_wp2_with (go_at_call 6; refine (dim_any _ _ _ (by omega) (by omega)).mono ?_; rintro e w' ⟨rfl, rfl⟩)
      go_ret
      exact ⟨rfl, k + k2, rfl⟩
end Go.Proofs.YbulknieDoor
