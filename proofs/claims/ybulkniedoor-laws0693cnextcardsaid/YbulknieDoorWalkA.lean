import Derived.Test.YbulknieDoorRows
import Derived.Test.YbulknieDoorCal
import Derived.WalkKit
import Derived.WalkSpells
import Derived.WalkLawsBesides
import Derived.Deep.QuietTactic
import Derived.BigQuiet
import Derived.Deep.DeepCutAuto
namespace Go.Proofs.YbulknieDoor
open Go.RowKit

set_option maxHeartbeats 400000 in
theorem isLeap_any (y : Int) (w : World) (h1 : 1 ≤ y) (h2 : y ≤ 10000) :
    Calls Ybad.prog 8 #[.int .i64 y] w fun e w' => e = .returned (.bool (Cal.leapB y)) ∧ w' = w := by
  go_enter Ybad.func8, Ybad.ntmps8
  go_wp2
  all_goals
    go_ret
    exact ⟨by simp [Cal.leapB, *], rfl⟩

set_option maxHeartbeats 400000 in
theorem leap_any (y : Int) (w : World) (h1 : 1 ≤ y) (h2 : y ≤ 10000) :
    Calls Ybad.prog 9 #[.int .i64 y] w fun e w' => e = .returned (.bool (Cal.leapB y)) ∧ w' = w := by
  go_enter Ybad.func9, Ybad.ntmps9
  go_wp2
  all_goals
    go_ret
    exact ⟨by simp [Cal.leapB, *], rfl⟩

/-- What the walks ask of the table 'daysBeforeMonth': its twelve cells. -/
def Tab (w : World) : Prop := ∀ k : Nat, k < 12 → w.cell? ⟨0, k, none⟩ = some (.int .i64 (Cal.D k))

set_option maxHeartbeats 400000 in
theorem civil_any (n : Int) (w : World) (h0 : 0 ≤ n) (h1 : n ≤ 3652058) (hD : Tab w) :
    Calls Ybad.prog 5 #[.int .i64 n] w fun e w' => ∃ y m d, e = .returned (.tuple #[.int .i64 y, .int .i64 m, .int .i64 d]) ∧ Cal.Good n y m d ∧ ∃ k, w' = w.drewN k := by
  obtain ⟨Y, r, hYR, hcase⟩ := Cal.decomp n h0 h1
  have HYR : Hid (Cal.YR n Y r) := hYR
  have by1 := hYR.y1
  have by2 := hYR.y2
  have br1 := hYR.r1
  have h59 : w.cell? ⟨0, 2, none⟩ = some (.int .i64 59) := hD 2 (by omega)
  have HD : Hid (Tab w) := hD
  clear hYR hD
  cases hl : Cal.leapB Y
  all_goals
    rcases hcase with ⟨c, e1, e2, b1, b2, eY, rfl⟩ | ⟨c, r0, ce, q, e1, e2, e3, e4, e5, b1, b2, b3, b4, b5, b6, b7, b8, eY, rfl⟩ | ⟨c, r0, ce, q, r2, ys, e1, e2, e3, e4, e5, e6, b1, b2, b3, b4, b5, b6, b7, b8, b9, b10, b11, b12, eY, eR⟩
    all_goals
      have eY' := eY.symm
      try have eR' := eR.symm
      clear eY
      try clear eR
      go_enter Ybad.func5, Ybad.ntmps5
      go_upto_if 44 with (go_at_call 8; refine (isLeap_any _ _ (by omega) (by omega)).mono ?_; rintro e w' ⟨rfl, hw⟩; replace hw := hw.symm; subst hw)
      go_cut [0, 2] (fun v v2 wc => ∃ R, v = .int .i64 R ∧ Cal.Pushed Y _ R ∧ v2 = .int .i64 Y ∧ wc = w)
      case first =>
        go_wp2
        all_goals first
          | (go_meet; case rel => exact ⟨_, rfl, by first | exact Cal.pushed0 hl | exact Cal.pushed1 hl ‹_› ‹_› | exact Cal.pushed2 hl ‹_› | exact Cal.pushed2 (r := 365) hl (by omega), rfl, rfl⟩)
          | (go_ret3; have h9 : (r == 59) = true := by assumption
             obtain rfl : r = 59 := by simpa using h9
             exact ⟨Y, 2, 29, rfl, Cal.feb29 HYR.out (Cal.leapB_true hl), 0, rfl⟩)
      case rest =>
        obtain ⟨R, rfl, hP, rfl, rfl⟩ := hcut
        have hb := Cal.pushed_bounds HYR.out hP
        obtain ⟨hb1, hb2⟩ := hb
        have HP : Hid (Cal.Pushed Y _ R) := hP
        clear hP
        go_wp2
        go_loop [3] (fun t => ∃ k : Nat, 1 ≤ k ∧ k ≤ 12 ∧ t = .int .i64 k ∧ (k = 12 ∨ R < Cal.D k)) (fun t => (intOf t).toNat)
        case atStart => exact ⟨12, by omega, by omega, rfl, .inl rfl⟩
        case round =>
          obtain ⟨k, hk1, hk2, rfl, hkD⟩ := hrel
          have HK : Hid (k = 12 ∨ R < Cal.D k) := hkD
          clear hkD
          obtain ⟨j, rfl⟩ : ∃ j, k = j + 1 := ⟨k - 1, by omega⟩
          have hcell := HD.out j (by omega)
          obtain ⟨hd1, hd2⟩ := Cal.D_bounds j (by omega)
          go_wp2
          · have hlt : R < Cal.D j := by assumption
            exact ⟨⟨j, Cal.pos_of_lt hb1 hlt, by omega, rfl, .inr hlt⟩, by simp [intOf]⟩
          · have hge : Cal.D j ≤ R := by assumption
            go_quiet (fail)
            go_wp2
            go_ret3
            exact ⟨Y, _, _, rfl, Cal.tail_good HYR.out HP.out (j + 1) (by omega) (by omega) (by simpa using hge) HK.out, _, rfl⟩
end Go.Proofs.YbulknieDoor
