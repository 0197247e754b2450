import Derived.Test.YbulknjuClock
namespace Go.Proofs.Ybulknju
open Go.RowKit

theorem less_swap_max (z1 : Nat → Int) (n1 : Nat) (z2 : Nat → Int) (n2 : Nat) : less z2 n2 z1 n1 = lessTo z2 n2 z1 n1 (max n1 n2) := by unfold less; rw [Nat.max_comm]
theorem ent_out {z : Nat → Int} {n i : Nat} (h : ¬ i < n) : ent z n i = 0 := by simp [ent, h]

set_option maxHeartbeats 1000000 in
theorem le_any (a1 a2 : Option Addr) (n1 c1 n2 c2 : Nat) (z1 z2 : Nat → Int) (w : World) (h1 : n1 ≤ 1024) (h2 : n2 ≤ 1024) (r1 : RowU w a1 n1 z1) (r2 : RowU w a2 n2 z2) :
    Calls Yba.prog 11 #[.slice a1 n1 c1, .slice a2 n2 c2] w fun e w' => e = .returned (.bool (!less z2 n2 z1 n1)) ∧ w' = w := by
  rw [less_swap_max]
  obtain ⟨mx, hmx⟩ : ∃ mx, mx = max n1 n2 := ⟨_, rfl⟩
  rw [← hmx]
  have HM := hide hmx
  have R1 := hide r1
  have R2 := hide r2
  have hm : mx ≤ 1024 := by omega
  clear hmx r1 r2
  by_cases hle : n1 < n2
  · obtain rfl : mx = n2 := by have := HM.out; omega
    go_enter Yba.func11, Yba.ntmps11
    go_wp2
    go_loop [6, 7, 8] (fun i _ _ => ∃ k : Nat, k ≤ mx ∧ i = .int .i64 k ∧ lessTo z2 mx z1 n1 k = false) (fun i _ _ => mx - (intOf i).toNat)
    case atStart => exact ⟨0, by omega, rfl, rfl⟩
    case round =>
      obtain ⟨k, hk, rfl, hno⟩ := hrel
      have HNO := hide hno
      clear hno
      by_cases hlt : k < mx
      · have S2 : Hid (lessTo z2 mx z1 n1 (k + 1) = (lessTo z2 mx z1 n1 k || decide (ent z2 mx k < ent z1 n1 k))) := lessTo_succ z2 mx z1 n1 k
        have fin : ∀ b, decide (ent z2 mx k < ent z1 n1 k) = b → lessTo z2 mx z1 n1 (k + 1) = b := fun b hb => by rw [S2.out, HNO.out, hb, Bool.false_or]
        have bad : ent z2 mx k < ent z1 n1 k → lessTo z2 mx z1 n1 mx = true := fun h => lessTo_true.2 ⟨k, hlt, h⟩
        have FIN := hide fin
        have BAD := hide bad
        clear fin bad S2
        have hk2 : k < mx := hlt
        by_cases hk1 : k < n1
        · obtain ⟨b1, o1, ha1, d1, p1⟩ := R1.out k hk1
          have x1 := fun wx => idx33 (c := c1) ha1 hk1 wx
          have EN1 := hide (ent_in (z := z1) hk1)
          obtain ⟨b2, o2, ha2, d2, p2⟩ := R2.out k hk2
          have x2 := fun wx => idx33 (c := c2) ha2 hk2 wx
          have EN2 := hide (ent_in (z := z2) hk2)
          clear ha1 ha2
          by_cases hc : z2 k < z1 k
          · go_wp2
            go_ret
            exact ⟨congrArg (fun b => Ending.returned (.bool (!b))) (BAD.out (by rw [EN1.out, EN2.out]; exact hc)).symm, rfl⟩
          · go_wp2
            go_round
            case rel => exact ⟨k + 1, by omega, by go_num, FIN.out false (by rw [EN1.out, EN2.out]; simpa using hc)⟩
            case measure => simp [intOf]; omega
        · obtain ⟨b2, o2, ha2, d2, p2⟩ := R2.out k hk2
          have x2 := fun wx => idx33 (c := c2) ha2 hk2 wx
          have EN1 := hide (ent_out (z := z1) hk1)
          have EN2 := hide (ent_in (z := z2) hk2)
          clear ha2
          go_wp2
          go_round
          case rel => exact ⟨k + 1, by omega, by go_num, FIN.out false (by rw [EN1.out, EN2.out]; simp; omega)⟩
          case measure => simp [intOf]; omega
      · obtain rfl : k = mx := by omega
        go_wp2
        go_ret
        exact ⟨congrArg (fun b => Ending.returned (.bool (!b))) HNO.out.symm, rfl⟩
  · obtain rfl : mx = n1 := by have := HM.out; omega
    go_enter Yba.func11, Yba.ntmps11
    go_wp2
    go_loop [6, 7, 8] (fun i _ _ => ∃ k : Nat, k ≤ mx ∧ i = .int .i64 k ∧ lessTo z2 n2 z1 mx k = false) (fun i _ _ => mx - (intOf i).toNat)
    case atStart => exact ⟨0, by omega, rfl, rfl⟩
    case round =>
      obtain ⟨k, hk, rfl, hno⟩ := hrel
      have HNO := hide hno
      clear hno
      by_cases hlt : k < mx
      · have S2 : Hid (lessTo z2 n2 z1 mx (k + 1) = (lessTo z2 n2 z1 mx k || decide (ent z2 n2 k < ent z1 mx k))) := lessTo_succ z2 n2 z1 mx k
        have fin : ∀ b, decide (ent z2 n2 k < ent z1 mx k) = b → lessTo z2 n2 z1 mx (k + 1) = b := fun b hb => by rw [S2.out, HNO.out, hb, Bool.false_or]
        have bad : ent z2 n2 k < ent z1 mx k → lessTo z2 n2 z1 mx mx = true := fun h => lessTo_true.2 ⟨k, hlt, h⟩
        have FIN := hide fin
        have BAD := hide bad
        clear fin bad S2
        have hk1 : k < mx := hlt
        obtain ⟨b1, o1, ha1, d1, p1⟩ := R1.out k hk1
        have x1 := fun wx => idx33 (c := c1) ha1 hk1 wx
        have EN1 := hide (ent_in (z := z1) hk1)
        by_cases hk2 : k < n2
        · obtain ⟨b2, o2, ha2, d2, p2⟩ := R2.out k hk2
          have x2 := fun wx => idx33 (c := c2) ha2 hk2 wx
          have EN2 := hide (ent_in (z := z2) hk2)
          clear ha1 ha2
          by_cases hc : z2 k < z1 k
          · go_wp2
            go_ret
            exact ⟨congrArg (fun b => Ending.returned (.bool (!b))) (BAD.out (by rw [EN1.out, EN2.out]; exact hc)).symm, rfl⟩
          · go_wp2
            go_round
            case rel => exact ⟨k + 1, by omega, by go_num, FIN.out false (by rw [EN1.out, EN2.out]; simpa using hc)⟩
            case measure => simp [intOf]; omega
        · have EN2 := hide (ent_out (z := z2) hk2)
          clear ha1
          by_cases hc : 0 < z1 k
          · go_wp2
            go_ret
            exact ⟨congrArg (fun b => Ending.returned (.bool (!b))) (BAD.out (by rw [EN1.out, EN2.out]; exact hc)).symm, rfl⟩
          · go_wp2
            go_round
            case rel => exact ⟨k + 1, by omega, by go_num, FIN.out false (by rw [EN1.out, EN2.out]; simpa using hc)⟩
            case measure => simp [intOf]; omega
      · obtain rfl : k = mx := by omega
        go_wp2
        go_ret
        exact ⟨congrArg (fun b => Ending.returned (.bool (!b))) HNO.out.symm, rfl⟩
end Go.Proofs.Ybulknju
