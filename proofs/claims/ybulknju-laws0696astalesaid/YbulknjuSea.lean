import Derived.Test.YbulknjuLkB
namespace Go.Proofs.Ybulknju
open Go.RowKit

set_option maxHeartbeats 4000000 in
set_option maxRecDepth 100000 in
/-- sort.Search, of whatever condition. -/
theorem search_any (g : Nat) (cb : Array Value) (n : Nat) (p : Nat → Bool) (w : World) (eg : ∀ args w, (callFunc g args).run Yba.prog w = .ok (.enter g args) w) (hn : n ≤ 100000)
    (hf : ∀ q i, i < n → Calls Yba.prog g (#[.int .i64 i] ++ cb) (w.drewN q) fun e w' => e = .returned (.bool (p i)) ∧ ∃ q', w' = (w.drewN q).drewN q') :
    Calls Yba.prog 29 #[.int .i64 n, .func (.func g) #[] cb] w fun e w' => ∃ r : Nat, e = .returned (.int .i64 r) ∧ r ≤ n ∧ (r < n → p r = true) ∧ (0 < r → p (r - 1) = false) ∧ ∃ q, w' = w.drewN q := by
  have HF := hide hf
  clear hf
  go_enter Yba.func29, Yba.ntmps29
  go_wp2
  go_loopw [5, 6, 7] (fun s5 s6 _ wr => ∃ (lo hi q : Nat), s5 = .int .i64 lo ∧ s6 = .int .i64 hi ∧ lo ≤ hi ∧ hi ≤ n ∧ wr = w.drewN q ∧ Hid ((hi < n → p hi = true) ∧ (0 < lo → p (lo - 1) = false))) (fun s5 s6 _ _ => (intOf s6).toNat - (intOf s5).toNat)
  case atStart => exact ⟨0, n, 0, rfl, rfl, Nat.zero_le _, Nat.le_refl _, rfl, fun h => absurd h (Nat.lt_irrefl _), fun h => absurd h (Nat.lt_irrefl _)⟩
  case round =>
    obtain ⟨lo, hi, q, rfl, rfl, hlh, hin, rfl, I⟩ := hrel
    by_cases hlt : lo < hi
    · have hc := HF.out q ((lo + hi) / 2) (by omega)
      rw [show (((lo + hi) / 2 : Nat) : Int) = ((lo : Int) + (hi : Int)) / 2 by omega] at hc
      cases hp : p ((lo + hi) / 2) <;> rw [hp] at hc
      · have HP := hide hp
        clear hp
        go_wp2_with (go_at_fn g; refine hc.mono ?_; rintro e w' ⟨rfl, nq, rfl⟩)
        go_roundw
        case rel => exact ⟨(lo + hi) / 2 + 1, hi, q + nq, by rw [show ((lo : Int) + (hi : Int)) / 2 + 1 = (((lo + hi) / 2 + 1 : Nat) : Int) by omega], rfl, by omega, hin, rfl, I.out.1, fun _ => by rw [Nat.add_sub_cancel]; exact HP.out⟩
        case measure => simp [intOf]; omega
      · have HP := hide hp
        clear hp
        go_wp2_with (go_at_fn g; refine hc.mono ?_; rintro e w' ⟨rfl, nq, rfl⟩)
        go_roundw
        case rel => exact ⟨lo, (lo + hi) / 2, q + nq, rfl, by rw [show ((lo : Int) + (hi : Int)) / 2 = (((lo + hi) / 2 : Nat) : Int) by omega], by omega, by omega, rfl, fun _ => HP.out, I.out.2⟩
        case measure => simp [intOf]; omega
    · obtain rfl : hi = lo := by omega
      go_wp2
      go_ret
      exact ⟨hi, rfl, hin, I.out.1, I.out.2, q, rfl⟩
end Go.Proofs.Ybulknju
