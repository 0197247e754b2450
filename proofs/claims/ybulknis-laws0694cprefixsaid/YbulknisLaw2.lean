import Derived.Test.YbulknisLaw
namespace Go.Proofs.Ybulknis
open Go.RowKit

set_option maxHeartbeats 400000 in
theorem law_long (a0 : Option Addr) (len cap : Nat) (day : Int) (uf : Bool) (w : World) (hbig : 1024 < len) :
    Calls Yba.prog 3 #[.slice a0 len cap, .int .i32 day, .bool uf] w fun e w' => e = .returned (.bool true) ∧ Below w.heap.size w w' := by
  go_enter Yba.func3, Yba.ntmps3
  go_wp2
  go_ret
  exact ⟨rfl, Below.refl _ _⟩

set_option maxHeartbeats 1000000 in
theorem law_empty (a0 : Option Addr) (cap : Nat) (day : Int) (uf : Bool) (w : World) (h0 : a0 = none → cap = 0) :
    Calls Yba.prog 3 #[.slice a0 0 cap, .int .i32 day, .bool uf] w fun e w' => e = .returned (.bool true) ∧ Below w.heap.size w w' := by
  have H0 : Hid (a0 = none → cap = 0) := h0
  clear h0
  cases uf
  all_goals
    go_enter Yba.func3, Yba.ntmps3
    go_wp2_with fail
    refine (clone_any a0 0 cap [] _ (by omega) rfl (.inl rfl) (fun h => ⟨rfl, H0.out h⟩)).mono ?_
    rintro e w1 ⟨v, rfl, hown, hbel⟩
    obtain ⟨l1, l2, l3, l4, l5, l6⟩ := laid_two w w1 v [] 0 hown hbel
    obtain ⟨a1, c1, hv, hpop⟩ := pop_any w1.heap.size w.heap.size 0 v [] day _ (by omega) l5 l3 l6 l1 l2
    have HPOP : Hid (Calls Yba.prog 6 #[.pointer (some ⟨w1.heap.size + 1, 0, none⟩), .int .i32 day, .func (.func 5) #[] #[.pointer (some ⟨w1.heap.size, 0, none⟩)]] ((w1.alloc (.cells #[.slice none 0 0] 22)).alloc (.cells #[v] 22)) (PopPost w1.heap.size 0 c1 a1 [] day ((w1.alloc (.cells #[.slice none 0 0] 22)).alloc (.cells #[v] 22)))) := hpop
    subst hv
    have HO : Hid (w1.ownsRow w.heap.size 21 1 (.slice a1 0 c1) 0 (cellsOf [])) := hown
    have HB : Hid (Below w.heap.size w w1) := hbel
    clear hpop hown hbel l1 l2 l3 l4 l5 l6
    go_wp2_with fail
    refine HPOP.out.mono ?_
    intro e w3 hpp
    obtain ⟨k, a2, aL, c2, cL, rfl, hA⟩ := after_pop (a0 := a0) rfl (.inl rfl) HO.out HB.out hpp
    obtain rfl : k = 0 := by have := hA.pre.le; simpa using this
    have cP := hA.p
    have cL' := hA.log
    have hbel : Hid (Below w.heap.size w w3) := hA.bel
    have has : asked [] 0 = 0 := rfl
    rw [has] at cL'
    clear HPOP hpp hA HO HB has
    go_wp2
    refine wp_loop_rounds 1 ?_
    rw [rounds_succ]
    cases a0 with
    | none =>
      obtain rfl := H0.out rfl
      go_wp2_with fail
      refine (equal_true a1 _ 0 c1 _ [] w3 rfl (by omega) (.inl rfl) (.inl rfl)).mono ?_
      rintro e w4 ⟨rfl, q, rfl⟩
      go_wp2_with fail
      go_quiet ((go_at_call 7; exact quiet_sum (equal_true a2 _ 0 c2 _ [] _ rfl (by omega) (.inl rfl) (.inl rfl))))
      go_wp2_with fail
      go_quiet ((go_at_call 7; exact quiet_sum (equal_true aL _ 0 cL _ [] _ rfl (by omega) (.inl rfl) (.inl rfl))))
      go_wp2
      go_ret
      exact ⟨rfl, hbel.out.trans ⟨rfl, rfl, rfl, Nat.le_refl _, fun _ _ => rfl⟩⟩
    | some x =>
      by_cases hc0 : cap = 0
      all_goals
        go_wp2_with fail
        refine (equal_true a1 _ 0 c1 _ [] w3 rfl (by omega) (.inl rfl) (.inl rfl)).mono ?_
        rintro e w4 ⟨rfl, q, rfl⟩
        go_wp2_with fail
        go_quiet ((go_at_call 7; exact quiet_sum (equal_true a2 _ 0 c2 _ [] _ rfl (by omega) (.inl rfl) (.inl rfl))))
        go_wp2_with fail
        go_quiet ((go_at_call 7; exact quiet_sum (equal_true aL _ 0 cL _ [] _ rfl (by omega) (.inl rfl) (.inl rfl))))
        go_wp2
        go_ret
        exact ⟨rfl, hbel.out.trans ⟨rfl, rfl, rfl, Nat.le_refl _, fun _ _ => rfl⟩⟩
end Go.Proofs.Ybulknis
