import Derived.Test.YbulknisPop
namespace Go.Proofs.Ybulknis
open Go.RowKit

/-- What lies where popDay is called: the clone, the log's variable, the clone's variable. -/
theorem laid_two (w w1 : World) (v : Value) (zs : List Int) (n : Nat) (hown : w1.ownsRow w.heap.size 21 1 v n (cellsOf zs)) (hb : Below w.heap.size w w1) :
    ((w1.alloc (.cells #[.slice none 0 0] 22)).alloc (.cells #[v] 22)).heap[w1.heap.size + 1]? = some (.cells #[v] 22 (0, 0)) ∧
    ((w1.alloc (.cells #[.slice none 0 0] 22)).alloc (.cells #[v] 22)).heap[w1.heap.size]? = some (.cells #[.slice none 0 0] 22 (0, 0)) ∧
    ((w1.alloc (.cells #[.slice none 0 0] 22)).alloc (.cells #[v] 22)).ownsRow w.heap.size 21 1 v n (cellsOf zs) ∧
    Below w.heap.size w ((w1.alloc (.cells #[.slice none 0 0] 22)).alloc (.cells #[v] 22)) ∧ w1.heap.size + 2 ≤ ((w1.alloc (.cells #[.slice none 0 0] 22)).alloc (.cells #[v] 22)).heap.size ∧
    (∀ g, v.ownBlock = some g → g < w1.heap.size) := by
  refine ⟨?_, ?_, (hown.alloc _).alloc _, (hb.alloc hb.size _).alloc (by have := hb.size; simp; omega) _, by simp, fun g hg => (hown.lt g hg).2⟩
  · have := heap_alloc_new (w1.alloc (.cells #[.slice none 0 0] 22)) (.cells #[v] 22)
    simpa using this
  · rw [Below.heap_alloc _ _ _ (by simp)]; exact heap_alloc_new w1 _

/-- A reading callee inside a region that draws, the draws added up as the walk adds them. -/
theorem quiet_sum {P : Program} {f : FuncId} {args : Array Value} {w : World} {q n : Nat} {v : Value}
    (h : Calls P f args (w.drewN (q + n)) fun e w' => e = .returned v ∧ ∃ m, w' = (w.drewN (q + n)).drewN m) : Calls P f args (w.drewN (q + n)) fun e w'' => e = .returned v ∧ ∃ m, w'' = w.drewN (q + m) :=
  h.mono fun _ _ ⟨he, m, hm⟩ => ⟨he, n + m, by rw [hm, World.drewN_drewN, Nat.add_assoc]⟩

theorem RowIs.grow {w w' : World} {a : Option Addr} {zs : List Int} (h : RowIs w a zs) (hb : Below w.heap.size w w') : RowIs w' a zs := by
  rcases h with h | ⟨b, off, rfl, hc⟩
  · exact .inl h
  · exact .inr ⟨b, off, rfl, fun i hi => (hb.cell (p := ⟨b, off + i, none⟩) (by exact World.block_lt_of_cell? w _ (hc i hi))).trans (hc i hi)⟩

/-- What the law needs of the world behind popDay. -/
structure After (w w3 : World) (BL len k : Nat) (a0 a1 a2 aL : Option Addr) (c2 cL : Nat) (zs : List Int) (d : Int) : Prop where
  pre : Pre d zs k
  p : w3.cell? ⟨BL + 1, 0, none⟩ = some (.slice a2 (len - k) c2)
  log : w3.cell? ⟨BL, 0, none⟩ = some (.slice aL (asked zs k) cL)
  r0 : RowIs w3 a0 zs
  r1 : RowIs w3 a1 zs
  r2 : RowIs w3 a2 (zs.drop k)
  rL : RowIs w3 aL (zs.take (asked zs k))
  bel : Below w.heap.size w w3

theorem after_pop {w w1 w3 : World} {a0 a1 : Option Addr} {len c1 : Nat} {zs : List Int} {d : Int} {e : Ending} (hz : zs.length = len) (h0 : RowIs w a0 zs) (hown : w1.ownsRow w.heap.size 21 1 (.slice a1 len c1) len (cellsOf zs)) (hb : Below w.heap.size w w1)
    (h : PopPost w1.heap.size len c1 a1 zs d ((w1.alloc (.cells #[.slice none 0 0] 22)).alloc (.cells #[.slice a1 len c1] 22)) e w3) :
    ∃ k a2 aL c2 cL, e = .returned (.slice a1 k c1) ∧ After w w3 w1.heap.size len k a0 a1 a2 aL c2 cL zs d := by
  obtain ⟨l1, l2, l3, l4, l5, l6⟩ := laid_two w w1 _ zs len hown hb
  obtain ⟨k, vL, a2, c2, hpre, rfl, hP, ha, hL, hownL, hbel⟩ := h
  obtain ⟨hlL, aL, cL, rfl, rL, _⟩ := owns_row hownL
  obtain ⟨_, a1', c1', he, r1, hlt1⟩ := owns_row hown
  cases he
  have hb3 : Below w.heap.size w w3 := l4.trans (hbel.mono hb.size)
  have r1' : RowIs ((w1.alloc (.cells #[.slice none 0 0] 22)).alloc (.cells #[.slice a1 len c1] 22)) a1 zs :=
    r1.grow (((Below.refl _ _).alloc (Nat.le_refl _) _).alloc (by simp) _)
  have r13 : RowIs w3 a1 zs := r1'.below hbel (fun x hx => (hlt1 x hx).2)
  refine ⟨k, a2, aL, c2, cL, rfl, hpre, cell_of_one hP, cell_of_one hL, h0.grow hb3, r13, ?_, rL, hb3⟩
  by_cases hk : k < len
  · obtain ⟨b, off, rfl, rfl⟩ := ha hk
    exact r13.drop k
  · exact .inl (List.drop_eq_nil_of_le (by omega))

set_option maxHeartbeats 1000000 in
theorem law_some (b off len cap : Nat) (zs : List Int) (day : Int) (uf : Bool) (w : World) (hz : zs.length = len) (hpos : 0 < len) (hbig : len ≤ 1024) (hlc : len ≤ cap) (hcm : cap ≤ maxLen)
    (hc : ∀ i, i < zs.length → w.cell? ⟨b, off + i, none⟩ = some (.int .i32 (zs.getD i 0))) :
    Calls Yba.prog 3 #[.slice (some ⟨b, off, none⟩) len cap, .int .i32 day, .bool uf] w fun e w' => e = .returned (.bool true) ∧ Below w.heap.size w w' := by
  have hr : RowIs w (some ⟨b, off, none⟩) zs := .inr ⟨b, off, rfl, hc⟩
  unfold maxLen at hcm
  have c00 := hc 0 (by omega)
  have hb0 : b < w.heap.size := World.block_lt_of_cell? w _ c00
  obtain ⟨z0, hz0⟩ : ∃ z, z = zs.getD 0 0 := ⟨_, rfl⟩
  rw [← hz0] at c00
  rw [Nat.add_zero] at c00
  obtain ⟨d, hd⟩ : ∃ d, d = if uf then z0 else day := ⟨_, rfl⟩
  have HZ : Hid (zs.length = len) := hz
  have HC : Hid (∀ i, i < zs.length → w.cell? ⟨b, off + i, none⟩ = some (.int .i32 (zs.getD i 0))) := hc
  have HR : Hid (RowIs w (some ⟨b, off, none⟩) zs) := hr
  clear hz hc hr hz0
  cases uf
  all_goals
    simp at hd
    subst hd
    go_enter Yba.func3, Yba.ntmps3
    go_wp2_with fail
    refine (clone_any (some ⟨b, off, none⟩) len cap zs _ hbig HZ.out HR.out (fun h => by cases h)).mono ?_
    rintro e w1 ⟨v, rfl, hown, hbel⟩
    obtain ⟨l1, l2, l3, l4, l5, l6⟩ := laid_two w w1 v zs len hown hbel
    obtain ⟨a1, c1, hv, hpop⟩ := pop_any w1.heap.size w.heap.size len v zs d _ hbig l5 l3 l6 l1 l2
    have HPOP : Hid (Calls Yba.prog 6 #[.pointer (some ⟨w1.heap.size + 1, 0, none⟩), .int .i32 d, .func (.func 5) #[] #[.pointer (some ⟨w1.heap.size, 0, none⟩)]] ((w1.alloc (.cells #[.slice none 0 0] 22)).alloc (.cells #[v] 22)) (PopPost w1.heap.size len c1 a1 zs d ((w1.alloc (.cells #[.slice none 0 0] 22)).alloc (.cells #[v] 22)))) := hpop
    subst hv
    have HO : Hid (w1.ownsRow w.heap.size 21 1 (.slice a1 len c1) len (cellsOf zs)) := hown
    have HB : Hid (Below w.heap.size w w1) := hbel
    clear hpop hown hbel l1 l2 l3 l4 l5 l6
    go_wp2_with fail
    refine HPOP.out.mono ?_
    intro e w3 hpp
    obtain ⟨k, a2, aL, c2, cL, rfl, hA⟩ := after_pop HZ.out HR.out HO.out HB.out hpp
    have HA : Hid (After w w3 w1.heap.size len k (some ⟨b, off, none⟩) a1 a2 aL c2 cL zs d) := hA
    have cP := hA.p
    have cL' := hA.log
    have hkl : k ≤ len := by have := hA.pre.le; have := HZ.out; omega
    have HC3 : Hid (∀ i, i < zs.length → w3.cell? ⟨b, off + i, none⟩ = some (.int .i32 (zs.getD i 0))) := by
      intro i hi
      rcases hA.r0 with h | ⟨b', off', e, h⟩
      · simp [h] at hi
      · cases e; exact h i hi
    clear HPOP hpp hA HO HB c00 HC HR
    go_wp2
    go_loop [13] (fun t => ∃ j : Nat, j ≤ k ∧ t = .int .i64 j) (fun t => len - (intOf t).toNat)
    case atStart => exact ⟨0, by omega, rfl⟩
    case round =>
      obtain ⟨j, hj, rfl⟩ := hrel
      by_cases hjk : j < k
      · have hcell : w3.cell? ⟨b, off + j, none⟩ = some (.int .i32 d) := by
          rw [HC3.out j (by have := HZ.out; omega), HA.out.pre.all j hjk]
        go_wp2
        go_round
        case rel => exact ⟨j + 1, by omega, by go_num⟩
        case measure => simp [intOf]; omega
      · obtain rfl : j = k := by omega
        by_cases hjl : j < len
        · obtain ⟨z, hz⟩ : ∃ z, z = zs.getD j 0 := ⟨_, rfl⟩
          have hcell : w3.cell? ⟨b, off + j, none⟩ = some (.int .i32 z) := by rw [hz]; exact HC3.out j (by have := HZ.out; omega)
          have hzd : (z == d) = false := by
            rcases HA.out.pre.ends with h | h
            · have := HZ.out; omega
            · simp [hz]; exact h
          have has : asked zs j = j + 1 := by unfold asked; rw [if_pos (by have := HZ.out; omega)]
          rw [has] at cL'
          have HAS : Hid (asked zs j = j + 1) := has
          clear hz has
          have hcj : ¬ cap = j := by omega
          go_wp2_with fail
          refine (equal_true a1 (some ⟨b, off, none⟩) j c1 cap (zs.take j) w3 (by have := HZ.out; simp; omega) (by omega) (HA.out.r1.take j) (HA.out.r0.take j)).mono ?_
          rintro e w4 ⟨rfl, q, rfl⟩
          go_wp2_with fail
          go_quiet ((go_at_call 7; exact quiet_sum (equal_true a2 (some ⟨b, off + j, none⟩) (len - j) c2 (cap - j) (zs.drop j) _ (by have := HZ.out; simp; omega) (by omega) (HA.out.r2.drewN _) ((HA.out.r0.drop j).drewN _))))
          go_wp2_with fail
          go_quiet ((go_at_call 7; exact quiet_sum (equal_true aL (some ⟨b, off, none⟩) (j + 1) cL cap (zs.take (j + 1)) _ (by have := HZ.out; simp; omega) (by omega) (by rw [← HAS.out]; exact HA.out.rL.drewN _) ((HA.out.r0.take _).drewN _))))
          go_wp2
          go_ret
          exact ⟨rfl, HA.out.bel.trans ⟨rfl, rfl, rfl, Nat.le_refl _, fun _ _ => rfl⟩⟩
        · obtain rfl : j = len := by omega
          have has : asked zs j = j := by unfold asked; rw [if_neg (by have := HZ.out; omega)]
          rw [has] at cL'
          rw [Nat.sub_self] at cP
          have HAS : Hid (asked zs j = j) := has
          clear has
          by_cases hjc : j = cap
          all_goals
            first
              | subst hjc
              | have hcj : ¬ cap = j := fun h => hjc h.symm
            go_wp2_with fail
            refine (equal_true a1 (some ⟨b, off, none⟩) j c1 _ (zs.take j) w3 (by have := HZ.out; simp; omega) (by omega) (HA.out.r1.take j) (HA.out.r0.take j)).mono ?_
            rintro e w4 ⟨rfl, q, rfl⟩
            go_wp2_with fail
            go_quiet ((go_at_call 7; exact quiet_sum (equal_true a2 _ 0 c2 _ [] _ rfl (by omega) (.inl rfl) (.inl rfl))))
            go_wp2_with fail
            go_quiet ((go_at_call 7; exact quiet_sum (equal_true aL (some ⟨b, off, none⟩) j cL _ (zs.take j) _ (by have := HZ.out; simp; omega) (by omega) (by rw [← HAS.out]; exact HA.out.rL.drewN _) ((HA.out.r0.take _).drewN _))))
            go_wp2
            go_ret
            exact ⟨rfl, HA.out.bel.trans ⟨rfl, rfl, rfl, Nat.le_refl _, fun _ _ => rfl⟩⟩
end Go.Proofs.Ybulknis
