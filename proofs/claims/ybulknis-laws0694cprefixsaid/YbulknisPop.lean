import Derived.Test.YbulknisParts
namespace Go.Proofs.Ybulknis
open Go.RowKit

/-- k is the length of the longest front of d's. -/
structure Pre (d : Int) (zs : List Int) (k : Nat) : Prop where
  le : k ≤ zs.length
  all : ∀ i, i < k → zs.getD i 0 = d
  ends : k = zs.length ∨ zs.getD k 0 ≠ d
theorem Pre.unique {d : Int} {zs : List Int} {k k' : Nat} (h : Pre d zs k) (h' : Pre d zs k') : k = k' := by
  have key : ∀ {k k' : Nat}, Pre d zs k → Pre d zs k' → ¬ k < k' := by
    intro k k' h h' hlt
    rcases h.ends with e | e
    · have := h'.le; omega
    · exact e (h'.all k hlt)
  have := key h h'; have := key h' h; omega
/-- How many items the closure is called on. -/
def asked (zs : List Int) (k : Nat) : Nat := if k < zs.length then k + 1 else k

theorem take_succ_getD (zs : List Int) (k : Nat) (h : k < zs.length) : zs.take k ++ [zs.getD k 0] = zs.take (k + 1) := by
  rw [List.take_succ_eq_append_getElem h]; simp [List.getD, h]

/-- What popDay leaves: the front handed back, the rest in the variable, the log. -/
def PopPost (BL n cap : Nat) (a1 : Option Addr) (zs : List Int) (d : Int) (w : World) (e : Ending) (w' : World) : Prop :=
  ∃ (k : Nat) (vL : Value) (a2 : Option Addr) (c2 : Nat), Pre d zs k ∧ e = .returned (.slice a1 k cap) ∧ w'.heap[BL + 1]? = some (.cells #[.slice a2 (n - k) c2] 22 (0, 0)) ∧ (k < n → ∃ b off, a1 = some ⟨b, off, none⟩ ∧ a2 = some ⟨b, off + k, none⟩) ∧
    w'.heap[BL]? = some (.cells #[vL] 22 (0, 0)) ∧ w'.ownsRow (BL + 2) 21 1 vL (asked zs k) (cellsOf (zs.take (asked zs k))) ∧ Below BL w w'

theorem pop_end {BL n cap g m : Nat} {zs : List Int} {d : Int} {w wr : World} {vL : Value} {k : Nat} {a2 : Option Addr} {c2 : Nat} (hm : m = n - k) (hp : Pre d zs k) (ha : k < n → a2 = some ⟨g, k, none⟩)
    (hP : ∃ u, wr.heap[BL + 1]? = some (.cells #[u] 22 (0, 0))) (hL : wr.heap[BL]? = some (.cells #[vL] 22 (0, 0))) (hown : wr.ownsRow (BL + 2) 21 1 vL (asked zs k) (cellsOf (zs.take (asked zs k)))) (hf : Frm BL w wr) :
    PopPost BL n cap (some ⟨g, 0, none⟩) zs d w (.returned (.slice (some ⟨g, 0, none⟩) k cap)) (wr.setCell ⟨BL + 1, 0, none⟩ (.slice a2 m c2)) := by
  subst hm
  obtain ⟨u, hP⟩ := hP
  refine ⟨k, vL, a2, c2, hp, rfl, one_setCell hP, fun h => ⟨g, 0, rfl, by rw [ha h]; simp⟩, ?_, ownsRow_setCell_below hown (a := ⟨BL + 1, 0, none⟩) (by simp) _, ?_⟩
  · rw [Below.heap_setCell _ _ _ _ (by simp)]; exact hL
  · exact hf.below.setCell (p := ⟨BL + 1, 0, none⟩) (by simp) _

set_option maxHeartbeats 1000000 in
theorem pop_some (BL g n cap : Nat) (zs : List Int) (d : Int) (w : World) (hn : zs.length = n) (hnc : n ≤ cap) (hbig : n ≤ 1024) (hg : g < BL) (hB : BL + 2 ≤ w.heap.size)
    (hP : w.heap[BL + 1]? = some (.cells #[.slice (some ⟨g, 0, none⟩) n cap] 22 (0, 0))) (hL : w.heap[BL]? = some (.cells #[.slice none 0 0] 22 (0, 0)))
    (hc : ∀ i, i < n → w.cell? ⟨g, i, none⟩ = some (.int .i32 (zs.getD i 0))) :
    Calls Yba.prog 6 #[.pointer (some ⟨BL + 1, 0, none⟩), .int .i32 d, .func (.func 5) #[] #[.pointer (some ⟨BL, 0, none⟩)]] w (PopPost BL n cap (some ⟨g, 0, none⟩) zs d w) := by
  have HN : Hid (zs.length = n) := hn
  have HC : Hid (∀ i, i < n → w.cell? ⟨g, i, none⟩ = some (.int .i32 (zs.getD i 0))) := hc
  have HP : Hid (w.heap[BL + 1]? = some (.cells #[.slice (some ⟨g, 0, none⟩) n cap] 22 (0, 0))) := hP
  have HL : Hid (w.heap[BL]? = some (.cells #[.slice none 0 0] 22 (0, 0))) := hL
  clear hn hc hP hL
  go_enter Yba.func6, Yba.ntmps6
  go_wp2
  go_loopw [7] (fun t wr => ∃ (k : Nat) (vL : Value), k ≤ n ∧ t = .int .i64 k ∧ (∀ i, i < k → zs.getD i 0 = d) ∧ wr.heap[BL]? = some (.cells #[vL] 22 (0, 0)) ∧ wr.ownsRow (BL + 2) 21 1 vL k (cellsOf (zs.take k)) ∧ Frm BL w wr)
    (fun t _ => n - (intOf t).toNat)
  case atStart => exact ⟨0, _, by omega, rfl, fun i hi => by omega, HL.out, World.ownsRow_nil _ _ _ _, Frm.refl _ _⟩
  case round =>
    obtain ⟨k, vL, hk, rfl, hall, hLr, hown, hfr⟩ := hrel
    have HA : Hid (∀ i, i < k → zs.getD i 0 = d) := hall
    have hPr : wr.heap[BL + 1]? = some (.cells #[.slice (some ⟨g, 0, none⟩) n cap] 22 (0, 0)) := by rw [hfr.block _ (by omega) (by omega)]; exact HP.out
    have c0 := cell_of_one hPr
    have f0 := free_of_one hPr
    have hsz := hfr.size
    by_cases hlt : k < n
    · obtain ⟨z, hz⟩ : ∃ z, z = zs.getD k 0 := ⟨_, rfl⟩
      have cz : wr.cell? ⟨g, k, none⟩ = some (.int .i32 z) := by rw [hz, hfr.below.cell (p := ⟨g, k, none⟩) hg]; exact HC.out k hlt
      have HZ : Hid (z = zs.getD k 0) := hz
      have HR : Hid (wr.heap[BL]? = some (.cells #[vL] 22 (0, 0)) ∧ wr.ownsRow (BL + 2) 21 1 vL k (cellsOf (zs.take k)) ∧ Frm BL w wr) := ⟨hLr, hown, hfr⟩
      have HPr : Hid (wr.heap[BL + 1]? = some (.cells #[.slice (some ⟨g, 0, none⟩) n cap] 22 (0, 0))) := hPr
      clear hz hall hLr hown hfr hPr
      by_cases hzd : z = d
      · subst hzd
        go_wp2_with (go_at_call 5; refine (log_any BL _ vL k (zs.take k) _ (by omega) (by omega) HR.out.1 HR.out.2.1).mono ?_; rintro e w1 ⟨rfl, vL', h1, h2, h3⟩)
        go_roundw
        case rel => exact ⟨k + 1, vL', by omega, by go_num, fun i hi => by rcases Nat.lt_succ_iff_lt_or_eq.1 hi with h | rfl; exact HA.out i h; exact HZ.out.symm, h1, by rw [← take_succ_getD zs k (by have := HN.out; omega), ← HZ.out]; exact h2, HR.out.2.2.trans h3⟩
        case measure => simp [intOf]; omega
      · have hb : (z == d) = false := by simp [hzd]
        go_wp2_with (go_at_call 5; refine (log_any BL _ vL k (zs.take k) _ (by omega) (by omega) HR.out.1 HR.out.2.1).mono ?_; rintro e w1 ⟨rfl, vL', h1, h2, h3⟩; have hP1 : w1.heap[BL + 1]? = some (.cells #[.slice (some ⟨g, 0, none⟩) n cap] 22 (0, 0)) := (by rw [h3.block _ (by omega) (by omega)]; exact HPr.out); have c1 := cell_of_one hP1; have f1 := free_of_one hP1; have H4 : Hid (w1.heap[BL + 1]? = some (.cells #[.slice (some ⟨g, 0, none⟩) n cap] 22 (0, 0)) ∧ w1.heap[BL]? = some (.cells #[vL'] 22 (0, 0)) ∧ w1.ownsRow (BL + 2) 21 1 vL' (k + 1) (cellsOf (zs.take k ++ [z])) ∧ Frm BL wr w1) := ⟨hP1, h1, h2, h3⟩; clear h1 h2 h3 hP1)
        go_ret
        have ha : asked zs k = k + 1 := by unfold asked; rw [if_pos (by have := HN.out; omega)]
        exact pop_end rfl ⟨by have := HN.out; omega, HA.out, .inr (by rw [← HZ.out]; exact hzd)⟩ (fun _ => rfl) ⟨_, H4.out.1⟩ H4.out.2.1 (by rw [ha, ← take_succ_getD zs k (by have := HN.out; omega), ← HZ.out]; exact H4.out.2.2.1) (HR.out.2.2.trans H4.out.2.2.2)
    · obtain rfl : k = n := by omega
      have HE : Hid (Pre d zs k ∧ wr.heap[BL + 1]? = some (.cells #[.slice (some ⟨g, 0, none⟩) k cap] 22 (0, 0)) ∧ wr.heap[BL]? = some (.cells #[vL] 22 (0, 0)) ∧ wr.ownsRow (BL + 2) 21 1 vL (asked zs k) (cellsOf (zs.take (asked zs k))) ∧ Frm BL w wr) := by
        refine ⟨⟨by have := HN.out; omega, hall, .inl HN.out.symm⟩, hPr, hLr, ?_, hfr⟩
        have : asked zs k = k := by unfold asked; rw [if_neg (by have := HN.out; omega)]
        rw [this]; exact hown
      clear hall hPr hLr hown hfr
      go_wp2
      all_goals
        go_ret
        exact pop_end (Nat.sub_self k).symm HE.out.1 (fun h => absurd h (Nat.lt_irrefl _)) ⟨_, HE.out.2.1⟩ HE.out.2.2.1 HE.out.2.2.2.1 HE.out.2.2.2.2

/-- A row of the call's own, as the walks ask for it. -/
theorem owns_row {w : World} {base : Nat} {v : Value} {n : Nat} {zs : List Int} (h : w.ownsRow base 21 1 v n (cellsOf zs)) :
    zs.length = n ∧ ∃ a c, v = .slice a n c ∧ RowIs w a zs ∧ (∀ x, a = some x → base ≤ x.block ∧ x.block < w.heap.size) := by
  have hl : zs.length = n := by have := h.1; simpa [cellsOf] using this
  refine ⟨hl, ?_⟩
  rcases h.2 with ⟨rfl, rfl⟩ | ⟨g, cap, cur, rfl, hb, hg, _, _, _, _⟩
  · refine ⟨none, 0, rfl, .inl (List.eq_nil_of_length_eq_zero hl), fun x hx => by cases hx⟩
  · refine ⟨_, cap, rfl, .inr ⟨g, 0, rfl, fun i hi => ?_⟩, fun x hx => ?_⟩
    · rw [Nat.zero_add, h.cellAt i (by omega)]
      simp [cellsOf, List.getD, hi]
    · cases hx
      exact ⟨hb, lt_of_block hg⟩

set_option maxHeartbeats 1000000 in
theorem pop_nil (BL : Nat) (d : Int) (w : World)
    (hP : w.heap[BL + 1]? = some (.cells #[.slice none 0 0] 22 (0, 0))) (hL : w.heap[BL]? = some (.cells #[.slice none 0 0] 22 (0, 0))) :
    Calls Yba.prog 6 #[.pointer (some ⟨BL + 1, 0, none⟩), .int .i32 d, .func (.func 5) #[] #[.pointer (some ⟨BL, 0, none⟩)]] w (PopPost BL 0 0 none [] d w) := by
  have c0 := cell_of_one hP
  have f0 := free_of_one hP
  have HP : Hid (w.heap[BL + 1]? = some (.cells #[.slice none 0 0] 22 (0, 0))) := hP
  have HL : Hid (w.heap[BL]? = some (.cells #[.slice none 0 0] 22 (0, 0))) := hL
  clear hP hL
  go_enter Yba.func6, Yba.ntmps6
  go_wp2
  refine wp_loop_rounds 1 ?_
  rw [rounds_succ]
  go_wp2
  go_ret
  refine ⟨0, .slice none 0 0, none, 0, ⟨Nat.zero_le _, fun i hi => by omega, .inl rfl⟩, rfl, one_setCell HP.out, fun h => by omega, ?_, World.ownsRow_nil _ _ _ _, (Below.refl _ _).setCell (p := ⟨BL + 1, 0, none⟩) (by simp) _⟩
  rw [Below.heap_setCell _ _ _ _ (by simp)]; exact HL.out

theorem pop_any (BL B n : Nat) (v : Value) (zs : List Int) (d : Int) (w : World) (hbig : n ≤ 1024) (hB : BL + 2 ≤ w.heap.size) (hown : w.ownsRow B 21 1 v n (cellsOf zs)) (hlt : ∀ g, v.ownBlock = some g → g < BL)
    (hP : w.heap[BL + 1]? = some (.cells #[v] 22 (0, 0))) (hL : w.heap[BL]? = some (.cells #[.slice none 0 0] 22 (0, 0))) :
    ∃ a1 c1, v = .slice a1 n c1 ∧ Calls Yba.prog 6 #[.pointer (some ⟨BL + 1, 0, none⟩), .int .i32 d, .func (.func 5) #[] #[.pointer (some ⟨BL, 0, none⟩)]] w (PopPost BL n c1 a1 zs d w) := by
  have hl : zs.length = n := (owns_row hown).1
  rcases hown.2 with ⟨rfl, rfl⟩ | ⟨g, cap, cur, rfl, hb, hg, hnc, _, _, _⟩
  · obtain rfl := List.eq_nil_of_length_eq_zero hl
    exact ⟨none, 0, rfl, pop_nil BL d w hP hL⟩
  · refine ⟨_, cap, rfl, pop_some BL g n cap zs d w hl hnc hbig (hlt g rfl) hB hP hL fun i hi => ?_⟩
    rw [hown.cellAt i (by omega)]
    simp [cellsOf, List.getD, hl, hi]
end Go.Proofs.Ybulknis
