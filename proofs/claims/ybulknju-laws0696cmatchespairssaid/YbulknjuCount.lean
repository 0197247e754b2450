import Derived.Test.YbulknjuLe
namespace Go.Proofs.Ybulknju
open Go.RowKit

/-- A slice of flags. -/
def RowB (w : World) (a : Option Addr) (n : Nat) (f : Nat → Bool) : Prop := ∀ k, k < n → ∃ b off, a = some ⟨b, off, none⟩ ∧ w.cell? ⟨b, off + k, none⟩ = some (.bool (f k))
theorem RowB.drewN {w : World} {a : Option Addr} {n : Nat} {f : Nat → Bool} (h : RowB w a n f) (q : Nat) : RowB (w.drewN q) a n f := fun k hk => by
  obtain ⟨b, off, e, hc⟩ := h k hk
  exact ⟨b, off, e, by simpa using hc⟩
theorem RowB.grow {w w' : World} {a : Option Addr} {n : Nat} {f : Nat → Bool} (h : RowB w a n f) (hb : Below w.heap.size w w') : RowB w' a n f := fun k hk => by
  obtain ⟨b, off, e, hc⟩ := h k hk
  exact ⟨b, off, e, (hb.cell (World.block_lt_of_cell? w _ hc)).trans hc⟩

/-- The clocks' headers, and their entries. -/
def Heads (w : World) (a : Option Addr) (n : Nat) (ad : Nat → Option Addr) (ln cp : Nat → Nat) : Prop := ∀ k, k < n → ∃ b off, a = some ⟨b, off, none⟩ ∧ w.cell? ⟨b, off + k, none⟩ = some (.slice (ad k) (ln k) (cp k))
theorem Heads.drewN {w : World} {a : Option Addr} {n : Nat} {ad : Nat → Option Addr} {ln cp : Nat → Nat} (h : Heads w a n ad ln cp) (q : Nat) : Heads (w.drewN q) a n ad ln cp := fun k hk => by
  obtain ⟨b, off, e, hc⟩ := h k hk
  exact ⟨b, off, e, by simpa using hc⟩
theorem Heads.grow {w w' : World} {a : Option Addr} {n : Nat} {ad : Nat → Option Addr} {ln cp : Nat → Nat} (h : Heads w a n ad ln cp) (hb : Below w.heap.size w w') : Heads w' a n ad ln cp := fun k hk => by
  obtain ⟨b, off, e, hc⟩ := h k hk
  exact ⟨b, off, e, (hb.cell (World.block_lt_of_cell? w _ hc)).trans hc⟩
def Rows (w : World) (n : Nat) (ad : Nat → Option Addr) (ln cp : Nat → Nat) (z : Nat → Nat → Int) : Prop := ∀ k, k < n → ln k ≤ 1024 ∧ ln k ≤ cp k ∧ RowU w (ad k) (ln k) (z k)
theorem Rows.drewN {w : World} {n : Nat} {ad : Nat → Option Addr} {ln cp : Nat → Nat} {z : Nat → Nat → Int} (h : Rows w n ad ln cp z) (q : Nat) : Rows (w.drewN q) n ad ln cp z := fun k hk => ⟨(h k hk).1, (h k hk).2.1, (h k hk).2.2.drewN q⟩
theorem Rows.grow {w w' : World} {n : Nat} {ad : Nat → Option Addr} {ln cp : Nat → Nat} {z : Nat → Nat → Int} (h : Rows w n ad ln cp z) (hb : Below w.heap.size w w') : Rows w' n ad ln cp z := fun k hk => ⟨(h k hk).1, (h k hk).2.1, (h k hk).2.2.grow hb⟩

theorem sizeOf35 (w : World) : (sizeOf 35).run Yba.prog w = .ok 1 w := by kernel_rfl
theorem sizeOf33 (w : World) : (sizeOf 33).run Yba.prog w = .ok 1 w := by kernel_rfl
theorem sizeOf4 (w : World) : (sizeOf 4).run Yba.prog w = .ok 1 w := by kernel_rfl
theorem idx_of {T E : TypeId} (hu : Yba.prog.underlying T = some (.slice E)) (he : Yba.prog.elem T = E) (hs : ∀ w, (sizeOf E).run Yba.prog w = .ok 1 w) {a : Option Addr} {b off n c : Nat} {k : Nat} (ha : a = some ⟨b, off, none⟩) (hk : k < n) (w : World) :
    (Instr.indexAt T (.slice a n c) (.int .i64 k)).run Yba.prog w = .ok (.pointer (some ⟨b, off + k, none⟩)) w := by
  subst ha
  have hu' : Yba.prog.underlying T = some (.slice (Yba.prog.elem T)) := by rw [he]; exact hu
  rw [run_indexAt_slice (h := hu'), if_pos (by omega)]
  rw [he, hs]
  simp [Addr.add]
theorem idx34 {a : Option Addr} {b off n c : Nat} {k : Nat} (ha : a = some ⟨b, off, none⟩) (hk : k < n) (w : World) : (Instr.indexAt 34 (.slice a n c) (.int .i64 k)).run Yba.prog w = .ok (.pointer (some ⟨b, off + k, none⟩)) w :=
  idx_of (E := 35) (by kernel_rfl) (by kernel_rfl) sizeOf35 ha hk w
theorem idx32 {a : Option Addr} {b off n c : Nat} {k : Nat} (ha : a = some ⟨b, off, none⟩) (hk : k < n) (w : World) : (Instr.indexAt 32 (.slice a n c) (.int .i64 k)).run Yba.prog w = .ok (.pointer (some ⟨b, off + k, none⟩)) w :=
  idx_of (E := 4) (by kernel_rfl) (by kernel_rfl) sizeOf4 ha hk w
theorem idx31 {a : Option Addr} {b off n c : Nat} {k : Nat} (ha : a = some ⟨b, off, none⟩) (hk : k < n) (w : World) : (Instr.indexAt 31 (.slice a n c) (.int .i64 k)).run Yba.prog w = .ok (.pointer (some ⟨b, off + k, none⟩)) w :=
  idx_of (E := 33) (by kernel_rfl) (by kernel_rfl) sizeOf33 ha hk w

/-- Two clocks are ordered. -/
def ordOf (ln : Nat → Nat) (z : Nat → Nat → Int) (i j : Nat) : Bool := less (z i) (ln i) (z j) (ln j) != less (z j) (ln j) (z i) (ln i)
theorem ordOf_symm (ln : Nat → Nat) (z : Nat → Nat → Int) (i j : Nat) : ordOf ln z i j = ordOf ln z j i := by unfold ordOf; cases less (z i) (ln i) (z j) (ln j) <;> cases less (z j) (ln j) (z i) (ln i) <;> rfl

theorem seen_le (f : Nat → Bool) (ord : Nat → Nat → Bool) (a b : Nat) : seen f ord a b ≤ 1 := by unfold seen; split <;> (try split) <;> omega
theorem rowOf_le (f : Nat → Bool) (ord : Nat → Nat → Bool) (n a : Nat) : rowOf f ord n a ≤ n := by
  unfold rowOf; split
  · have := sumTo_le (n := n) (c := 1) (fun i _ => seen_le f ord a i); omega
  · omega

set_option maxHeartbeats 2000000 in
theorem countSetAside_any (bp : Nat) (ac aa : Option Addr) (n cc ca : Nat) (ad : Nat → Option Addr) (ln cp : Nat → Nat) (z : Nat → Nat → Int) (f : Nat → Bool) (w : World) (hn : n ≤ 300)
    (hbox : w.cell? ⟨bp, 2, none⟩ = some (.slice ac n cc)) (hh : Heads w ac n ad ln cp) (hr : Rows w n ad ln cp z) (hf : RowB w aa n f) :
    Calls Yba.prog 10 #[.pointer (some ⟨bp, 0, none⟩), .slice aa n ca] w fun e w' => e = .returned (.int .i64 (sumTo (rowOf f (ordOf ln z) n) n)) ∧ ∃ q, w' = w.drewN q := by
  have HH := hide hh
  have HR := hide hr
  have HF := hide hf
  clear hh hr hf
  go_enter Yba.func10, Yba.ntmps10
  go_wp2
  go_loopw [5, 6, 7, 8, 9, 10, 13] (fun t _ _ _ _ _ i wr => ∃ k q : Nat, k ≤ n ∧ i = .int .i64 k ∧ t = .int .i64 (sumTo (rowOf f (ordOf ln z) n) k : Nat) ∧ wr = w.drewN q) (fun _ _ _ _ _ _ i _ => n - (intOf i).toNat)
  case atStart => exact ⟨0, 0, by omega, rfl, rfl, rfl⟩
  case round =>
    obtain ⟨k, q, hk, rfl, rfl, rfl⟩ := hrel
    by_cases hlt : k < n
    · obtain ⟨ba, oa, haa, da⟩ := HF.out k hlt
      have xa := fun wx => idx32 (c := ca) haa hlt wx
      have HAA := hide haa
      clear haa
      have S : Hid (sumTo (rowOf f (ordOf ln z) n) (k + 1) = sumTo (rowOf f (ordOf ln z) n) k + rowOf f (ordOf ln z) n k) := rfl
      have B : Hid (sumTo (rowOf f (ordOf ln z) n) k ≤ k * n) := sumTo_le fun i _ => rowOf_le _ _ _ _
      cases hfk : f k
      · have R : Hid (rowOf f (ordOf ln z) n k = 0) := by simp [Hid, rowOf, hfk]
        rw [hfk] at da
        clear hfk
        have S' : Hid (sumTo (rowOf f (ordOf ln z) n) (k + 1) = sumTo (rowOf f (ordOf ln z) n) k) := by show _ = _; rw [S.out, R.out, Nat.add_zero]
        go_wp2
        go_roundw
        case rel => exact ⟨k + 1, q, by omega, by go_num, by rw [S'.out], rfl⟩
        case measure => simp [intOf]; omega
      · have R : Hid (rowOf f (ordOf ln z) n k = sumTo (seen f (ordOf ln z) k) n) := by simp [Hid, rowOf, hfk]
        have HFK := hide hfk
        rw [hfk] at da
        clear hfk
        obtain ⟨t0, ht0⟩ : ∃ t0, t0 = sumTo (rowOf f (ordOf ln z) n) k := ⟨_, rfl⟩
        rw [← ht0] at S B ⊢
        rw [R.out] at S
        clear R ht0
        have hb : t0 ≤ 90000 := by have := B.out; have : k * n ≤ 300 * 300 := Nat.mul_le_mul (by omega) hn; omega
        go_wp2
        go_loopw [5, 8, 9, 10, 26] (fun t _ _ _ i wr => ∃ j q : Nat, j ≤ n ∧ i = .int .i64 j ∧ t = .int .i64 ((t0 + sumTo (seen f (ordOf ln z) k) j : Nat) : Int) ∧ wr = w.drewN q) (fun _ _ _ _ i _ => n - (intOf i).toNat)
        case atStart => exact ⟨0, q, by omega, rfl, rfl, rfl⟩
        case round =>
          obtain ⟨j, q, hj, rfl, rfl, rfl⟩ := hrel
          by_cases hjn : j < n
          · obtain ⟨bk, ok, hak, dk⟩ := HH.out k hlt
            obtain ⟨bj, oj, haj, dj⟩ := HH.out j hjn
            have xk := fun wx => idx34 (c := cc) hak hlt wx
            have xj := fun wx => idx34 (c := cc) haj hjn wx
            obtain ⟨bf, of, haf, df⟩ := HF.out j hjn
            have xf := fun wx => idx32 (c := ca) haf hjn wx
            clear hak haj haf
            have S2 : Hid (sumTo (seen f (ordOf ln z) k) (j + 1) = sumTo (seen f (ordOf ln z) k) j + seen f (ordOf ln z) k j) := rfl
            have B2 : Hid (sumTo (seen f (ordOf ln z) k) j ≤ j * 1) := sumTo_le fun i _ => seen_le _ _ _ _
            obtain ⟨t1, ht1⟩ : ∃ t1, t1 = t0 + sumTo (seen f (ordOf ln z) k) j := ⟨_, rfl⟩
            have hb1 : t1 ≤ 91000 := by have := B2.out; omega
            have S3 : Hid (t0 + sumTo (seen f (ordOf ln z) k) (j + 1) = t1 + seen f (ordOf ln z) k j) := by show _ = _; rw [S2.out, ht1]; omega
            rw [← ht1]
            clear S2 B2 ht1
            have CMP : Hid (∀ wx, RowU wx (ad k) (ln k) (z k) → RowU wx (ad j) (ln j) (z j) → Calls Yba.prog 20 #[.slice (ad k) (ln k) (cp k), .slice (ad j) (ln j) (cp j)] wx fun e w' => e = .returned (.string (word (less (z k) (ln k) (z j) (ln j)) (less (z j) (ln j) (z k) (ln k)))) ∧ ∃ q, w' = wx.drewN q) :=
              fun wx h1 h2 => compare_any _ _ _ _ _ _ _ _ wx (HR.out k hlt).1 (HR.out j hjn).1 (HR.out k hlt).2.1 (HR.out j hjn).2.1 h1 h2
            by_cases hjk : j = k
            · have hs : seen f (ordOf ln z) k j = 0 := by unfold seen; rw [if_pos (.inl hjk)]
              rw [hs] at S3
              clear hs CMP dk xk xf df
              subst hjk
              go_wp2
              go_roundw
              case rel => exact ⟨j + 1, q, by omega, by go_num, by rw [S3.out]; rfl, rfl⟩
              case measure => simp [intOf]; omega
            · have e1 : ((j : Int) == (k : Int)) = false := by rw [beq_eq_false_iff_ne]; omega
              cases hfj : f j
              · rw [hfj] at df
                have hs : seen f (ordOf ln z) k j = if less (z k) (ln k) (z j) (ln j) != less (z j) (ln j) (z k) (ln k) then 1 else 0 := by unfold seen; rw [if_neg (by rintro (h | ⟨h, h'⟩); exact hjk h; rw [hfj] at h; cases h)]; rfl
                rw [hs] at S3
                clear hs hfj
                generalize less (z k) (ln k) (z j) (ln j) = x at *
                generalize less (z j) (ln j) (z k) (ln k) = y at *
                cases x <;> cases y
                all_goals
                  simp only [word, if_true, if_false, Bool.false_eq_true] at CMP
                  go_wp2_with (go_at_call 20; refine (CMP.out _ ((HR.out k hlt).2.2.drewN _) ((HR.out j hjn).2.2.drewN _)).mono ?_; rintro e w' ⟨rfl, qq, rfl⟩)
                  go_roundw
                  case rel => exact ⟨j + 1, q + qq, by omega, by go_num, by rw [S3.out]; rfl, rfl⟩
                  case measure => simp [intOf]; omega
              · rw [hfj] at df
                by_cases hlk : j < k
                · have hs : seen f (ordOf ln z) k j = 0 := by unfold seen; rw [if_pos (.inr ⟨hfj, hlk⟩)]
                  rw [hs] at S3
                  clear hs CMP dk hfj
                  have e2 : decide ((j : Int) < (k : Int)) = true := by simpa using hlk
                  go_wp2
                  go_roundw
                  case rel => exact ⟨j + 1, q, by omega, by go_num, by rw [S3.out]; rfl, rfl⟩
                  case measure => simp [intOf]; omega
                · have e2 : decide ((j : Int) < (k : Int)) = false := by simpa using hlk
                  have hs : seen f (ordOf ln z) k j = if less (z k) (ln k) (z j) (ln j) != less (z j) (ln j) (z k) (ln k) then 1 else 0 := by unfold seen; rw [if_neg (by rintro (h | ⟨h, h'⟩); exact hjk h; exact hlk h')]; rfl
                  rw [hs] at S3
                  clear hs hfj
                  generalize less (z k) (ln k) (z j) (ln j) = x at *
                  generalize less (z j) (ln j) (z k) (ln k) = y at *
                  cases x <;> cases y
                  all_goals
                    simp only [word, if_true, if_false, Bool.false_eq_true] at CMP
                    go_wp2_with (go_at_call 20; refine (CMP.out _ ((HR.out k hlt).2.2.drewN _) ((HR.out j hjn).2.2.drewN _)).mono ?_; rintro e w' ⟨rfl, qq, rfl⟩)
                    go_roundw
                    case rel => exact ⟨j + 1, q + qq, by omega, by go_num, by rw [S3.out]; rfl, rfl⟩
                    case measure => simp [intOf]; omega
          · obtain rfl : j = n := by omega
            go_wp2
            go_roundw
            case rel => exact ⟨k + 1, q, by omega, by go_num, by rw [S.out], rfl⟩
            case measure => simp [intOf]; omega
    · obtain rfl : k = n := by omega
      go_wp2
      go_ret
      exact ⟨rfl, q, rfl⟩
end Go.Proofs.Ybulknju
