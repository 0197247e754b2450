import Derived.Test.YbulknjuCount
import Derived.Deep.OwnRows
namespace Go.Proofs.Ybulknju
open Go.RowKit

/-- A row of the call's own, k of its cells filled. -/
structure Fill (w0 : World) (e : TypeId) (n : Nat) (V : Nat → Value) (Z : Value) (k : Nat) (wr : World) : Prop where
  bel : Below w0.heap.size w0 wr
  row : wr.rowIs w0.heap.size e n (fun i => if i < k then V i else Z)
theorem Fill.start {w0 : World} {e : TypeId} {n : Nat} {V : Nat → Value} {Z : Value} : Fill w0 e n V Z 0 (w0.alloc (.cells (madeCells #[Z] n) e)) :=
  ⟨(Below.refl _ _).alloc (Nat.le_refl _) _, (World.rowIs_made w0 Z n e).congr fun i _ => by simp⟩
theorem Fill.next {w0 : World} {e : TypeId} {n : Nat} {V : Nat → Value} {Z : Value} {k : Nat} {wr : World} (h : Fill w0 e n V Z k wr) : Fill w0 e n V Z (k + 1) (wr.setCell ⟨w0.heap.size, k, none⟩ (V k)) :=
  ⟨h.bel.setCell (p := ⟨w0.heap.size, k, none⟩) (Nat.le_refl _) _, (h.row.set k (V k)).congr fun i _ => by
    by_cases e : i = k
    · subst e; simp
    · by_cases l : i < k
      · rw [if_neg e, if_pos l, if_pos (by omega)]
      · rw [if_neg e, if_neg l, if_neg (by omega)]⟩
theorem Fill.skip {w0 : World} {e : TypeId} {n : Nat} {V : Nat → Value} {Z : Value} {k : Nat} {wr : World} (h : Fill w0 e n V Z k wr) (hv : V k = Z) : Fill w0 e n V Z (k + 1) wr :=
  ⟨h.bel, h.row.congr fun i _ => by
    by_cases e : i = k
    · subst e; simp [hv]
    · by_cases l : i < k
      · rw [if_pos l, if_pos (by omega)]
      · rw [if_neg l, if_neg (by omega)]⟩
theorem Fill.cell {w0 : World} {e : TypeId} {n : Nat} {V : Nat → Value} {Z : Value} {wr : World} (h : Fill w0 e n V Z n wr) {i : Nat} (hi : i < n) : wr.cell? ⟨w0.heap.size, 0 + i, none⟩ = some (V i) := by
  rw [Nat.zero_add, h.row.cell hi, if_pos hi]

theorem info35 : (Yba.prog.info? 35).map (fun i => (i.zero, i.size, i.bytes)) = some (some (.slice none 0 0), 1, 24) := by kernel_rfl
theorem info4 : (Yba.prog.info? 4).map (fun i => (i.zero, i.size, i.bytes)) = some (some (.bool false), 1, 1) := by kernel_rfl
theorem underlying34 : Yba.prog.underlying 34 = some (.slice 35) := by kernel_rfl
theorem underlying32 : Yba.prog.underlying 32 = some (.slice 4) := by kernel_rfl
theorem pair_le (f : Nat → Bool) (ord : Nat → Nat → Bool) (i j : Nat) : pair f ord i j ≤ 1 := by unfold pair; split <;> (try split) <;> (try split) <;> omega
theorem pairs_le (f : Nat → Bool) (ord : Nat → Nat → Bool) (n i : Nat) : sumTo (pair f ord i) n ≤ n := by have := sumTo_le (n := n) (c := 1) (fun j _ => pair_le f ord i j); omega
theorem pairs_low (f : Nat → Bool) (ord : Nat → Nat → Bool) (i : Nat) : sumTo (pair f ord i) (i + 1) = 0 := sumTo_zero fun j hj => by unfold pair; rw [if_neg (by omega)]
theorem quiet_sum {P : Program} {f : FuncId} {args : Array Value} {w : World} {q n : Nat} {v : Value}
    (h : Calls P f args (w.drewN (q + n)) fun e w' => e = .returned v ∧ w' = w.drewN (q + n)) : Calls P f args (w.drewN (q + n)) fun e w'' => e = .returned v ∧ ∃ m, w'' = w.drewN (q + m) :=
  h.mono fun _ _ ⟨he, hm⟩ => ⟨he, n, hm⟩
theorem idx34z {g n c k : Nat} (hk : k < n) (w : World) : (Instr.indexAt 34 (.slice (some ⟨g, 0, none⟩) n c) (.int .i64 k)).run Yba.prog w = .ok (.pointer (some ⟨g, k, none⟩)) w := by
  rw [idx34 (b := g) (off := 0) rfl hk, Nat.zero_add]
theorem idx32z {g n c k : Nat} (hk : k < n) (w : World) : (Instr.indexAt 32 (.slice (some ⟨g, 0, none⟩) n c) (.int .i64 k)).run Yba.prog w = .ok (.pointer (some ⟨g, k, none⟩)) w := by
  rw [idx32 (b := g) (off := 0) rfl hk, Nat.zero_add]

/-- The flags as the law reads them. -/
def flagOf (n2 : Nat) (fl : Nat → Bool) (i : Nat) : Bool := if i < n2 then fl i else false

set_option maxHeartbeats 4000000 in
theorem law_any (a1 a2 : Option Addr) (n c1 n2 c2 : Nat) (ad : Nat → Option Addr) (ln cp : Nat → Nat) (z : Nat → Nat → Int) (fl : Nat → Bool) (w : World) (hn : n ≤ 300) (_hn2 : n2 ≤ 9223372036854775807)
    (hh : Heads w a1 n ad ln cp) (hr : ∀ k, k < n → ln k ≤ 9223372036854775807 ∧ ln k ≤ cp k ∧ RowU w (ad k) (ln k) (z k)) (hf : RowB w a2 n2 fl) :
    Calls Yba.prog 5 #[.slice a1 n c1, .slice a2 n2 c2] w fun e w' => e = .returned (.bool true) ∧ Below w.heap.size w w' := by
  have HH := hide hh
  have HR0 := hide hr
  have HF := hide hf
  clear hh hr hf
  go_enter Yba.func5, Yba.ntmps5
  go_upto_block 0 with fail
  go_cut [6] (fun _ wc => (∀ r, r < n → ln r ≤ 1024) ∧ wc = w)
  case first =>
    go_wp2
    go_loop [6, 22] (fun _ i => ∃ k : Nat, k ≤ n ∧ i = .int .i64 k ∧ ∀ r, r < k → ln r ≤ 1024) (fun _ i => n - (intOf i).toNat)
    case atStart => exact ⟨0, by omega, rfl, fun r hr => by omega⟩
    case round =>
      obtain ⟨k, hk, rfl, hall⟩ := hrel
      have HA := hide hall
      clear hall
      by_cases hlt : k < n
      · obtain ⟨b, off, ha, hc⟩ := HH.out k hlt
        have hidx := fun wx => idx31 (c := c1) ha hlt wx
        have hl := (HR0.out k hlt).1
        clear ha
        by_cases hL : ln k ≤ 1024
        · go_wp2
          go_round
          case rel => exact ⟨k + 1, by omega, by go_num, fun r hr => by rcases Nat.lt_succ_iff_lt_or_eq.1 hr with h | rfl; exact HA.out r h; exact hL⟩
          case measure => simp [intOf]; omega
        · go_wp2
          go_ret
          exact ⟨rfl, Below.refl _ _⟩
      · obtain rfl : k = n := by omega
        go_wp2
        go_meet
        case rel => exact ⟨HA.out, rfl⟩
  obtain ⟨hL, hw⟩ := hcut
  replace hw := hw.symm
  subst hw
  have HR : Hid (Rows w n ad ln cp z) := fun k hk => ⟨hL k hk, (HR0.out k hk).2.1, (HR0.out k hk).2.2⟩
  clear HR0 hL
  have hmk := fun wx => run_make_row' (P := Yba.prog) 34 35 (.slice none 0 0) 24 underlying34 info35 rfl .i64 .i64 n (by omega) (by omega) wx
  go_upto_block 2 with fail
  clear hmk
  go_cut [9] (fun _ wx => Fill w 35 n (fun i => .slice (ad i) (ln i) (cp i)) (.slice none 0 0) n wx)
  case first =>
    go_wp2
    go_loopw [9] (fun i wr => ∃ k : Nat, k ≤ n ∧ i = .int .i64 k ∧ Fill w 35 n (fun i => .slice (ad i) (ln i) (cp i)) (.slice none 0 0) k wr) (fun i _ => n - (intOf i).toNat)
    case atStart => exact ⟨0, by omega, rfl, Fill.start⟩
    case round =>
      obtain ⟨k, hk, rfl, hfill⟩ := hrel
      have HFI := hide hfill
      by_cases hlt : k < n
      · obtain ⟨b, off, ha, hc⟩ := HH.out.grow hfill.bel k hlt
        have hidx := fun wx => idx31 (c := c1) ha hlt wx
        have hidx2 := fun wx => idx34z (g := w.heap.size) (c := n) hlt wx
        have q0 := hfill.row.cell hlt
        have z0 := hfill.row.frozen k
        clear ha hfill
        go_wp2
        go_roundw
        case rel => exact ⟨k + 1, by omega, by go_num, HFI.out.next⟩
        case measure => simp [intOf]; omega
      · obtain rfl : k = n := by omega
        clear hfill
        go_wp2
        go_meet
        case rel => exact HFI.out
  obtain ⟨w2, e2⟩ : ∃ w2, w2 = wc := ⟨_, rfl⟩
  subst e2
  have HD := hide hcut
  clear hcut
  have hmk := fun wx => run_make_row' (P := Yba.prog) 32 4 (.bool false) 1 underlying32 info4 rfl .i64 .i64 n (by omega) (by omega) wx
  go_upto_block 4 with fail
  clear hmk
  go_cut [11] (fun _ wx => Fill w2 4 n (fun i => .bool (flagOf n2 fl i)) (.bool false) n wx)
  case first =>
    go_wp2
    go_loopw [11] (fun i wr => ∃ k : Nat, k ≤ n ∧ i = .int .i64 k ∧ Fill w2 4 n (fun i => .bool (flagOf n2 fl i)) (.bool false) k wr) (fun i _ => n - (intOf i).toNat)
    case atStart => exact ⟨0, by omega, rfl, Fill.start⟩
    case round =>
      obtain ⟨k, hk, rfl, hfill⟩ := hrel
      have HFI := hide hfill
      by_cases hlt : k < n
      · by_cases hk2 : k < n2
        · obtain ⟨b, off, ha, hc⟩ := (HF.out.grow HD.out.bel).grow hfill.bel k hk2
          have hidx := fun wx => idx32 (c := c2) ha hk2 wx
          have hidx2 := fun wx => idx32z (g := w2.heap.size) (c := n) hlt wx
          have q0 := hfill.row.cell hlt
          have z0 := hfill.row.frozen k
          have hfo : flagOf n2 fl k = fl k := by simp [flagOf, hk2]
          have HN := hide HFI.out.next
          rw [hfo] at HN
          clear ha hfill hfo
          go_wp2
          go_roundw
          case rel => exact ⟨k + 1, by omega, by go_num, HN.out⟩
          case measure => simp [intOf]; omega
        · have HN := hide (HFI.out.skip (by simp [flagOf, hk2]))
          clear hfill
          go_wp2
          go_roundw
          case rel => exact ⟨k + 1, by omega, by go_num, HN.out⟩
          case measure => simp [intOf]; omega
      · obtain rfl : k = n := by omega
        clear hfill
        go_wp2
        go_meet
        case rel => exact HFI.out
  obtain ⟨w3, e3⟩ : ∃ w3, w3 = wc := ⟨_, rfl⟩
  subst e3
  have HA := hide hcut
  clear hcut
  go_upto_region 22 with fail
  have hbe3 : Below w.heap.size w w3 := HD.out.bel.trans (HA.out.bel.mono HD.out.bel.size)
  have hb4 : Below w3.heap.size w3 (w3.alloc (.cells #[.map none, .slice none 0 0, .slice (some ⟨w.heap.size, 0, none⟩) n n, .slice none 0 0, .slice none 0 0] 43)) := (Below.refl _ _).alloc (Nat.le_refl _) _
  have hbox : (w3.alloc (.cells #[.map none, .slice none 0 0, .slice (some ⟨w.heap.size, 0, none⟩) n n, .slice none 0 0, .slice none 0 0] 43)).cell? ⟨w3.heap.size, 2, none⟩ = some (.slice (some ⟨w.heap.size, 0, none⟩) n n) := by rw [cell_of_row _ _ _ _ 43 (0, 0) (heap_alloc_new w3 _)]; rfl
  obtain ⟨wb, ewb⟩ : ∃ wb, wb = w3.alloc (.cells #[.map none, .slice none 0 0, .slice (some ⟨w.heap.size, 0, none⟩) n n, .slice none 0 0, .slice none 0 0] 43) := ⟨_, rfl⟩
  rw [← ewb] at hb4 hbox ⊢
  clear ewb
  have hbe : Below w.heap.size w wb := hbe3.trans (hb4.mono hbe3.size)
  have hD0 : Heads w2 (some ⟨w.heap.size, 0, none⟩) n ad ln cp := fun k hk => ⟨w.heap.size, 0, rfl, HD.out.cell hk⟩
  have hD4 : Heads wb (some ⟨w.heap.size, 0, none⟩) n ad ln cp := (hD0.grow HA.out.bel).grow hb4
  have hA0 : RowB w3 (some ⟨w2.heap.size, 0, none⟩) n (flagOf n2 fl) := fun k hk => ⟨w2.heap.size, 0, rfl, HA.out.cell hk⟩
  have hA4 := hA0.grow hb4
  have hH4 := HH.out.grow hbe
  have hR4 := HR.out.grow hbe
  have CNT := hide (countSetAside_any w3.heap.size (some ⟨w.heap.size, 0, none⟩) (some ⟨w2.heap.size, 0, none⟩) n n n ad ln cp z (flagOf n2 fl) wb hn hbox hD4 hR4 hA4)
  have HBE := hide hbe
  have HA4 := hide hA4
  have HH4 := hide hH4
  have HR4 := hide hR4
  clear hbe3 hb4 hbox hbe hD0 hD4 hA0 hA4 hH4 hR4 HH HF HR HD HA
  generalize flagOf n2 fl = f at *
  generalize (some ⟨w2.heap.size, 0, none⟩ : Option Addr) = aA at *
  go_upto_block 6 with (go_at_call 10; refine CNT.out.mono ?_; rintro e w' ⟨rfl, q0, rfl⟩)
  clear CNT
  have hsum : sumTo (rowOf f (ordOf ln z) n) n = sumTo (fun i => sumTo (pair f (ordOf ln z) i) n) n := counts f (ordOf ln z) (ordOf_symm ln z) n
  rw [hsum]
  clear hsum
  go_cut [14, 15, 16] (fun t _ _ wx => t = .int .i64 (sumTo (fun i => sumTo (pair f (ordOf ln z) i) n) n : Nat) ∧ ∃ q, wx = wb.drewN q)
  case first =>
    go_wp2
    go_loopw [14, 15, 16] (fun t i _ wr => ∃ k q : Nat, k ≤ n ∧ i = .int .i64 k ∧ t = .int .i64 (sumTo (fun i => sumTo (pair f (ordOf ln z) i) n) k : Nat) ∧ wr = wb.drewN q) (fun _ i _ _ => n - (intOf i).toNat)
    case atStart => exact ⟨0, q0, by omega, rfl, rfl, rfl⟩
    case round =>
      obtain ⟨k, q, hk, rfl, rfl, rfl⟩ := hrel
      by_cases hlt : k < n
      · have S : Hid (sumTo (fun i => sumTo (pair f (ordOf ln z) i) n) (k + 1) = sumTo (fun i => sumTo (pair f (ordOf ln z) i) n) k + sumTo (pair f (ordOf ln z) k) n) := rfl
        have B : Hid (sumTo (fun i => sumTo (pair f (ordOf ln z) i) n) k ≤ k * n) := sumTo_le fun i _ => pairs_le _ _ _ _
        obtain ⟨t0, ht0⟩ : ∃ t0, t0 = sumTo (fun i => sumTo (pair f (ordOf ln z) i) n) k := ⟨_, rfl⟩
        rw [← ht0] at S B ⊢
        clear ht0
        have hb : t0 ≤ 90000 := by have := B.out; have : k * n ≤ 300 * 300 := Nat.mul_le_mul (by omega) hn; omega
        have LOW := hide (pairs_low f (ordOf ln z) k)
        go_wp2
        go_loopw [14, 16] (fun t i wr => ∃ j q : Nat, k < j ∧ j ≤ n ∧ i = .int .i64 j ∧ t = .int .i64 ((t0 + sumTo (pair f (ordOf ln z) k) j : Nat) : Int) ∧ wr = wb.drewN q) (fun _ i _ => n - (intOf i).toNat)
        case atStart => exact ⟨k + 1, q, by omega, by omega, by go_num, by rw [LOW.out, Nat.add_zero], rfl⟩
        case round =>
          obtain ⟨j, q, hkj, hj, rfl, rfl, rfl⟩ := hrel
          by_cases hjn : j < n
          · have S2 : Hid (sumTo (pair f (ordOf ln z) k) (j + 1) = sumTo (pair f (ordOf ln z) k) j + pair f (ordOf ln z) k j) := rfl
            have B2 : Hid (sumTo (pair f (ordOf ln z) k) j ≤ j * 1) := sumTo_le fun i _ => pair_le _ _ _ _
            obtain ⟨t1, ht1⟩ : ∃ t1, t1 = t0 + sumTo (pair f (ordOf ln z) k) j := ⟨_, rfl⟩
            have hb1 : t1 ≤ 91000 := by have := B2.out; omega
            have S3 : Hid (t0 + sumTo (pair f (ordOf ln z) k) (j + 1) = t1 + pair f (ordOf ln z) k j) := by show _ = _; rw [S2.out, ht1]; omega
            rw [← ht1]
            clear S2 B2 ht1
            have hp : pair f (ordOf ln z) k j = if f k || f j then (if less (z k) (ln k) (z j) (ln j) != less (z j) (ln j) (z k) (ln k) then 1 else 0) else 0 := by unfold pair; rw [if_pos hkj]; rfl
            rw [hp] at S3
            clear hp
            obtain ⟨bk, ok, hak, dk⟩ := HH4.out k hlt
            obtain ⟨bj, oj, haj, dj⟩ := HH4.out j hjn
            have xk := fun wx => idx31 (c := c1) hak hlt wx
            have xj := fun wx => idx31 (c := c1) haj hjn wx
            obtain ⟨fk, gk, hfk, ek⟩ := HA4.out k hlt
            obtain ⟨fj, gj, hfj, ej⟩ := HA4.out j hjn
            have yk := fun wx => idx32 (c := n) hfk hlt wx
            have yj := fun wx => idx32 (c := n) hfj hjn wx
            clear hak haj hfk hfj
            have L1 : Hid (∀ m, Calls Yba.prog 11 #[.slice (ad k) (ln k) (cp k), .slice (ad j) (ln j) (cp j)] (wb.drewN (q + m)) fun e w' => e = .returned (.bool (!less (z j) (ln j) (z k) (ln k))) ∧ ∃ m', w' = wb.drewN (q + m')) :=
              fun m => quiet_sum (le_any _ _ _ _ _ _ _ _ _ (HR4.out k hlt).1 (HR4.out j hjn).1 ((HR4.out k hlt).2.2.drewN _) ((HR4.out j hjn).2.2.drewN _))
            have L2 : Hid (∀ m, Calls Yba.prog 11 #[.slice (ad j) (ln j) (cp j), .slice (ad k) (ln k) (cp k)] (wb.drewN (q + m)) fun e w' => e = .returned (.bool (!less (z k) (ln k) (z j) (ln j))) ∧ ∃ m', w' = wb.drewN (q + m')) :=
              fun m => quiet_sum (le_any _ _ _ _ _ _ _ _ _ (HR4.out j hjn).1 (HR4.out k hlt).1 ((HR4.out j hjn).2.2.drewN _) ((HR4.out k hlt).2.2.drewN _))
            generalize less (z k) (ln k) (z j) (ln j) = x at *
            generalize less (z j) (ln j) (z k) (ln k) = y at *
            generalize f k = b1 at *
            generalize f j = b2 at *
            have go : b1 = false ∧ b2 = false ∨ (b1 || b2) = true := by cases b1 <;> cases b2 <;> simp
            rcases go with ⟨rfl, rfl⟩ | hor
            · go_wp2
              go_roundw
              case rel => exact ⟨j + 1, q, by omega, by omega, by go_num, by rw [S3.out]; rfl, rfl⟩
              case measure => simp [intOf]; omega
            · rw [if_pos hor] at S3
              cases b1 <;> cases b2 <;> first | (exact absurd hor (by decide)) | skip
              all_goals
                clear hor
                cases x <;> cases y
                all_goals
                  go_wp2
                  go_quiet (first | (go_at_call_of 11 ([Value.slice (ad k) (ln k) (cp k), Value.slice (ad j) (ln j) (cp j)]); exact L1.out _) | (go_at_call_of 11 ([Value.slice (ad j) (ln j) (cp j), Value.slice (ad k) (ln k) (cp k)]); exact L2.out _))
                  go_wp2
                  go_roundw
                  case rel => exact ⟨j + 1, _, by omega, by omega, by go_num, by rw [S3.out]; rfl, rfl⟩
                  case measure => simp [intOf]; omega
          · obtain rfl : j = n := by omega
            go_wp2
            go_roundw
            case rel => exact ⟨k + 1, q, by omega, by go_num, by rw [S.out], rfl⟩
            case measure => simp [intOf]; omega
      · obtain rfl : k = n := by omega
        go_wp2
        go_meet
        case rel => exact ⟨rfl, q, rfl⟩
  obtain ⟨rfl, q, hw⟩ := hcut
  subst hw
  go_wp2
  go_ret
  exact ⟨rfl, HBE.out.trans ⟨rfl, rfl, rfl, Nat.le_refl _, fun _ _ => rfl⟩⟩
end Go.Proofs.Ybulknju
