import Derived.Test.YbulknjuRows
import Derived.Test.YbulknjuPairs
import Derived.WalkKit
import Derived.WalkSpells
import Derived.WalkLawsBesides
import Derived.Deep.QuietTactic
import Derived.BigQuiet
import Derived.OneCell
import Derived.Deep.DeepCutAuto
import Derived.Deep.CutBlock
import Derived.OpenShut
import Derived.Deep.RegionWith
namespace Go.Proofs.Ybulknju
open Go.RowKit

theorem hide {p : Prop} (h : p) : Hid p := h

/-- A slice of numbers: entry k lies where the slice's address says. -/
def RowU (w : World) (a : Option Addr) (n : Nat) (z : Nat → Int) : Prop := ∀ k, k < n → ∃ b off, a = some ⟨b, off, none⟩ ∧ w.cell? ⟨b, off + k, none⟩ = some (.int .u64 (z k)) ∧ 0 ≤ z k
theorem RowU.drewN {w : World} {a : Option Addr} {n : Nat} {z : Nat → Int} (h : RowU w a n z) (q : Nat) : RowU (w.drewN q) a n z := fun k hk => by
  obtain ⟨b, off, e, hc, h0⟩ := h k hk
  exact ⟨b, off, e, by simpa using hc, h0⟩
theorem RowU.grow {w w' : World} {a : Option Addr} {n : Nat} {z : Nat → Int} (h : RowU w a n z) (hb : Below w.heap.size w w') : RowU w' a n z := fun k hk => by
  obtain ⟨b, off, e, hc, h0⟩ := h k hk
  exact ⟨b, off, e, (hb.cell (World.block_lt_of_cell? w _ hc)).trans hc, h0⟩

theorem sizeOf85 (w : World) : (sizeOf 85).run Yba.prog w = .ok 1 w := by kernel_rfl
theorem idx35 {a : Option Addr} {b off n c : Nat} {k : Nat} (ha : a = some ⟨b, off, none⟩) (hk : k < n) (w : World) : (Instr.indexAt 35 (.slice a n c) (.int .i64 k)).run Yba.prog w = .ok (.pointer (some ⟨b, off + k, none⟩)) w := by
  subst ha
  rw [run_indexAt_slice (h := by kernel_rfl), if_pos (by omega)]
  have e : Yba.prog.elem 35 = 85 := by kernel_rfl
  rw [e, sizeOf85]
  simp [Addr.add]
theorem idx33 {a : Option Addr} {b off n c : Nat} {k : Nat} (ha : a = some ⟨b, off, none⟩) (hk : k < n) (w : World) : (Instr.indexAt 33 (.slice a n c) (.int .i64 k)).run Yba.prog w = .ok (.pointer (some ⟨b, off + k, none⟩)) w := by
  subst ha
  rw [run_indexAt_slice (h := by kernel_rfl), if_pos (by omega)]
  have e : Yba.prog.elem 33 = 85 := by kernel_rfl
  rw [e, sizeOf85]
  simp [Addr.add]

/-- 'x[k:]' of a clock. -/
def restOf (a : Option Addr) (c k : Nat) : Option Addr := if c = k then a else a.map (·.add k)
theorem slice35 (a : Option Addr) (n c k : Nat) (hk : k ≤ n) (w : World) : (Instr.slice 35 (.slice a n c) (some (.int .i64 k)) none none).run Yba.prog w = .ok (.slice (restOf a c k) (n - k) (c - k)) w := by
  have hu : Yba.prog.underlying 35 = some (.slice 85) := by kernel_rfl
  simp [restOf, Instr.slice, run_underlying hu, Instr.sliceBounds, Instr.sliceBound, asIntOf, go_sem]
  intro h
  omega
theorem RowU.rest {w : World} {a : Option Addr} {n c : Nat} {z : Nat → Int} (h : RowU w a n z) (k : Nat) (hk : k ≤ n) (hn : n ≤ c) : RowU w (restOf a c k) (n - k) (fun i => z (k + i)) := by
  intro i hi
  obtain ⟨b, off, rfl, hc, h0⟩ := h (k + i) (by omega)
  refine ⟨b, off + k, ?_, by rw [Nat.add_assoc]; exact hc, h0⟩
  unfold restOf
  rw [if_neg (by omega)]
  simp [Addr.add]

set_option maxHeartbeats 400000 in
theorem isZero_any (a : Option Addr) (n c : Nat) (z : Nat → Int) (w : World) (hn : n ≤ 1024) (h : RowU w a n z) :
    Calls Yba.prog 38 #[.slice a n c] w fun e w' => e = .returned (.bool (zeroB z n)) ∧ w' = w := by
  have H := hide h
  clear h
  go_enter Yba.func38, Yba.ntmps38
  go_wp2
  go_loop [4, 7] (fun _ i => ∃ k : Nat, k ≤ n ∧ i = .int .i64 k ∧ ∀ j, j < k → z j = 0) (fun _ i => n - (intOf i).toNat)
  case atStart => exact ⟨0, by omega, rfl, fun j hj => by omega⟩
  case round =>
    obtain ⟨k, hk, rfl, hz⟩ := hrel
    have HZ := hide hz
    clear hz
    by_cases hlt : k < n
    · obtain ⟨b, off, ha, hc, _⟩ := H.out k hlt
      have hidx := fun wx => idx35 (c := c) ha hlt wx
      clear ha
      by_cases h0 : z k = 0
      · have hb : (z k != 0) = false := by simp [h0]
        have H0 := hide h0
        clear h0
        go_wp2
        go_round
        case rel => exact ⟨k + 1, by omega, by go_num, fun j hj => by rcases Nat.lt_succ_iff_lt_or_eq.1 hj with h | rfl; exact HZ.out j h; exact H0.out⟩
        case measure => simp [intOf]; omega
      · have hb : (z k != 0) = true := by simp [h0]
        have H0 := hide h0
        clear h0
        go_wp2
        go_ret
        exact ⟨congrArg (fun b => Ending.returned (.bool b)) (zeroB_false hlt H0.out).symm, rfl⟩
    · obtain rfl : k = n := by omega
      go_wp2
      go_ret
      exact ⟨congrArg (fun b => Ending.returned (.bool b)) (zeroB_true.2 HZ.out).symm, rfl⟩

/-- The four words. -/
def word (aL bL : Bool) : ByteArray := if aL then (if bL then ⟨#[99, 111, 110, 99, 117, 114, 114, 101, 110, 116]⟩ else ⟨#[98, 101, 102, 111, 114, 101]⟩) else (if bL then ⟨#[97, 102, 116, 101, 114]⟩ else ⟨#[115, 97, 109, 101]⟩)
set_option maxHeartbeats 400000 in
theorem relation_any (aL bL : Bool) (w : World) : Calls Yba.prog 39 #[.bool aL, .bool bL] w fun e w' => e = .returned (.string (word aL bL)) ∧ w' = w := by
  cases aL <;> cases bL
  all_goals
    go_enter Yba.func39, Yba.ntmps39
    go_wp2
    go_ret
    exact ⟨rfl, rfl⟩

theorem ent_in {z : Nat → Int} {n i : Nat} (h : i < n) : ent z n i = z i := by simp [ent, h]

set_option maxHeartbeats 2000000 in
theorem compare_any (a1 a2 : Option Addr) (n1 c1 n2 c2 : Nat) (z1 z2 : Nat → Int) (w : World) (h1 : n1 ≤ 1024) (h2 : n2 ≤ 1024) (hc1 : n1 ≤ c1) (hc2 : n2 ≤ c2) (r1 : RowU w a1 n1 z1) (r2 : RowU w a2 n2 z2) :
    Calls Yba.prog 20 #[.slice a1 n1 c1, .slice a2 n2 c2] w fun e w' => e = .returned (.string (word (less z1 n1 z2 n2) (less z2 n2 z1 n1))) ∧ ∃ q, w' = w.drewN q := by
  obtain ⟨mn, hmn⟩ : ∃ mn, mn = min n1 n2 := ⟨_, rfl⟩
  have HM := hide hmn
  have hm1 : mn ≤ n1 := by omega
  have hm2 : mn ≤ n2 := by omega
  have hl1 : less z1 n1 z2 n2 = (lessTo z1 n1 z2 n2 mn || !zeroB (fun k => z2 (mn + k)) (n2 - mn)) := by
    rw [hmn]; exact less_rest z1 n1 z2 n2 (fun i hi => by obtain ⟨_, _, _, _, h⟩ := r1 i hi; exact h) (fun i hi => by obtain ⟨_, _, _, _, h⟩ := r2 i hi; exact h)
  have hl2 : less z2 n2 z1 n1 = (lessTo z2 n2 z1 n1 mn || !zeroB (fun k => z1 (mn + k)) (n1 - mn)) := by
    rw [hmn, Nat.min_comm]; exact less_rest z2 n2 z1 n1 (fun i hi => by obtain ⟨_, _, _, _, h⟩ := r2 i hi; exact h) (fun i hi => by obtain ⟨_, _, _, _, h⟩ := r1 i hi; exact h)
  rw [hl1, hl2]
  have R1 := hide r1
  have R2 := hide r2
  clear hmn hl1 hl2 r1 r2
  go_enter Yba.func20, Yba.ntmps20
  go_upto_region 2 with fail
  go_cut [7] (fun v wx => v = .int .i64 mn ∧ wx = w)
  case first =>
    by_cases hle : n1 ≤ n2
    · have e : mn = n1 := by have := HM.out; omega
      subst e
      go_wp2
      all_goals
        go_meet
        case rel => exact ⟨by go_num, rfl⟩
    · have e : mn = n2 := by have := HM.out; omega
      subst e
      go_wp2
      all_goals
        go_meet
        case rel => exact ⟨by go_num, rfl⟩
  obtain ⟨hv, hw⟩ := hcut
  replace hw := hw.symm
  subst hw
  subst hv
  go_upto_block 0 with fail
  go_cut [5, 6, 8, 15] (fun aL bL _ _ wx => aL = .bool (lessTo z1 n1 z2 n2 mn) ∧ bL = .bool (lessTo z2 n2 z1 n1 mn) ∧ ∃ q, wx = w.drewN q)
  case first =>
    go_wp2
    go_loopw [5, 6, 8, 15] (fun aL bL _ i wr => ∃ k q : Nat, k ≤ mn ∧ i = .int .i64 k ∧ aL = .bool (lessTo z1 n1 z2 n2 k) ∧ bL = .bool (lessTo z2 n2 z1 n1 k) ∧ wr = w.drewN q) (fun _ _ _ i _ => mn - (intOf i).toNat)
    case atStart => exact ⟨0, 0, by omega, rfl, rfl, rfl, rfl⟩
    case round =>
      obtain ⟨k, q, hk, rfl, rfl, rfl, rfl⟩ := hrel
      by_cases hlt : k < mn
      · obtain ⟨b1, o1, ha1, d1, _⟩ := R1.out k (by omega)
        obtain ⟨b2, o2, ha2, d2, _⟩ := R2.out k (by omega)
        have x1 := fun wx => idx35 (c := c1) (n := n1) (k := k) ha1 (by omega) wx
        have x2 := fun wx => idx35 (c := c2) (n := n2) (k := k) ha2 (by omega) wx
        have S1 : Hid (lessTo z1 n1 z2 n2 (k + 1) = (lessTo z1 n1 z2 n2 k || decide (z1 k < z2 k))) := by have := lessTo_succ z1 n1 z2 n2 k; rw [ent_in (by omega), ent_in (by omega)] at this; exact this
        have S2 : Hid (lessTo z2 n2 z1 n1 (k + 1) = (lessTo z2 n2 z1 n1 k || decide (z2 k < z1 k))) := by have := lessTo_succ z2 n2 z1 n1 k; rw [ent_in (by omega), ent_in (by omega)] at this; exact this
        clear ha1 ha2
        generalize lessTo z1 n1 z2 n2 k = l1 at *
        generalize lessTo z2 n2 z1 n1 k = l2 at *
        obtain ⟨y1, hy1⟩ : ∃ y, y = z1 k := ⟨_, rfl⟩
        obtain ⟨y2, hy2⟩ : ∃ y, y = z2 k := ⟨_, rfl⟩
        rw [← hy1, ← hy2] at S1 S2
        rw [← hy1] at d1
        rw [← hy2] at d2
        clear hy1 hy2
        by_cases hc : y1 < y2
        · go_wp2
          go_quiet (fail)
          go_wp2
          go_roundw
          case rel => exact ⟨k + 1, q + nq, by omega, by go_num, by rw [S1.out, decide_eq_true (p := y1 < y2) hc, Bool.or_true], by rw [S2.out, decide_eq_false (p := y2 < y1) (by omega), Bool.or_false], rfl⟩
          case measure => simp [intOf]; omega
        · by_cases hd : y2 < y1
          · go_wp2
            go_quiet (fail)
            go_wp2
            go_quiet (fail)
            go_wp2
            go_roundw
            case rel => exact ⟨k + 1, _, by omega, by go_num, by rw [S1.out, decide_eq_false (p := y1 < y2) (by omega), Bool.or_false], by first | rw [S2.out, decide_eq_true (p := y2 < y1) (by omega), Bool.or_true] | rw [S2.out, decide_eq_false (p := y2 < y1) (by omega), Bool.or_false], rfl⟩
            case measure => simp [intOf]; omega
          · go_wp2
            go_quiet (fail)
            go_wp2
            go_quiet (fail)
            go_wp2
            go_roundw
            case rel => exact ⟨k + 1, _, by omega, by go_num, by rw [S1.out, decide_eq_false (p := y1 < y2) (by omega), Bool.or_false], by first | rw [S2.out, decide_eq_true (p := y2 < y1) (by omega), Bool.or_true] | rw [S2.out, decide_eq_false (p := y2 < y1) (by omega), Bool.or_false], rfl⟩
            case measure => simp [intOf]; omega
      · obtain rfl : k = mn := by omega
        go_wp2
        go_meet
        case rel => exact ⟨rfl, rfl, q, rfl⟩
  obtain ⟨hv1, hv2, q, hw⟩ := hcut
  subst hw
  subst hv1
  subst hv2
  have sl1 := fun wx => slice35 a1 n1 c1 mn hm1 wx
  have sl2 := fun wx => slice35 a2 n2 c2 mn hm2 wx
  have I1 := fun wx (hr : RowU wx a1 n1 z1) => isZero_any (restOf a1 c1 mn) (n1 - mn) (c1 - mn) (fun i => z1 (mn + i)) wx (by omega) (hr.rest mn hm1 hc1)
  have I2 := fun wx (hr : RowU wx a2 n2 z2) => isZero_any (restOf a2 c2 mn) (n2 - mn) (c2 - mn) (fun i => z2 (mn + i)) wx (by omega) (hr.rest mn hm2 hc2)
  have HI1 := hide I1
  have HI2 := hide I2
  clear I1 I2
  cases E1 : lessTo z1 n1 z2 n2 mn <;> cases E2 : lessTo z2 n2 z1 n1 mn <;> cases E3 : zeroB (fun k => z1 (mn + k)) (n1 - mn) <;> cases E4 : zeroB (fun k => z2 (mn + k)) (n2 - mn)
  all_goals
    go_wp2_with (first | (go_at_call 39; refine (relation_any _ _ _).mono ?_; rintro e w' ⟨rfl, rfl⟩) | (go_at_call_of 38 (Value.slice (restOf a1 c1 mn) (n1 - mn) (c1 - mn)); refine (HI1.out _ (R1.out.drewN _)).mono ?_; rintro e w' ⟨rfl, rfl⟩) | (go_at_call_of 38 (Value.slice (restOf a2 c2 mn) (n2 - mn) (c2 - mn)); refine (HI2.out _ (R2.out.drewN _)).mono ?_; rintro e w' ⟨rfl, rfl⟩))
    go_ret
    exact ⟨by rw [E1, E2, E3, E4]; rfl, q, rfl⟩
end Go.Proofs.Ybulknju
