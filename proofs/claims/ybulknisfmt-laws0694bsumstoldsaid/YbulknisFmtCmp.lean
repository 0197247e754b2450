import Derived.Test.YbulknisFmtRows
import Derived.WalkKit
import Derived.WalkSpells
import Derived.WalkLawsBesides
import Derived.Deep.QuietTactic
import Derived.BigQuiet
import Derived.OneCell
import Derived.Deep.DeepCutAuto
import Derived.Deep.CutBlock
import Derived.OpenShut
import Derived.Deep.RegionWith
import Derived.Deep.RegionHeld3
import Derived.Shelf.SlSortCmp.QuietGrown
namespace Go.Proofs.YbulknisFmt
open Go.RowKit Go.Sort
theorem hide {p : Prop} (h : p) : Hid p := h

/-- The names by their rank in byte order; the funds. -/
def nm : Fin 4 → ByteArray
  | 0 => ⟨#[]⟩
  | 1 => ⟨#[65]⟩
  | 2 => ⟨#[66]⟩
  | 3 => ⟨#[97, 98]⟩
def fdn : Fin 3 → ByteArray
  | 0 => ⟨#[70, 49]⟩
  | 1 => ⟨#[70, 50]⟩
  | 2 => ⟨#[70, 51]⟩
def cI (a b : Int) : Int := if a < b then -1 else if b < a then 1 else 0
def cS (a b : ByteArray) : Int := if Op.bytesLess a.toList b.toList = true then -1 else if (!a.toList == b.toList) = true then 1 else 0
theorem cS_nm : ∀ i j : Fin 4, cS (nm i) (nm j) = cI i.val j.val := by decide +kernel
theorem cS_fdn : ∀ i j : Fin 3, cS (fdn i) (fdn j) = cI i.val j.val := by decide +kernel
def or3 (a b c : Int) : Int := if a ≠ 0 then a else if b ≠ 0 then b else c

set_option maxHeartbeats 400000 in
theorem isNaNS_any (a : ByteArray) (w : World) : Calls Ybaf.prog 71 #[.string a] w fun e w' => e = .returned (.bool false) ∧ w' = w := by
  go_enter Ybaf.func71, Ybaf.ntmps71
  go_wp2
  go_ret
  exact ⟨by simp, rfl⟩
set_option maxHeartbeats 400000 in
theorem isNaND_any (a : Int) (w : World) : Calls Ybaf.prog 70 #[.int .i32 a] w fun e w' => e = .returned (.bool false) ∧ w' = w := by
  go_enter Ybaf.func70, Ybaf.ntmps70
  go_wp2
  go_ret
  exact ⟨by simp, rfl⟩
set_option maxHeartbeats 400000 in
theorem cmpS_any (a b : ByteArray) (w : World) : Calls Ybaf.prog 50 #[.string a, .string b] w fun e w' => e = .returned (.int .i64 (cS a b)) ∧ w' = w := by
  unfold cS
  cases h1 : Op.bytesLess a.toList b.toList
  · cases h2 : (!a.toList == b.toList)
    all_goals
      go_enter Ybaf.func50, Ybaf.ntmps50
      go_wp2_with (go_at_call 71; refine (isNaNS_any _ _).mono ?_; rintro e w' ⟨rfl, rfl⟩)
      go_ret
      exact ⟨rfl, rfl⟩
  · go_enter Ybaf.func50, Ybaf.ntmps50
    go_wp2_with (go_at_call 71; refine (isNaNS_any _ _).mono ?_; rintro e w' ⟨rfl, rfl⟩)
    go_ret
    exact ⟨rfl, rfl⟩
set_option maxHeartbeats 400000 in
theorem cmpD_any (a b : Int) (w : World) : Calls Ybaf.prog 49 #[.int .i32 a, .int .i32 b] w fun e w' => e = .returned (.int .i64 (cI a b)) ∧ w' = w := by
  by_cases h1 : a < b
  · have h0 : cI a b = -1 := by simp [cI, h1]
    rw [h0]
    clear h0
    go_enter Ybaf.func49, Ybaf.ntmps49
    go_wp2_with (go_at_call 70; refine (isNaND_any _ _).mono ?_; rintro e w' ⟨rfl, rfl⟩)
    go_ret
    exact ⟨rfl, rfl⟩
  · by_cases h2 : b < a
    · have h0 : cI a b = 1 := by simp [cI, h1, h2]
      rw [h0]
      clear h0
      go_enter Ybaf.func49, Ybaf.ntmps49
      go_wp2_with (go_at_call 70; refine (isNaND_any _ _).mono ?_; rintro e w' ⟨rfl, rfl⟩)
      go_ret
      exact ⟨rfl, rfl⟩
    · have h0 : cI a b = 0 := by simp [cI, h1, h2]
      rw [h0]
      clear h0
      go_enter Ybaf.func49, Ybaf.ntmps49
      go_wp2_with (go_at_call 70; refine (isNaND_any _ _).mono ?_; rintro e w' ⟨rfl, rfl⟩)
      go_ret
      exact ⟨rfl, rfl⟩

theorem or3_at {f : Nat → Int} {k : Nat} (hk : k < 3) (h : ∀ j, j < k → f j = 0) (h0 : ¬ f k = 0) : or3 (f 0) (f 1) (f 2) = f k := by
  unfold or3
  rcases (show k = 0 ∨ k = 1 ∨ k = 2 by omega) with rfl | rfl | rfl
  · simp [h0]
  · simp [h 0 (by omega), h0]
  · simp [h 0 (by omega), h 1 (by omega)]
theorem or3_none {f : Nat → Int} (h : ∀ j, j < 3 → f j = 0) : or3 (f 0) (f 1) (f 2) = 0 := by unfold or3; simp [h 0 (by omega), h 1 (by omega), h 2 (by omega)]

theorem sizeOf3 (w : World) : (sizeOf 3).run Ybaf.prog w = .ok 1 w := by kernel_rfl
theorem idx128 {b n c : Nat} {k : Nat} (hk : k < n) (w : World) : (Instr.indexAt 128 (.slice (some ⟨b, 0, none⟩) n c) (.int .i64 k)).run Ybaf.prog w = .ok (.pointer (some ⟨b, k, none⟩)) w := by
  rw [run_indexAt_slice (h := by kernel_rfl), if_pos (by omega)]
  have e : Ybaf.prog.elem 128 = 3 := by kernel_rfl
  rw [e, sizeOf3]
  simp [Addr.add]
  try omega

set_option maxHeartbeats 400000 in
theorem or_any (b : Nat) (f : Nat → Int) (w : World) (h : ∀ k, k < 3 → w.cell? ⟨b, k, none⟩ = some (.int .i64 (f k))) :
    Calls Ybaf.prog 47 #[.slice (some ⟨b, 0, none⟩) 3 3] w fun e w' => e = .returned (.int .i64 (or3 (f 0) (f 1) (f 2))) ∧ w' = w := by
  have H := hide h
  clear h
  go_enter Ybaf.func47, Ybaf.ntmps47
  go_wp2
  go_loop [5, 8] (fun _ i => ∃ k : Nat, k ≤ 3 ∧ i = .int .i64 k ∧ ∀ j, j < k → f j = 0) (fun _ i => 3 - (intOf i).toNat)
  case atStart => exact ⟨0, by omega, rfl, fun j hj => by omega⟩
  case round =>
    obtain ⟨k, hk, rfl, hz⟩ := hrel
    have HZ := hide hz
    clear hz
    by_cases hlt : k < 3
    · have hc := H.out k hlt
      have hidx := fun wx => idx128 (b := b) (n := 3) (c := 3) hlt wx
      by_cases h0 : f k = 0
      · have hb : (f k != 0) = false := by simp [h0]
        have H0 := hide h0
        clear h0
        go_wp2
        go_round
        case rel => exact ⟨k + 1, by omega, by go_num, fun j hj => by rcases Nat.lt_succ_iff_lt_or_eq.1 hj with h | rfl; exact HZ.out j h; exact H0.out⟩
        case measure => simp [intOf]; omega
      · have hb : (f k != 0) = true := by simp [h0]
        have H0 := hide h0
        clear h0
        go_wp2
        go_ret
        exact ⟨congrArg (fun b => Ending.returned (.int .i64 b)) (or3_at hlt HZ.out H0.out).symm, rfl⟩
    · obtain rfl : k = 3 := by omega
      go_wp2
      go_ret
      exact ⟨congrArg (fun b => Ending.returned (.int .i64 b)) (or3_none HZ.out).symm, rfl⟩

/-- What a call lays: some draws, some blocks behind. -/
def Lays (w w' : World) : Prop := ∃ q os, w' = grow (w.drewN q) os
theorem Lays.refl (w : World) : Lays w w := ⟨0, #[], by rw [grow_empty]; rfl⟩
theorem Lays.trans {w w1 w2 : World} (h : Lays w w1) (h' : Lays w1 w2) : Lays w w2 := by
  obtain ⟨q, os, rfl⟩ := h
  obtain ⟨q', os', rfl⟩ := h'
  exact ⟨q + q', os ++ os', by show grow (grow ((w.drewN q).drewN q') os) os' = _; rw [grow_grow, World.drewN_drewN]⟩
theorem Lays.alloc {w w1 : World} (h : Lays w w1) (o : Obj) : Lays w (w1.alloc o) := h.trans ⟨0, #[o], by rw [alloc_eq_grow]; rfl⟩
theorem Lays.drewN {w w1 : World} (h : Lays w w1) (q : Nat) : Lays w (w1.drewN q) := h.trans ⟨q, #[], by rw [grow_empty]⟩
theorem Lays.below {w w' : World} (h : Lays w w') : Below w.heap.size w w' := by
  obtain ⟨q, os, rfl⟩ := h
  exact ⟨rfl, rfl, rfl, by simp, fun k hk => by rw [heap_grow_old _ _ (by exact hk)]; rfl⟩

set_option maxHeartbeats 400000 in
/-- The holding of a lot. -/
theorem holding_any (a g f i : ByteArray) (r s c : Int) (w : World) :
    Calls Ybaf.prog 18 #[.agg #[.string a, .string g, .string f, .int .i32 r, .string i, .int .i64 s, .int .i32 c]] w fun e w' => e = .returned (.agg #[.string a, .string g, .string f]) ∧ Lays w w' := by
  go_enter Ybaf.func18, Ybaf.ntmps18
  go_wp2
  try simp only [Exit.inBlock, Exit.then]
  refine bodyPost_ret (results_cell_row rfl _ _ (w.heap.size + 1) 56 _ _ _ rfl (heap_alloc2_new w _ _) Ybaf.underlying56 rfl (by kernel_rfl)) rfl ?_
  exact ⟨rfl, ((Lays.refl w).alloc _).alloc _⟩
end Go.Proofs.YbulknisFmt
