import Derived.Test.YbulknisFmtDec
import Derived.Deep.OwnRows
namespace Go.Proofs.YbulknisFmt
open Go.RowKit

theorem Below.then {w w1 w2 : World} (h : Below w.heap.size w w1) (h2 : Below w1.heap.size w1 w2) : Below w.heap.size w w2 := h.trans (h2.mono h.size)
theorem heap_set {w : World} {b o : Nat} {cur : Array Value} {t : TypeId} (h : w.heap[b]? = some (.cells cur t (0, 0))) (v : Value) : (w.setCell ⟨b, o, none⟩ v).heap[b]? = some (.cells (cur.setIfInBounds o v) t (0, 0)) :=
  heap_setCell_same w b o cur t v h
theorem free_blk {w : World} {b : Nat} {cs : Array Value} {t : TypeId} (h : w.heap[b]? = some (.cells cs t (0, 0))) (i : Nat) : w.frozen? ⟨b, i, none⟩ = false := frozen_of_row _ _ _ _ _ h

theorem heap_alloc3_new (w : World) (A B C : Obj) : (((w.alloc A).alloc B).alloc C).heap[w.heap.size + 2]? = some C := by
  have h := heap_alloc_new ((w.alloc A).alloc B) C
  have e : ((w.alloc A).alloc B).heap.size = w.heap.size + 2 := by simp
  rw [e] at h
  exact h

set_option maxHeartbeats 1000000 in
theorem add_any (a b : Int) (w : World) (ha : -4000000000000000 ≤ a) (ha' : a ≤ 4000000000000000) (hb : -4000000000000000 ≤ b) (hb' : b ≤ 4000000000000000) :
    Calls Ybaf.prog 19 #[dec a, dec b] w fun e w' => e = .returned (dec (a + b)) ∧ Below w.heap.size w w' := by
  have AL : Hid (∀ wx, Calls Ybaf.prog 34 #[.agg #[.int .i64 a, .int .i32 2], .agg #[.int .i64 b, .int .i32 2]] wx fun e w' => e = .returned (.tuple #[.int .i64 a, .int .i64 b, .int .i32 2]) ∧ Lays wx w') := fun wx => align_any a b wx
  unfold dec
  go_enter Ybaf.func19, Ybaf.ntmps19
  go_upto_region 1 with fail
  obtain ⟨W, eW⟩ : ∃ W, W = ((w.alloc (.cells #[.int .i64 a, .int .i32 2] 45)).alloc (.cells #[.int .i64 b, .int .i32 2] 45)).alloc (.cells #[.int .i64 0, .int .i32 0] 45) := ⟨_, rfl⟩
  have hL : Below w.heap.size w W := by rw [eW]; exact ((((Lays.refl w).alloc _).alloc _).alloc _).below
  have hR : W.heap[w.heap.size + 2]? = some (.cells #[.int .i64 0, .int .i32 0] 45) := by rw [eW]; exact heap_alloc3_new w _ _ _
  have h1 : W.heap[w.heap.size + 1]? = some (.cells #[.int .i64 b, .int .i32 2] 45) := by rw [eW, Below.heap_alloc _ _ _ (by simp)]; exact heap_alloc2_new w _ _
  have h0 : W.heap[w.heap.size]? = some (.cells #[.int .i64 a, .int .i32 2] 45) := by rw [eW, Below.heap_alloc _ _ _ (by simp; omega), Below.heap_alloc _ _ _ (by simp), heap_alloc_new]
  rw [← eW]
  clear eW
  have c0 := cell_blk (i := 0) h0 rfl
  have c1 := cell_blk (i := 1) h0 rfl
  have d0 := cell_blk (i := 0) h1 rfl
  have d1 := cell_blk (i := 1) h1 rfl
  have HL := hide hL
  have HRR := hide hR
  clear h0 h1 hR hL
  go_upto_region 2 with (go_at_call 34; refine (AL.out _).mono ?_; rintro e w' ⟨rfl, hl⟩)
  have hr := (hl.below.block _ (lt_of_block HRR.out)).trans HRR.out
  have e0 := cell_blk (i := 0) hr rfl
  have e1 := cell_blk (i := 1) hr rfl
  have f0 := free_blk hr 0
  have f1 := free_blk hr 1
  have HB := hide (Below.then HL.out hl.below)
  have HW := hide hr
  have hw : IntKind.i64.wrap (a + b) = a + b := by simp [IntKind.wrap, IntKind.signed, IntKind.bits]; omega
  clear hl hr c0 c1 d0 d1
  by_cases hp : 0 ≤ a <;> by_cases hq : 0 ≤ b <;> by_cases hs : 0 ≤ a + b
  all_goals
    first
    | (exfalso; omega)
    | (go_wp2
       try simp only [Exit.inBlock, Exit.then]
       refine bodyPost_ret (results_cell_row rfl _ _ (w.heap.size + 2) 45 _ _ _ rfl (heap_set (heap_set HW.out _) _) Ybaf.underlying45 rfl (by kernel_rfl)) rfl ?_
       exact ⟨rfl, (HB.out.setCell (p := ⟨w.heap.size + 2, 0, none⟩) (by simp) _).setCell (p := ⟨w.heap.size + 2, 1, none⟩) (by simp) _⟩)

set_option maxHeartbeats 1000000 in
theorem addHeld_any (a b : Int) (w : World) (ha : -4000000000000000 ≤ a) (ha' : a ≤ 99999999999999) (hb : -4000000000000000 ≤ b) (hb' : b ≤ 4000000000000000)
    (hg0 : w.cell? ⟨4, 0, none⟩ = some (.int .i64 99999999999999)) (hg1 : w.cell? ⟨4, 1, none⟩ = some (.int .i32 2)) :
    Calls Ybaf.prog 31 #[dec a, dec b] w fun e w' => e = .returned (dec (a + b)) ∧ Below w.heap.size w w' := by
  have hle : ¬ (0 < cI a 99999999999999) := by rcases cI_cases a 99999999999999 with ⟨_, h⟩ | ⟨_, h⟩ | ⟨_, h⟩ <;> omega
  have hlt := World.block_lt_of_cell? _ _ hg0
  have hlt' : (4 : Nat) < w.heap.size := hlt
  have CM : Hid (∀ wx, Calls Ybaf.prog 21 #[.agg #[.int .i64 a, .int .i32 2], .agg #[.int .i64 99999999999999, .int .i32 2]] wx fun e w' => e = .returned (.int .i64 (cI a 99999999999999)) ∧ Lays wx w') := fun wx => cmp_any a 99999999999999 wx
  have AD : Hid (∀ wx, Calls Ybaf.prog 19 #[.agg #[.int .i64 a, .int .i32 2], .agg #[.int .i64 b, .int .i32 2]] wx fun e w' => e = .returned (.agg #[.int .i64 (a + b), .int .i32 2]) ∧ Below wx.heap.size wx w') := fun wx => add_any a b wx ha (by omega) hb hb'
  generalize cI a 99999999999999 = r at *
  unfold dec
  go_enter Ybaf.func31, Ybaf.ntmps31
  go_upto_region 1 with fail
  obtain ⟨W, eW⟩ : ∃ W, W = ((w.alloc (.cells #[.int .i64 a, .int .i32 2] 45)).alloc (.cells #[.int .i64 b, .int .i32 2] 45)).alloc (.cells #[.int .i64 0, .int .i32 0] 45) := ⟨_, rfl⟩
  have hL : Below w.heap.size w W := by rw [eW]; exact ((((Lays.refl w).alloc _).alloc _).alloc _).below
  have hR : W.heap[w.heap.size + 2]? = some (.cells #[.int .i64 0, .int .i32 0] 45) := by rw [eW]; exact heap_alloc3_new w _ _ _
  have h1 : W.heap[w.heap.size + 1]? = some (.cells #[.int .i64 b, .int .i32 2] 45) := by rw [eW, Below.heap_alloc _ _ _ (by simp)]; exact heap_alloc2_new w _ _
  have h0 : W.heap[w.heap.size]? = some (.cells #[.int .i64 a, .int .i32 2] 45) := by rw [eW, Below.heap_alloc _ _ _ (by simp; omega), Below.heap_alloc _ _ _ (by simp), heap_alloc_new]
  rw [← eW]
  clear eW
  have g0 := (hL.cell hlt).trans hg0
  have g1 := (hL.cell (p := ⟨4, 1, none⟩) hlt).trans hg1
  have c0 := cell_blk (i := 0) h0 rfl
  have c1 := cell_blk (i := 1) h0 rfl
  have HL := hide hL
  have HRR := hide hR
  have H0 := hide h0
  have H1 := hide h1
  clear h0 h1 hR hL hg0 hg1
  go_upto_if 8 with (go_at_call 21; refine (CM.out _).mono ?_; rintro e w1 ⟨rfl, hl⟩)
  have hB1 := hl.below
  have e0 := cell_blk (i := 0) ((hB1.block _ (lt_of_block H0.out)).trans H0.out) rfl
  have e1 := cell_blk (i := 1) ((hB1.block _ (lt_of_block H0.out)).trans H0.out) rfl
  have e2 := cell_blk (i := 0) ((hB1.block _ (lt_of_block H1.out)).trans H1.out) rfl
  have e3 := cell_blk (i := 1) ((hB1.block _ (lt_of_block H1.out)).trans H1.out) rfl
  have HB1 := hide hB1
  clear hl hB1 c0 c1 g0 g1
  go_upto_region 3 with fail
  go_wp2_with (go_at_call 19; refine (AD.out _).mono ?_; rintro e w2 ⟨rfl, hb2⟩; have hr := (hb2.block _ (Nat.lt_of_lt_of_le (lt_of_block HRR.out) HB1.out.size)).trans ((HB1.out.block _ (lt_of_block HRR.out)).trans HRR.out); have q0 := cell_blk (i := 0) hr rfl; have q1 := cell_blk (i := 1) hr rfl; have f0 := free_blk hr 0; have f1 := free_blk hr 1; have HB2 := hide hb2; have HW := hide hr; clear hr hb2)
  try simp only [Exit.inBlock, Exit.then]
  refine bodyPost_ret (results_cell_row rfl _ _ (w.heap.size + 2) 45 _ _ _ rfl (heap_set (heap_set HW.out _) _) Ybaf.underlying45 rfl (by kernel_rfl)) rfl ?_
  exact ⟨rfl, ((Below.then (Below.then HL.out HB1.out) HB2.out).setCell (p := ⟨w.heap.size + 2, 0, none⟩) (by simp) _).setCell (p := ⟨w.heap.size + 2, 1, none⟩) (by simp) _⟩
end Go.Proofs.YbulknisFmt
