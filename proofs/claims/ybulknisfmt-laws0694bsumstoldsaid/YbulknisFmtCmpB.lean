import Derived.Test.YbulknisFmtCmp
namespace Go.Proofs.YbulknisFmt
open Go.RowKit Go.Sort

/-- A block of the call's own, known whole. -/
theorem cell_blk {w : World} {b i : Nat} {cs : Array Value} {t : TypeId} {v : Value} (h : w.heap[b]? = some (.cells cs t (0, 0))) (hv : cs[i]? = some v) : w.cell? ⟨b, i, none⟩ = some v := by
  rw [cell_of_row _ _ _ _ t (0, 0) h]; exact hv

theorem Lays.drew {w w1 : World} (h : Lays w w1) : Lays w w1.drew := h.drewN 1
theorem or_new (x y z : Int) (W : World) : Calls Ybaf.prog 47 #[.slice (some ⟨W.heap.size, 0, none⟩) 3 3] (W.alloc (.cells #[.int .i64 x, .int .i64 y, .int .i64 z] 3)).drew fun e w' => e = .returned (.int .i64 (or3 x y z)) ∧ w' = (W.alloc (.cells #[.int .i64 x, .int .i64 y, .int .i64 z] 3)).drew :=
  or_any W.heap.size (fun k => if k = 0 then x else if k = 1 then y else z) _ fun k hk => by
    refine cell_blk (t := 3) (cs := #[.int .i64 x, .int .i64 y, .int .i64 z]) (heap_alloc_new W _) ?_
    rcases (show k = 0 ∨ k = 1 ∨ k = 2 by omega) with rfl | rfl | rfl <;> rfl

set_option maxHeartbeats 2000000 in
theorem cmpH_any (a g f a' g' f' : ByteArray) (w : World) :
    Calls Ybaf.prog 48 #[.agg #[.string a, .string g, .string f], .agg #[.string a', .string g', .string f']] w fun e w' => e = .returned (.int .i64 (or3 (cS a a') (cS g g') (cS f f'))) ∧ Lays w w' := by
  generalize hx : cS a a' = x
  generalize hy : cS g g' = y
  generalize hz : cS f f' = z
  go_enter Ybaf.func48, Ybaf.ntmps48
  go_upto_region 1 with fail
  have h0 := heap_alloc2_new w (.cells #[.string a, .string g, .string f] 56) (.cells #[.string a', .string g', .string f'] 56)
  have h1 : ((w.alloc (.cells #[.string a, .string g, .string f] 56)).alloc (.cells #[.string a', .string g', .string f'] 56)).heap[w.heap.size]? = some (.cells #[.string a, .string g, .string f] 56) := by
    rw [Below.heap_alloc _ _ _ (by simp), heap_alloc_new]
  have L0 : Hid (Lays w ((w.alloc (.cells #[.string a, .string g, .string f] 56)).alloc (.cells #[.string a', .string g', .string f'] 56))) := ((Lays.refl w).alloc _).alloc _
  obtain ⟨W, eW⟩ : ∃ W, W = (w.alloc (.cells #[.string a, .string g, .string f] 56)).alloc (.cells #[.string a', .string g', .string f'] 56) := ⟨_, rfl⟩
  rw [← eW] at h0 h1 L0 ⊢
  clear eW
  have c0 := cell_blk (i := 0) h1 rfl
  have c1 := cell_blk (i := 1) h1 rfl
  have c2 := cell_blk (i := 2) h1 rfl
  have d0 := cell_blk (i := 0) h0 rfl
  have d1 := cell_blk (i := 1) h0 rfl
  have d2 := cell_blk (i := 2) h0 rfl
  obtain ⟨B, eB⟩ : ∃ B, B = w.heap.size := ⟨_, rfl⟩
  rw [← eB] at c0 c1 c2 d0 d1 d2 ⊢
  obtain ⟨B', eB'⟩ : ∃ B', B' = B + 1 := ⟨_, rfl⟩
  rw [← eB'] at d0 d1 d2 ⊢
  clear eB eB' h0 h1
  have := World.new_ne W _ c0
  have := World.new_ne W _ c1
  have := World.new_ne W _ c2
  have := World.new_ne W _ d0
  have := World.new_ne W _ d1
  have := World.new_ne W _ d2
  have C1 : Hid (∀ wx, Calls Ybaf.prog 50 #[.string a, .string a'] wx fun e w' => e = .returned (.int .i64 x) ∧ w' = wx) := fun wx => by rw [← hx]; exact cmpS_any _ _ wx
  have C2 : Hid (∀ wx, Calls Ybaf.prog 50 #[.string g, .string g'] wx fun e w' => e = .returned (.int .i64 y) ∧ w' = wx) := fun wx => by rw [← hy]; exact cmpS_any _ _ wx
  have C3 : Hid (∀ wx, Calls Ybaf.prog 50 #[.string f, .string f'] wx fun e w' => e = .returned (.int .i64 z) ∧ w' = wx) := fun wx => by rw [← hz]; exact cmpS_any _ _ wx
  clear hx hy hz
  go_region_held3 (fun w' => w'.cell? ⟨B, 0, none⟩ = some (.string a) ∧ w'.cell? ⟨B, 1, none⟩ = some (.string g) ∧ w'.cell? ⟨B, 2, none⟩ = some (.string f) ∧ w'.cell? ⟨B', 0, none⟩ = some (.string a') ∧ w'.cell? ⟨B', 1, none⟩ = some (.string g') ∧ w'.cell? ⟨B', 2, none⟩ = some (.string f')) (go_keep)
    (first | (go_at_call_of 50 ([Value.string a, Value.string a']); refine (C1.out _).mono ?_; rintro e w' ⟨rfl, rfl⟩) | (go_at_call_of 50 ([Value.string g, Value.string g']); refine (C2.out _).mono ?_; rintro e w' ⟨rfl, rfl⟩) | (go_at_call_of 50 ([Value.string f, Value.string f']); refine (C3.out _).mono ?_; rintro e w' ⟨rfl, rfl⟩) | (go_at_call 47; refine (or_new x y z W).mono ?_; rintro e w' ⟨rfl, rfl⟩))
  go_wp2
  go_ret
  exact ⟨rfl, (L0.out.alloc _).drew⟩
theorem or_new' (x y z : Int) (W : World) : Calls Ybaf.prog 47 #[.slice (some ⟨W.heap.size, 0, none⟩) 3 3] (W.alloc (.cells #[.int .i64 x, .int .i64 y, .int .i64 z] 3)) fun e w' => e = .returned (.int .i64 (or3 x y z)) ∧ w' = (W.alloc (.cells #[.int .i64 x, .int .i64 y, .int .i64 z] 3)) :=
  or_any W.heap.size (fun k => if k = 0 then x else if k = 1 then y else z) _ fun k hk => by
    refine cell_blk (t := 3) (cs := #[.int .i64 x, .int .i64 y, .int .i64 z]) (heap_alloc_new W _) ?_
    rcases (show k = 0 ∨ k = 1 ∨ k = 2 by omega) with rfl | rfl | rfl <;> rfl

set_option maxHeartbeats 4000000 in
theorem cmpL_any (a g f i a' g' f' i' : ByteArray) (r s c r' s' c' : Int) (w : World) :
    Calls Ybaf.prog 33 #[.agg #[.string a, .string g, .string f, .int .i32 r, .string i, .int .i64 s, .int .i32 c], .agg #[.string a', .string g', .string f', .int .i32 r', .string i', .int .i64 s', .int .i32 c']] w
      fun e w' => e = .returned (.int .i64 (or3 (or3 (cS a a') (cS g g') (cS f f')) (cI r r') (cS i i'))) ∧ Lays w w' := by
  generalize hx : or3 (cS a a') (cS g g') (cS f f') = x
  generalize hy : cI r r' = y
  generalize hz : cS i i' = z
  go_enter Ybaf.func33, Ybaf.ntmps33
  go_upto_region 1 with fail
  have h0 := heap_alloc2_new w (.cells #[.string a, .string g, .string f, .int .i32 r, .string i, .int .i64 s, .int .i32 c] 48) (.cells #[.string a', .string g', .string f', .int .i32 r', .string i', .int .i64 s', .int .i32 c'] 48)
  have h1 : ((w.alloc (.cells #[.string a, .string g, .string f, .int .i32 r, .string i, .int .i64 s, .int .i32 c] 48)).alloc (.cells #[.string a', .string g', .string f', .int .i32 r', .string i', .int .i64 s', .int .i32 c'] 48)).heap[w.heap.size]? = some (.cells #[.string a, .string g, .string f, .int .i32 r, .string i, .int .i64 s, .int .i32 c] 48) := by
    rw [Below.heap_alloc _ _ _ (by simp), heap_alloc_new]
  have L0 : Hid (Lays w ((w.alloc (.cells #[.string a, .string g, .string f, .int .i32 r, .string i, .int .i64 s, .int .i32 c] 48)).alloc (.cells #[.string a', .string g', .string f', .int .i32 r', .string i', .int .i64 s', .int .i32 c'] 48))) := ((Lays.refl w).alloc _).alloc _
  obtain ⟨W, eW⟩ : ∃ W, W = (w.alloc (.cells #[.string a, .string g, .string f, .int .i32 r, .string i, .int .i64 s, .int .i32 c] 48)).alloc (.cells #[.string a', .string g', .string f', .int .i32 r', .string i', .int .i64 s', .int .i32 c'] 48) := ⟨_, rfl⟩
  rw [← eW] at h0 h1 L0 ⊢
  clear eW
  obtain ⟨B, eB⟩ : ∃ B, B = w.heap.size := ⟨_, rfl⟩
  rw [← eB] at h0 h1 ⊢
  obtain ⟨B', eB'⟩ : ∃ B', B' = B + 1 := ⟨_, rfl⟩
  rw [← eB'] at h0 ⊢
  clear eB eB'
  have C1 : Hid (∀ wx, Lays W wx → Calls Ybaf.prog 18 #[.agg #[.string a, .string g, .string f, .int .i32 r, .string i, .int .i64 s, .int .i32 c]] wx fun e w' => e = .returned (.agg #[.string a, .string g, .string f]) ∧ Lays W w') := fun wx hl => (holding_any a g f i r s c wx).mono fun _ _ ⟨he, h⟩ => ⟨he, hl.trans h⟩
  have C2 : Hid (∀ wx, Lays W wx → Calls Ybaf.prog 18 #[.agg #[.string a', .string g', .string f', .int .i32 r', .string i', .int .i64 s', .int .i32 c']] wx fun e w' => e = .returned (.agg #[.string a', .string g', .string f']) ∧ Lays W w') := fun wx hl => (holding_any a' g' f' i' r' s' c' wx).mono fun _ _ ⟨he, h⟩ => ⟨he, hl.trans h⟩
  have C3 : Hid (∀ wx, Lays W wx → Calls Ybaf.prog 48 #[.agg #[.string a, .string g, .string f], .agg #[.string a', .string g', .string f']] wx fun e w' => e = .returned (.int .i64 x) ∧ Lays W w') := fun wx hl => by rw [← hx]; exact (cmpH_any a g f a' g' f' wx).mono fun _ _ ⟨he, h⟩ => ⟨he, hl.trans h⟩
  have C4 : Hid (∀ wx, Calls Ybaf.prog 49 #[.int .i32 r, .int .i32 r'] wx fun e w' => e = .returned (.int .i64 y) ∧ w' = wx) := fun wx => by rw [← hy]; exact cmpD_any _ _ wx
  have C5 : Hid (∀ wx, Calls Ybaf.prog 50 #[.string i, .string i'] wx fun e w' => e = .returned (.int .i64 z) ∧ w' = wx) := fun wx => by rw [← hz]; exact cmpS_any _ _ wx
  have KS : Hid (∀ wx, Lays W wx → (wx.cell? ⟨B, 0, none⟩ = some (.string a) ∧ wx.cell? ⟨B, 1, none⟩ = some (.string g) ∧ wx.cell? ⟨B, 2, none⟩ = some (.string f) ∧ wx.cell? ⟨B, 3, none⟩ = some (.int .i32 r) ∧ wx.cell? ⟨B, 4, none⟩ = some (.string i) ∧ wx.cell? ⟨B, 5, none⟩ = some (.int .i64 s) ∧ wx.cell? ⟨B, 6, none⟩ = some (.int .i32 c))
      ∧ wx.cell? ⟨B', 0, none⟩ = some (.string a') ∧ wx.cell? ⟨B', 1, none⟩ = some (.string g') ∧ wx.cell? ⟨B', 2, none⟩ = some (.string f') ∧ wx.cell? ⟨B', 3, none⟩ = some (.int .i32 r') ∧ wx.cell? ⟨B', 4, none⟩ = some (.string i') ∧ wx.cell? ⟨B', 5, none⟩ = some (.int .i64 s') ∧ wx.cell? ⟨B', 6, none⟩ = some (.int .i32 c')) := fun wx hl => by
    have e1 := (hl.below.block B (lt_of_block h1)).trans h1
    have e0 := (hl.below.block B' (lt_of_block h0)).trans h0
    exact ⟨⟨cell_blk e1 rfl, cell_blk e1 rfl, cell_blk e1 rfl, cell_blk e1 rfl, cell_blk e1 rfl, cell_blk e1 rfl, cell_blk e1 rfl⟩, cell_blk e0 rfl, cell_blk e0 rfl, cell_blk e0 rfl, cell_blk e0 rfl, cell_blk e0 rfl, cell_blk e0 rfl, cell_blk e0 rfl⟩
  clear hx hy hz h0 h1
  go_region_held3 (fun wx => (wx.cell? ⟨B, 0, none⟩ = some (.string a) ∧ wx.cell? ⟨B, 1, none⟩ = some (.string g) ∧ wx.cell? ⟨B, 2, none⟩ = some (.string f) ∧ wx.cell? ⟨B, 3, none⟩ = some (.int .i32 r) ∧ wx.cell? ⟨B, 4, none⟩ = some (.string i) ∧ wx.cell? ⟨B, 5, none⟩ = some (.int .i64 s) ∧ wx.cell? ⟨B, 6, none⟩ = some (.int .i32 c))
      ∧ wx.cell? ⟨B', 0, none⟩ = some (.string a') ∧ wx.cell? ⟨B', 1, none⟩ = some (.string g') ∧ wx.cell? ⟨B', 2, none⟩ = some (.string f') ∧ wx.cell? ⟨B', 3, none⟩ = some (.int .i32 r') ∧ wx.cell? ⟨B', 4, none⟩ = some (.string i') ∧ wx.cell? ⟨B', 5, none⟩ = some (.int .i64 s') ∧ wx.cell? ⟨B', 6, none⟩ = some (.int .i32 c'))
    (exact KS.out _ (by first | assumption | exact Lays.alloc (by assumption) _ | exact (Lays.refl _).drew))
    (first | (go_at_call_of 18 (Value.agg #[.string a, .string g, .string f, .int .i32 r, .string i, .int .i64 s, .int .i32 c]); refine (C1.out _ ?_).mono ?_; (first | assumption | exact (Lays.refl _).drew); rintro e w' ⟨rfl, hl⟩)
             | (go_at_call_of 18 (Value.agg #[.string a', .string g', .string f', .int .i32 r', .string i', .int .i64 s', .int .i32 c']); refine (C2.out _ ?_).mono ?_; (first | assumption | exact (Lays.refl _).drew); rintro e w' ⟨rfl, hl⟩)
             | (go_at_call 48; refine (C3.out _ ?_).mono ?_; (first | assumption | exact (Lays.refl _).drew); rintro e w' ⟨rfl, hl⟩)
             | (go_at_call 49; refine (C4.out _).mono ?_; rintro e w' ⟨rfl, rfl⟩)
             | (go_at_call 50; refine (C5.out _).mono ?_; rintro e w' ⟨rfl, rfl⟩)
             | (go_at_call 47; refine (or_new' x y z _).mono ?_; rintro e w' ⟨rfl, rfl⟩))
  go_wp2
  go_ret
  exact ⟨rfl, (L0.out.trans (by assumption)).alloc _⟩
end Go.Proofs.YbulknisFmt
