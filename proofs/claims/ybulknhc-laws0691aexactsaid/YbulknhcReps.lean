import Derived.Test.YbulknhcIn
import Derived.Deep.RegionLaw
namespace Go.Proofs.Ybulknhc
open Go.RowKit Go.Maps

theorem Yba.info107 : (Yba.prog.info? 107).map (fun i => (i.zero, i.size, i.bytes)) = some (some (.agg #[.string ⟨#[]⟩, .slice none 0 0]), 2, 40) := by kernel_rfl
theorem Yba.info9 : (Yba.prog.info? 9).map (fun i => (i.zero, i.size, i.bytes)) = some (some (.string ⟨#[]⟩), 1, 16) := by kernel_rfl

/-- The first j lost names of a report, as cells. -/
def lostCells (x : Nat → Nat) (j : Nat) : List Value := (List.range j).map fun c => .string (nm (x c))
theorem lostCells_succ (x : Nat → Nat) (j : Nat) : lostCells x (j + 1) = lostCells x j ++ [.string (nm (x j))] := by simp [lostCells, List.range_succ]
theorem lostCells_at (x : Nat → Nat) (j c : Nat) (h : c < j) : (lostCells x j)[c]? = some (.string (nm (x c))) := by simp [lostCells, h]

/-- The third loop: k reports are laid; R: the reports' block. -/
structure L3 (w1 : World) (n1 : Nat) (F L : Nat → Nat) (X : Nat → Nat → Nat) (k : Nat) (wr : World) : Prop where
  bel : Below w1.heap.size w1 wr
  blk : ∃ cur, wr.heap[w1.heap.size]? = some (.cells cur 107 (0, 0)) ∧ cur.size = n1 * 2
  reps : ∀ i, i < k → ∃ A c, RepAt wr w1.heap.size F L X i A c ∧ ∀ a, A = some a → w1.heap.size < a.block
/-- The fourth loop: j lost names are laid; rb: the report's own variable. -/
structure L4 (wr : World) (F : Nat → Nat) (X : Nat → Nat → Nat) (k j : Nat) (w2 : World) : Prop where
  ex : ∃ v, w2.heap[wr.heap.size]? = some (.cells #[.string (nm (F k)), v] 107 (0, 0)) ∧ w2.ownsRow (wr.heap.size + 1) 9 1 v j (lostCells (X k) j)
  bel : Below wr.heap.size wr w2

theorem own_lost {w : World} {base : Nat} {v : Value} {n : Nat} {x : Nat → Nat} (h : w.ownsRow base 9 1 v n (lostCells x n)) :
    ∃ a c, v = .slice a n c ∧ (∀ j, j < n → ∃ b, a = some ⟨b, 0, none⟩ ∧ w.cell? ⟨b, 0 + j, none⟩ = some (.string (nm (x j)))) ∧ ∀ y, a = some y → base ≤ y.block := by
  rcases h.2 with ⟨rfl, rfl⟩ | ⟨g, cap, cur, rfl, hb, _, _, _, _, _⟩
  · exact ⟨none, 0, rfl, fun j hj => by omega, fun y hy => by cases hy⟩
  · refine ⟨_, cap, rfl, fun j hj => ⟨g, rfl, ?_⟩, fun y hy => by cases hy; exact hb⟩
    rw [Nat.zero_add, h.cellAt j (by omega)]
    exact lostCells_at x n j hj

theorem heap_setCell_cells {w : World} {b o : Nat} {cur : Array Value} {t : TypeId} (h : w.heap[b]? = some (.cells cur t (0, 0))) (v : Value) : (w.setCell ⟨b, o, none⟩ v).heap[b]? = some (.cells (cur.setIfInBounds o v) t (0, 0)) :=
  heap_setCell_same w b o cur t v h

theorem L3.start {w1 w2 : World} {n1 : Nat} {F L : Nat → Nat} {X : Nat → Nat → Nat} {xs : List Value} (hown : w2.ownsRow w1.heap.size 107 2 (.slice (some ⟨w1.heap.size, 0, none⟩) n1 n1) n1 xs) (hg : w1.grownBy w2 none) : L3 w1 n1 F L X 0 w2 := by
  refine ⟨(Below.refl _ _).grown hg (Nat.le_refl _) (fun k hk => by cases hk), ?_, fun i hi => by omega⟩
  rcases hown.2 with ⟨h, _⟩ | ⟨g, cap, cur, h, _, hh, _, _, hs, _⟩
  · cases h
  · cases h
    exact ⟨cur, hh, hs⟩
theorem L4.start {wr : World} {F : Nat → Nat} {X : Nat → Nat → Nat} {k : Nat} : L4 wr F X k 0 (wr.alloc (.cells #[.string (nm (F k)), .slice none 0 0] 107)) :=
  ⟨⟨_, heap_alloc_new _ _, World.ownsRow_nil _ _ _ _⟩, (Below.refl _ _).alloc (Nat.le_refl _) _⟩

/-- The round's end: report k is laid. -/
theorem L3.next {w1 wr w2 : World} {n1 : Nat} {F L : Nat → Nat} {X : Nat → Nat → Nat} {k : Nat} {v : Value} (h : L3 w1 n1 F L X k wr) (hk : k < n1) (hb : Below wr.heap.size wr w2)
    (hv : ∃ a c, v = .slice a (L k) c ∧ (∀ j, j < L k → ∃ b, a = some ⟨b, 0, none⟩ ∧ w2.cell? ⟨b, 0 + j, none⟩ = some (.string (nm (X k j)))) ∧ ∀ y, a = some y → wr.heap.size + 1 ≤ y.block) :
    L3 w1 n1 F L X (k + 1) ((w2.setCell ⟨w1.heap.size, k * 2, none⟩ (.string (nm (F k)))).setCell ⟨w1.heap.size, k * 2 + 1, none⟩ v) := by
  obtain ⟨a, c, rfl, hrow, hy⟩ := hv
  obtain ⟨cur, hc, hs⟩ := h.blk
  have hR : w1.heap.size < wr.heap.size := lt_of_block hc
  have hc2 : w2.heap[w1.heap.size]? = some (.cells cur 107 (0, 0)) := (hb.block _ hR).trans hc
  have hc3 := heap_setCell_cells (o := k * 2) hc2 (.string (nm (F k)))
  have hc4 := heap_setCell_cells (o := k * 2 + 1) hc3 (.slice a (L k) c)
  have other : ∀ {b o : Nat}, b ≠ w1.heap.size → ((w2.setCell ⟨w1.heap.size, k * 2, none⟩ (.string (nm (F k)))).setCell ⟨w1.heap.size, k * 2 + 1, none⟩ (.slice a (L k) c)).cell? ⟨b, o, none⟩ = w2.cell? ⟨b, o, none⟩ := by
    intro b o hne
    refine World.cell?_of_block ?_
    show (World.setCell _ _ _).heap[b]? = _
    rw [Below.heap_setCell _ _ _ _ hne, Below.heap_setCell _ _ _ _ hne]
  refine ⟨?_, ⟨_, hc4, by simpa using hs⟩, fun i hi => ?_⟩
  · exact (((h.bel.trans (hb.mono (by omega))).setCell (p := ⟨w1.heap.size, k * 2, none⟩) (Nat.le_refl _) _).setCell (p := ⟨w1.heap.size, k * 2 + 1, none⟩) (Nat.le_refl _) _)
  · rcases Nat.lt_succ_iff_lt_or_eq.1 hi with hik | rfl
    · obtain ⟨A, c', hr, hA⟩ := h.reps i hik
      have hr2 := hr.grow hb
      refine ⟨A, c', ⟨?_, ?_, fun j hj => ?_⟩, hA⟩
      · have := hr2.from_
        rw [cell_of_row _ _ _ _ 107 (0, 0) hc2] at this
        rw [cell_of_row _ _ _ _ 107 (0, 0) hc4, Array.getElem?_setIfInBounds, if_neg (by omega), Array.getElem?_setIfInBounds, if_neg (by omega)]
        exact this
      · have := hr2.lost
        rw [cell_of_row _ _ _ _ 107 (0, 0) hc2] at this
        rw [cell_of_row _ _ _ _ 107 (0, 0) hc4, Array.getElem?_setIfInBounds, if_neg (by omega), Array.getElem?_setIfInBounds, if_neg (by omega)]
        exact this
      · obtain ⟨b, off, rfl, hcell⟩ := hr2.row j hj
        refine ⟨b, off, rfl, ?_⟩
        rw [other (by have := hA _ rfl; simp at this; omega)]
        exact hcell
    · refine ⟨a, c, ⟨?_, ?_, fun j hj => ?_⟩, fun y hye => by have := hy y hye; omega⟩
      · rw [cell_of_row _ _ _ _ 107 (0, 0) hc4, Array.getElem?_setIfInBounds, if_neg (by omega), Array.getElem?_setIfInBounds, if_pos rfl, if_pos (by omega)]
      · rw [cell_of_row _ _ _ _ 107 (0, 0) hc4, Array.getElem?_setIfInBounds, if_pos rfl, if_pos (by simp; omega)]
      · obtain ⟨b, rfl, hcell⟩ := hrow j hj
        refine ⟨b, 0, rfl, ?_⟩
        rw [other (by have := hy _ rfl; simp at this; omega)]
        exact hcell

/-- What the store of a report asks: the two cells are there and may be written. -/
theorem L3.room {w1 wr w2 : World} {n1 : Nat} {F L : Nat → Nat} {X : Nat → Nat → Nat} {k : Nat} (h : L3 w1 n1 F L X k wr) (hk : k < n1) (hb : Below wr.heap.size wr w2) :
    ∃ u0 u1, w2.cell? ⟨w1.heap.size, k * 2, none⟩ = some u0 ∧ w2.cell? ⟨w1.heap.size, k * 2 + 1, none⟩ = some u1 ∧ w2.frozen? ⟨w1.heap.size, k * 2, none⟩ = false ∧ w2.frozen? ⟨w1.heap.size, k * 2 + 1, none⟩ = false := by
  obtain ⟨cur, hc, hs⟩ := h.blk
  have hc2 : w2.heap[w1.heap.size]? = some (.cells cur 107 (0, 0)) := (hb.block _ (lt_of_block hc)).trans hc
  refine ⟨cur[k * 2]'(by omega), cur[k * 2 + 1]'(by omega), ?_, ?_, frozen_of_row _ _ _ _ _ hc2, frozen_of_row _ _ _ _ _ hc2⟩
  · rw [cell_of_row _ _ _ _ 107 (0, 0) hc2]; exact Array.getElem?_eq_getElem _
  · rw [cell_of_row _ _ _ _ 107 (0, 0) hc2]; exact Array.getElem?_eq_getElem _

theorem free_two1 {w : World} {b : Nat} {v0 v1 : Value} {t : TypeId} (h : w.heap[b]? = some (.cells #[v0, v1] t (0, 0))) : w.frozen? ⟨b, 1, none⟩ = false := by simp [World.frozen?, h]
/-- The report's variable behind the append. -/
theorem var_kept {w w5 : World} {rb base n : Nat} {v v0 v1 : Value} {xs : List Value} {o : Obj} (hv : w.heap[rb]? = some (.cells #[v0, v1] 107 (0, 0))) (hown : w.ownsRow base 9 1 v n xs) (hg : ((w.alloc o).drew).grownBy w5 v.ownBlock) :
    w5.heap[rb]? = some (.cells #[v0, v1] 107 (0, 0)) := by
  have hrb := lt_of_block hv
  have := hg.block rb (by simp; omega) (fun e => own_other (cs := [_, _]) hown hv (by decide) e.symm)
  rw [this]
  show (w.alloc o).heap[rb]? = _
  rw [Below.heap_alloc _ _ _ hrb]; exact hv
theorem L4.more {wr w2 w5 : World} {F : Nat → Nat} {X : Nat → Nat → Nat} {k j : Nat} {v : Value} {g cap : Nat} {o : Obj} (hb : Below wr.heap.size wr w2) (hv : w2.heap[wr.heap.size]? = some (.cells #[.string (nm (F k)), v] 107 (0, 0)))
    (hown : w2.ownsRow (wr.heap.size + 1) 9 1 v j (lostCells (X k) j)) (hg : ((w2.alloc o).drew).grownBy w5 v.ownBlock) (hown5 : w5.ownsRow (wr.heap.size + 1) 9 1 (.slice (some ⟨g, 0, none⟩) (j + 1) cap) (j + 1) (lostCells (X k) j ++ [.string (nm (X k j))])) :
    L4 wr F X k (j + 1) (w5.setCell ⟨wr.heap.size, 1, none⟩ (.slice (some ⟨g, 0, none⟩) (j + 1) cap)) := by
  have h5 := var_kept hv hown hg
  have hrb := lt_of_block hv
  refine ⟨⟨_, heap_setCell_cells (o := 1) h5 _, ?_⟩, ?_⟩
  · rw [lostCells_succ]
    exact ownsRow_setCell_below hown5 (a := ⟨wr.heap.size, 1, none⟩) (by simp) _
  · refine Below.setCell (p := ⟨wr.heap.size, 1, none⟩) ?_ (Nat.le_refl _) _
    refine hb.trans ⟨hg.os, hg.tape, hg.output, by have := hg.size; simp at this; omega, fun q hq => ?_⟩
    have := hg.block q (by simp; omega) (fun e => by have := (hown.lt q e.symm).1; omega)
    rw [this]
    exact Below.heap_alloc _ _ _ (by omega)
theorem wrap_byte {z : Int} (h0 : 0 ≤ z) (h1 : z ≤ 255) : IntKind.i64.wrap z = z := by
  simp [IntKind.wrap, IntKind.signed, IntKind.bits]; omega
theorem tmod_md {z : Int} (h0 : 0 ≤ z) : z.tmod 5 = (md z : Int) := by rw [Int.tmod_eq_emod_of_nonneg h0, md_eq]
end Go.Proofs.Ybulknhc
