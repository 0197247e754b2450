import Derived.Test.YbulknisFmtRow
import Derived.Shelf.SlSortCmp.NoneTotal
import Derived.Shelf.SlSortFuncK.ComposeK
import Derived.Shelf.Lay
import Derived.Ground.SlsfProg
namespace Go.Proofs
open Go.Shelf Go.RowKit Go.Lib Go.Sort
shelf_lay_g SlLaysF0.n6 Slsf 6 at Ybaf 32 as Ybaf.sortLot
end Go.Proofs
namespace Go.Proofs.YbulknisFmt
open Go.RowKit

theorem lt_true {x y : Lot} : Go.Proofs.ltOf cf x y = true ↔ lx x y := by unfold Go.Proofs.ltOf; rw [decide_eq_true_eq]; exact cf_lt x y
theorem lt_false {x y : Lot} : Go.Proofs.ltOf cf x y = false ↔ ¬ lx x y := by rw [← Bool.not_eq_true, lt_true]
theorem swo : Sort.SWO (Go.Proofs.ltOf cf) where
  irrefl x := lt_false.2 (lx_irrefl x)
  trans _ _ _ h1 h2 := lt_true.2 (lx_trans (lt_true.1 h1) (lt_true.1 h2))
  ntrans _ _ _ h1 h2 := lt_false.2 (lx_ntrans (lt_false.1 h1) (lt_false.1 h2))
theorem cmpLays [Inhabited Lot] (blk off size : Nat) (w : World) : Go.Proofs.CmpLays Ybaf.prog 33 #[] enc 7 cf blk off size w := fun _ _ _ _ x y => cf_any x y _
theorem isAgg48 (w : World) : (isAgg 48).run Ybaf.prog w = .ok true w := by kernel_rfl
theorem eg33 : ∀ args w, (callFunc 33 args).run Ybaf.prog w = .ok (.enter 33 args) w := enters_of Ybaf.func33 (by kernel_rfl) rfl

theorem holdsK_of [Inhabited Lot] {w : World} {g : Nat} {cur : Array Value} {e : TypeId} {L : List Lot} (hb : w.heap[g]? = some (.cells cur e (0, 0))) (ht : cur.toList.take (L.length * 7) = flat L) : Sort.HoldsK enc 7 w g 0 L.toArray := by
  intro j hj
  have hj' : j < L.length * 7 := by simpa using hj
  refine ⟨?_, by simp [World.frozen?, hb]⟩
  have h1 : (cur.toList.take (L.length * 7))[j]? = (flat L)[j]? := by rw [ht]
  rw [List.getElem?_take_of_lt hj', ← flat_flatK, Array.getElem?_toList, Array.getElem?_toList] at h1
  simp only [World.cell?, hb, Nat.zero_add]
  simp only [Option.isSome_none, Bool.false_eq_true, if_false]
  rw [h1, Array.getElem?_eq_getElem hj, getElem!_pos _ j hj]
  rfl
theorem heap_sortedK [Inhabited Lot] {w : World} {g n : Nat} {os : Array Obj} {cur : Array Value} {e : TypeId} {fr : Nat × Nat} (d : Array Lot) (hb : w.heap[g]? = some (.cells cur e fr)) :
    (Go.Proofs.sortWorldK enc 7 w g 0 n d os).heap[g]? = some (.cells (Sort.putCells id 0 (Sort.flatK enc 7 d) cur) e fr) := by
  have hg : g < w.heap.size := (Array.getElem?_eq_some_iff.1 hb).1
  unfold Go.Proofs.sortWorldK
  rw [Sort.heap_grow_old _ _ (by simpa [Sort.putRowK, Sort.putRow, Sort.mapBlock, Sort.ahead] using hg)]
  simp [Sort.putRowK, Sort.putRow, Sort.mapBlock, Sort.ahead, Array.getElem?_modify, hb, Sort.onCells]
theorem grownBy_sortedK [Inhabited Lot] {w : World} {g n : Nat} {os : Array Obj} (d : Array Lot) : w.grownBy (Go.Proofs.sortWorldK enc 7 w g 0 n d os) (some g) := by
  refine ⟨rfl, rfl, rfl, by simp [Go.Proofs.sortWorldK, Sort.putRowK, Sort.putRow, Sort.mapBlock, Sort.ahead], fun k hk hne => ?_⟩
  unfold Go.Proofs.sortWorldK
  rw [Sort.heap_grow_old _ _ (by simpa [Sort.putRowK, Sort.putRow, Sort.mapBlock, Sort.ahead] using hk)]
  have : g ≠ k := fun e => hne (by rw [e])
  simp [Sort.putRowK, Sort.putRow, Sort.mapBlock, Sort.ahead, Array.getElem?_modify, this]
theorem take_putK [Inhabited Lot] (cur : Array Value) (L : List Lot) (h : L.length * 7 ≤ cur.size) : (Sort.putCells id 0 (Sort.flatK enc 7 L.toArray) cur).toList.take (L.length * 7) = flat L := by
  rw [← flat_flatK]
  apply List.ext_getElem?
  intro j
  by_cases hj : j < L.length * 7
  · rw [List.getElem?_take_of_lt hj, Array.getElem?_toList, Array.getElem?_toList]
    have hs : j < (Sort.flatK enc 7 L.toArray).size := by simpa using hj
    rw [Array.getElem?_eq_getElem hs]
    simp only [Sort.putCells, Array.getElem?_mapIdx]
    rw [Array.getElem?_eq_getElem (show j < cur.size by omega)]
    simp only [Option.map_some, Nat.zero_le, Nat.zero_add, true_and, Nat.sub_zero, id_eq]
    rw [if_pos hs, getElem!_pos _ j hs]
  · rw [List.getElem?_take_eq_none (by omega), List.getElem?_eq_none (by simp; omega)]

set_option maxHeartbeats 1000000 in
/-- SortLots. -/
theorem sortLots_any (base : Nat) (v : Value) (L : List Lot) (w : World) (hL : L.length ≤ 2048) (h : OwnL w base v L) :
    Calls Ybaf.prog 17 #[v] w fun e w' => e = .returned (.tuple #[]) ∧ ∃ L', L'.Perm L ∧ Sorted L' ∧ OwnL w' base v L' ∧ w.grownBy w' v.ownBlock := by
  have hI : Inhabited Lot := ⟨⟨0, 0, 0, 0, 0, 0⟩⟩
  by_cases h0 : L.length = 0
  · obtain ⟨a, cap, rfl, _, _, _⟩ := h.form
    have hnil : L = [] := List.eq_nil_of_length_eq_zero h0
    subst hnil
    have hcon := fun wx => AnyF.slices_SortFunc_none Ybaf.sortLot a cap (.func (.func 33) #[] #[]) wx
    change ∀ wx, Calls Ybaf.prog 32 _ _ _ at hcon
    have HC := hide hcon
    have HO := hide h
    clear hcon h
    go_enter Ybaf.func17, Ybaf.ntmps17
    go_wp2_with (go_at_call 32; refine (HC.out _).mono ?_; rintro e w' ⟨rfl, rfl⟩)
    go_end0
    exact ⟨rfl, [], List.Perm.refl _, fun i j _ hj => by simp at hj, HO.out, World.grownBy.refl _ _⟩
  · rcases h.2 with ⟨_, h1⟩ | ⟨g, cap, cur, rfl, hbg, hg, hc, hcm, hsz, htk⟩
    · exact absurd h1 h0
    have hH := holdsK_of (L := L) hg htk
    have hlt : g < w.heap.size := lt_of_block hg
    have hcon := AnyQ.slices_SortFunc Ybaf.sortLot 7 isAgg48 sizeOf48 enc enc_len flat_one cf swo 33 #[] g 0 cap L.toArray w eg33 (cmpLays g 0 _ w) hH hlt (by simp; omega)
    change Calls Ybaf.prog 32 _ _ _ at hcon
    rw [List.size_toArray] at hcon
    have HC := hide hcon
    have HH : Hid (w.heap[g]? = some (.cells cur 48 (0, 0)) ∧ base ≤ g ∧ L.length ≤ cap ∧ cap ≤ maxLen ∧ cur.size = cap * 7) := ⟨hg, hbg, hc, hcm, hsz⟩
    clear hcon hH hlt h htk hg hbg hc hcm hsz
    go_enter Ybaf.func17, Ybaf.ntmps17
    go_wp2_with (go_at_call 32; refine HC.out.mono ?_; rintro e w' ⟨rfl, hp⟩)
    go_end0
    obtain ⟨d', n, os, hp, hs, rfl⟩ := hp
    obtain ⟨hg, hbg, hc, hcm, hsz⟩ := HH.out
    obtain ⟨e1, e2, e3⟩ := hp
    have hlen : d'.toList.length = L.length := by simpa using e1
    have ed : d' = d'.toList.toArray := by simp
    refine ⟨rfl, d'.toList, ?_, ?_, ?_, grownBy_sortedK _⟩
    · have a1 : (d'.extract 0 L.length).toList = d'.toList := by rw [← hlen]; simp
      have a2 : (L.toArray.extract 0 L.length).toList = L := by simp
      rw [a1, a2] at e3
      exact e3
    · intro i j hij hj
      have := hs i j (Nat.zero_le _) hij (by omega)
      have b : ∀ t, t < d'.toList.length → d'[t]! = lotAt d'.toList t := fun t ht => by rw [getElem!_pos d' t (by simpa using ht), lotAt_pos d'.toList t ht]; simp
      rw [b j hj, b i (by omega)] at this
      exact lt_false.1 this
    · refine ⟨flat_len _, .inr ⟨g, cap, _, by rw [hlen], hbg, heap_sortedK d' hg, by omega, hcm, by simp [Sort.putCells, hsz], ?_⟩⟩
      rw [ed]
      simp only
      exact take_putK cur d'.toList (by rw [hlen, hsz]; exact Nat.mul_le_mul_right 7 hc)
end Go.Proofs.YbulknisFmt
