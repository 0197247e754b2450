import Derived.Test.YbulknisRows
import Derived.WalkKit
import Derived.WalkSpells
import Derived.WalkLawsBesides
import Derived.Deep.QuietTactic
import Derived.BigQuiet
import Derived.OneCell
import Derived.OpenShut
namespace Go.Proofs.Ybulknis
open Go.RowKit

theorem Yba.info21 : (Yba.prog.info? 21).map (fun i => (i.zero, i.size, i.bytes)) = some (some (.int .i32 0), 1, 4) := by kernel_rfl

/-- A slice's address and its numbers: where there is an element there is an address, and the cells hold the numbers. -/
def RowIs (w : World) (a : Option Addr) (zs : List Int) : Prop :=
  zs = [] ∨ ∃ b off, a = some ⟨b, off, none⟩ ∧ ∀ i, i < zs.length → w.cell? ⟨b, off + i, none⟩ = some (.int .i32 (zs.getD i 0))

theorem RowIs.below {B : Nat} {w w' : World} {a : Option Addr} {zs : List Int} (h : RowIs w a zs) (hb : Below B w w') (hlt : ∀ x, a = some x → x.block < B) : RowIs w' a zs := by
  rcases h with h | ⟨b, off, rfl, hc⟩
  · exact .inl h
  · exact .inr ⟨b, off, rfl, fun i hi => (hb.cell (p := ⟨b, off + i, none⟩) (by exact hlt ⟨b, off, none⟩ rfl)).trans (hc i hi)⟩

theorem RowIs.drewN {w : World} {a : Option Addr} {zs : List Int} (h : RowIs w a zs) (n : Nat) : RowIs (w.drewN n) a zs := by
  rcases h with h | ⟨b, off, rfl, hc⟩
  · exact .inl h
  · exact .inr ⟨b, off, rfl, fun i hi => by simpa using hc i hi⟩
theorem RowIs.take {w : World} {a : Option Addr} {zs : List Int} (h : RowIs w a zs) (n : Nat) : RowIs w a (zs.take n) := by
  rcases h with h | ⟨b, off, rfl, hc⟩
  · exact .inl (by simp [h])
  · exact .inr ⟨b, off, rfl, fun i hi => by
      simp only [List.length_take] at hi
      rw [hc i (by omega)]
      simp [List.getD, show i < n by omega]⟩
theorem RowIs.drop {w : World} {zs : List Int} {b off : Nat} (h : RowIs w (some ⟨b, off, none⟩) zs) (n : Nat) : RowIs w (some ⟨b, off + n, none⟩) (zs.drop n) := by
  rcases h with h | ⟨b', off', e, hc⟩
  · exact .inl (by simp [h])
  · cases e
    exact .inr ⟨b, off + n, rfl, fun i hi => by
      simp only [List.length_drop] at hi
      have := hc (n + i) (by omega)
      rw [Nat.add_assoc, this]
      simp [List.getD, List.getElem?_drop]⟩

set_option maxHeartbeats 400000 in
theorem equal_true (a1 a2 : Option Addr) (n c1 c2 : Nat) (zs : List Int) (w : World) (hn : zs.length = n) (hbig : n ≤ 1024) (h1 : RowIs w a1 zs) (h2 : RowIs w a2 zs) :
    Calls Yba.prog 7 #[.slice a1 n c1, .slice a2 n c2] w fun e w' => e = .returned (.bool true) ∧ ∃ k, w' = w.drewN k := by
  rcases h1 with rfl | ⟨b1, o1, rfl, g1⟩
  · simp at hn
    subst hn
    go_enter Yba.func7, Yba.ntmps7
    go_wp2
    refine wp_loop_rounds 1 ?_
    rw [rounds_succ]
    go_wp2
    go_ret
    exact ⟨rfl, 0, rfl⟩
  · rcases h2 with rfl | ⟨b2, o2, rfl, g2⟩
    · simp at hn
      subst hn
      go_enter Yba.func7, Yba.ntmps7
      go_wp2
      refine wp_loop_rounds 1 ?_
      rw [rounds_succ]
      go_wp2
      go_ret
      exact ⟨rfl, 0, rfl⟩
    have G1 : Hid (∀ i, i < zs.length → w.cell? ⟨b1, o1 + i, none⟩ = some (.int .i32 (zs.getD i 0))) := g1
    have G2 : Hid (∀ i, i < zs.length → w.cell? ⟨b2, o2 + i, none⟩ = some (.int .i32 (zs.getD i 0))) := g2
    clear g1 g2
    have HN : Hid (zs.length = n) := hn
    clear hn
    go_enter Yba.func7, Yba.ntmps7
    go_wp2
    go_loopw [5, 13] (fun _ i wr => ∃ k m : Nat, k ≤ n ∧ i = .int .i64 k ∧ wr = w.drewN m) (fun _ i _ => n - (intOf i).toNat)
    case atStart => exact ⟨0, 0, by omega, rfl, rfl⟩
    case round =>
      obtain ⟨k, m, hk, rfl, rfl⟩ := hrel
      by_cases hlt : k < n
      · obtain ⟨z, hz⟩ : ∃ z, z = zs.getD k 0 := ⟨_, rfl⟩
        have f1 : w.cell? ⟨b1, o1 + k, none⟩ = some (.int .i32 z) := by rw [hz]; exact G1.out k (by have := HN.out; omega)
        have f2 : w.cell? ⟨b2, o2 + k, none⟩ = some (.int .i32 z) := by rw [hz]; exact G2.out k (by have := HN.out; omega)
        clear hz
        go_wp2
        go_quiet (fail)
        go_wp2
        go_roundw
        case rel => exact ⟨k + 1, m + nq, by omega, by go_num, rfl⟩
        case measure => simp [intOf]; omega
      · go_wp2
        go_ret
        exact ⟨rfl, m, rfl⟩

/-- The numbers as cells. -/
abbrev cellsOf (zs : List Int) : List Value := zs.map (Value.int .i32)

theorem cellsOf_at {zs : List Int} {j : Nat} {u : Value} (h : (cellsOf zs)[j]? = some u) : j < zs.length ∧ u = .int .i32 (zs.getD j 0) := by
  simp only [List.getElem?_map, Option.map_eq_some_iff] at h
  obtain ⟨z, hz, rfl⟩ := h
  obtain ⟨hj, rfl⟩ := List.getElem?_eq_some_iff.1 hz
  exact ⟨hj, by simp [List.getD, hj]⟩
theorem cellsOf_one (zs : List Int) : ∀ u ∈ cellsOf zs, u.oneCell' = true := by
  intro u hu
  obtain ⟨z, _, rfl⟩ := List.mem_map.1 hu
  rfl

set_option maxHeartbeats 400000 in
theorem clone_some (x : Addr) (len cap : Nat) (zs : List Int) (w : World) (hm : len ≤ 1024) (hz : zs.length = len) (hc : ∀ i, i < zs.length → w.cell? (x.add i) = some (.int .i32 (zs.getD i 0))) :
    Calls Yba.prog 4 #[.slice (some x) len cap] w fun e w' => ∃ v, e = .returned v ∧ w'.ownsRow w.heap.size 21 1 v len (cellsOf zs) ∧ Below w.heap.size w w' := by
  obtain ⟨i0, hi, hz0, hz1, hz2⟩ := info_parts Yba.info21
  have hn : ∀ w : World, (binOp .eql 22 (.slice (some x) len cap) (.slice none 0 0)).run Yba.prog w = .ok (.bool false) w := fun w => Lib.run_eql_slice_nil w 22 21 (some x) len cap 0 0 Yba.underlying22
  have HZ : Hid (zs.length = len) := hz
  have HC : Hid (∀ i, i < zs.length → w.cell? (x.add i) = some (.int .i32 (zs.getD i 0))) := hc
  clear hz hc
  have hlt : ∀ i, i < len → x.block < w.heap.size := fun i hi' => World.block_lt_of_cell? w _ (by have := HC.out 0 (by have := HZ.out; omega); simpa [Addr.add] using this)
  go_enter Yba.func4, Yba.ntmps4
  go_wp2_with (at_builtin; refine wpList_append_own _ rfl _ _ 22 rfl w.heap.size 21 i0 (.int .i32 0) 1 4 Yba.underlying22 hi hz0 hz1 hz2 rfl (by decide) _ _ _ rfl (World.ownsRow_made w #[] 0 (Nat.le_refl _) (by unfold maxLen; omega) rfl) x len cap (cellsOf zs) rfl ?c1 ?c2 (cellsOf_one zs) ?c4 ?c5 ?c6 ?_)
  case c1 => simp [HZ.out]
  case c2 =>
    intro j u hj
    obtain ⟨h1, rfl⟩ := cellsOf_at hj
    have hb : (x.add j).block = x.block := by unfold Addr.add; split <;> rfl
    rw [World.cell?_alloc_lt _ _ _ (by rw [hb]; exact hlt j (by have := HZ.out; omega))]
    exact HC.out j h1
  case c4 => unfold maxLen; omega
  case c5 => omega
  case c6 => simp
  · intro v' w1 hown' hgrow _
    clear HC hlt
    go_wp2
    go_ret
    exact ⟨_, rfl, hown', ((Below.refl _ _).alloc (Nat.le_refl _) _).grown hgrow (by simp) (fun k hk => by simp [Value.ownBlock] at hk; omega)⟩

set_option maxHeartbeats 400000 in
theorem clone_nil (w : World) : Calls Yba.prog 4 #[.slice none 0 0] w fun e w' => ∃ v, e = .returned v ∧ w'.ownsRow w.heap.size 21 1 v 0 (cellsOf []) ∧ Below w.heap.size w w' := by
  have hn : ∀ w : World, (binOp .eql 22 (.slice none 0 0) (.slice none 0 0)).run Yba.prog w = .ok (.bool true) w := fun w => Lib.run_eql_slice_nil w 22 21 none 0 0 0 0 Yba.underlying22
  go_enter Yba.func4, Yba.ntmps4
  go_wp2
  go_ret
  exact ⟨_, rfl, World.ownsRow_nil _ _ _ _, Below.refl _ _⟩

theorem clone_any (a0 : Option Addr) (len cap : Nat) (zs : List Int) (w : World) (hm : len ≤ 1024) (hz : zs.length = len) (hr : RowIs w a0 zs) (h0 : a0 = none → len = 0 ∧ cap = 0) :
    Calls Yba.prog 4 #[.slice a0 len cap] w fun e w' => ∃ v, e = .returned v ∧ w'.ownsRow w.heap.size 21 1 v len (cellsOf zs) ∧ Below w.heap.size w w' := by
  cases a0 with
  | none =>
    obtain ⟨rfl, rfl⟩ := h0 rfl
    obtain rfl := List.eq_nil_of_length_eq_zero hz
    exact clone_nil w
  | some x =>
    refine clone_some x len cap zs w hm hz fun i hi => ?_
    rcases hr with rfl | ⟨b, off, e, hc⟩
    · simp at hi
    · cases e
      rw [Go.WideShapes.add_plain]; exact hc i hi

theorem owns_shape {w : World} {base : Nat} {e : TypeId} {v : Value} {n : Nat} {xs : List Value} (h : w.ownsRow base e 1 v (n + 1) xs) : ∃ g cap, v = .slice (some ⟨g, 0, none⟩) (n + 1) cap := by
  rcases h.2 with ⟨_, h0⟩ | ⟨g, cap, _, rfl, _⟩
  · omega
  · exact ⟨g, cap, rfl⟩

/-- What a call of the logging closure leaves alone: every block below the log's rows but the log's own variable. -/
structure Frm (BL : Nat) (w w' : World) : Prop where
  os : w'.os = w.os
  tape : w'.tape = w.tape
  output : w'.output = w.output
  size : w.heap.size ≤ w'.heap.size
  block : ∀ k, k < BL + 2 → k ≠ BL → w'.heap[k]? = w.heap[k]?
theorem Frm.refl (BL : Nat) (w : World) : Frm BL w w := ⟨rfl, rfl, rfl, Nat.le_refl _, fun _ _ _ => rfl⟩
theorem Frm.trans {BL : Nat} {a b c : World} (h : Frm BL a b) (k : Frm BL b c) : Frm BL a c :=
  ⟨k.os.trans h.os, k.tape.trans h.tape, k.output.trans h.output, Nat.le_trans h.size k.size, fun i hi hn => (k.block i hi hn).trans (h.block i hi hn)⟩
theorem Frm.below {BL : Nat} {w w' : World} (h : Frm BL w w') : Below BL w w' := ⟨h.os, h.tape, h.output, h.size, fun k hk => h.block k (by omega) (by omega)⟩

set_option maxHeartbeats 400000 in
theorem log_any (BL : Nat) (x : Int) (vL : Value) (m : Nat) (zs : List Int) (w : World) (hm : m ≤ 1024) (hB : BL + 2 ≤ w.heap.size) (hL : w.heap[BL]? = some (.cells #[vL] 22 (0, 0))) (hown : w.ownsRow (BL + 2) 21 1 vL m (cellsOf zs)) :
    Calls Yba.prog 5 #[.int .i32 x, .pointer (some ⟨BL, 0, none⟩)] w fun e w' => e = .returned (.int .i32 x) ∧ ∃ vL', w'.heap[BL]? = some (.cells #[vL'] 22 (0, 0)) ∧ w'.ownsRow (BL + 2) 21 1 vL' (m + 1) (cellsOf (zs ++ [x])) ∧ Frm BL w w' := by
  obtain ⟨i0, hi, hz0, hz1, hz2⟩ := info_parts Yba.info21
  have c0 := cell_of_one hL
  have HL : Hid (w.heap[BL]? = some (.cells #[vL] 22 (0, 0))) := hL
  clear hL
  go_enter Yba.func5, Yba.ntmps5
  go_wp2_with (at_builtin; refine wpList_append_own _ rfl _ _ 22 rfl (BL + 2) 21 i0 (.int .i32 0) 1 4 Yba.underlying22 hi hz0 hz1 hz2 rfl (by decide) _ _ _ rfl (hown.alloc _) ⟨w.heap.size, 0, none⟩ 1 1 [.int .i32 x] rfl rfl (cell_one_new _ _ _) ?c2 ?c3 ?c4 ?c5 ?_)
  case c2 => intro u hu; simp at hu; subst hu; rfl
  case c3 => unfold maxLen; omega
  case c4 => omega
  case c5 => simp; omega
  · intro v' w1 hown' hgrow _
    have hne : vL.ownBlock ≠ some BL := fun h => by have := (hown.lt BL h).1; omega
    have h1 : w1.heap[BL]? = some (.cells #[vL] 22 (0, 0)) := by
      rw [hgrow.block BL (by simp; omega) (fun e => hne e.symm), Below.heap_alloc _ _ _ (by omega)]; exact HL.out
    have c1 := cell_of_one h1
    have f1 := free_of_one h1
    have R : Hid (w1.heap[BL]? = some (.cells #[vL] 22 (0, 0)) ∧ w1.ownsRow (BL + 2) 21 1 v' (m + 1) (cellsOf zs ++ [.int .i32 x]) ∧ Frm BL w w1) := by
      refine ⟨h1, hown', ⟨hgrow.os, hgrow.tape, hgrow.output, by have := hgrow.size; simp at this; omega, fun k hk hn => ?_⟩⟩
      rw [hgrow.block k (by simp; omega) (fun e => by have := (hown.lt k e.symm).1; omega), Below.heap_alloc _ _ _ (by omega)]
    obtain ⟨g, cp, hv⟩ := owns_shape hown'
    clear hown' hgrow h1 hown c0
    subst hv
    go_wp2
    go_ret
    obtain ⟨r1, r2, r3⟩ := R.out
    refine ⟨rfl, _, one_setCell r1, ?_, ?_⟩
    · have := ownsRow_setCell_below r2 (a := ⟨BL, 0, none⟩) (by simp) (.slice (some ⟨g, 0, none⟩) (m + 1) cp)
      simpa [cellsOf] using this
    · exact r3.trans ⟨rfl, rfl, rfl, by simp [World.setCell], fun k hk hn => Below.heap_setCell _ _ _ _ (by simpa using hn)⟩
end Go.Proofs.Ybulknis
