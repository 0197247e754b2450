import Derived.Test.YbulknisFmtSort
import Derived.Deep.RegionLaw
namespace Go.Proofs.YbulknisFmt
open Go.RowKit

theorem info48 : (Ybaf.prog.info? 48).map (fun i => (i.zero, i.size, i.bytes)) = some (some (.agg #[.string ⟨#[]⟩, .string ⟨#[]⟩, .string ⟨#[]⟩, .int .i32 0, .string ⟨#[]⟩, .int .i64 0, .int .i32 0]), 7, 88) := by kernel_rfl

/-- Of the old blocks at most those in T have turned. -/
structure Keep (T : Nat → Prop) (w w' : World) : Prop where
  os : w'.os = w.os
  tape : w'.tape = w.tape
  output : w'.output = w.output
  size : w.heap.size ≤ w'.heap.size
  block : ∀ k, k < w.heap.size → ¬ T k → w'.heap[k]? = w.heap[k]?
theorem Keep.refl (T : Nat → Prop) (w : World) : Keep T w w := ⟨rfl, rfl, rfl, Nat.le_refl _, fun _ _ _ => rfl⟩
theorem Keep.trans {T T' : Nat → Prop} {w w1 w2 : World} (h : Keep T w w1) (h' : Keep T' w1 w2) (ht : ∀ k, k < w.heap.size → T' k → T k) : Keep T w w2 :=
  ⟨h'.os.trans h.os, h'.tape.trans h.tape, h'.output.trans h.output, Nat.le_trans h.size h'.size, fun k hk hn => (h'.block k (Nat.lt_of_lt_of_le hk h.size) (fun hT => hn (ht k hk hT))).trans (h.block k hk hn)⟩
theorem Keep.mono {T T' : Nat → Prop} {w w' : World} (h : Keep T w w') (ht : ∀ k, k < w.heap.size → T k → T' k) : Keep T' w w' := ⟨h.os, h.tape, h.output, h.size, fun k hk hn => h.block k hk fun hT => hn (ht k hk hT)⟩
theorem Keep.ofGrown {w w' : World} {row : Option Nat} (h : w.grownBy w' row) : Keep (fun k => some k = row) w w' := ⟨h.os, h.tape, h.output, h.size, fun k hk hn => h.block k hk hn⟩
theorem Keep.ofBelow {w w' : World} (h : Below w.heap.size w w') : Keep (fun _ => False) w w' := ⟨h.os, h.tape, h.output, h.size, fun k hk _ => h.block k hk⟩
theorem Keep.below {n : Nat} {w w' : World} {T : Nat → Prop} (h : Keep T w w') (hn : n ≤ w.heap.size) (ht : ∀ k, T k → n ≤ k) : Below n w w' := ⟨h.os, h.tape, h.output, h.size, fun k hk => h.block k (by omega) (fun hT => by have := ht k hT; omega)⟩
theorem Keep.alloc {T : Nat → Prop} {w w1 : World} (h : Keep T w w1) (o : Obj) : Keep T w (w1.alloc o) :=
  h.trans (Keep.ofBelow ((Below.refl _ _).alloc (Nat.le_refl _) o)) (fun _ _ hf => hf.elim)
theorem Keep.setCell {T : Nat → Prop} {w w1 : World} (h : Keep T w w1) (p : Addr) (v : Value) (hp : T p.block ∨ w.heap.size ≤ p.block) : Keep T w (w1.setCell p v) :=
  ⟨h.os, h.tape, h.output, by have := h.size; simpa using this, fun k hk hn => by rw [Below.heap_setCell _ _ _ _ (by rintro rfl; rcases hp with hp | hp; exact hn hp; omega)]; exact h.block k hk hn⟩
theorem Keep.drewN {T : Nat → Prop} {w w1 : World} (h : Keep T w w1) (q : Nat) : Keep T w (w1.drewN q) := ⟨h.os, h.tape, h.output, h.size, h.block⟩
theorem OwnL.keep {T : Nat → Prop} {w w' : World} {base : Nat} {v : Value} {L : List Lot} (h : OwnL w base v L) (hk : Keep T w w') (hne : ∀ k, v.ownBlock = some k → ¬ T k) : OwnL w' base v L := by
  refine ⟨h.1, ?_⟩
  rcases h.2 with h0 | ⟨g, cap, cur, rfl, h1, h2, h3⟩
  · exact .inl h0
  · exact .inr ⟨g, cap, cur, rfl, h1, (hk.block g (lt_of_block h2) (hne g rfl)).trans h2, h3⟩
theorem OwnL.lt {w : World} {base : Nat} {v : Value} {L : List Lot} (h : OwnL w base v L) : ∀ k, v.ownBlock = some k → base ≤ k ∧ k < w.heap.size := World.ownsRow.lt h
theorem OwnL.block {w : World} {base : Nat} {v : Value} {L : List Lot} (h : OwnL w base v L) {k : Nat} (hk : v.ownBlock = some k) : ∃ cur, w.heap[k]? = some (.cells cur 48 (0, 0)) := by
  rcases h.2 with ⟨rfl, _⟩ | ⟨g, cap, cur, rfl, _, h2, _⟩
  · cases hk
  · cases hk; exact ⟨cur, h2⟩

/-- The book. -/
def BookAt (w : World) (B : Nat) (vl va : Value) (f : Int) : Prop := w.heap[B]? = some (.cells #[vl, va, .int .i32 f, .map none] 72 (0, 0))
theorem BookAt.ne {w : World} {B : Nat} {vl va : Value} {f : Int} (h : BookAt w B vl va f) {base : Nat} {v : Value} {L : List Lot} (hl : OwnL w base v L) : v.ownBlock ≠ some B := by
  intro e
  obtain ⟨cur, hc⟩ := hl.block e
  unfold BookAt at h
  rw [h] at hc
  cases hc

set_option maxHeartbeats 1000000 in
theorem newBook_any (base : Nat) (v : Value) (L : List Lot) (w : World) (hL : L.length ≤ 2048) (h : OwnL w base v L) :
    Calls Ybaf.prog 14 #[v] w fun e w' => ∃ B L', e = .returned (.pointer (some ⟨B, 0, none⟩)) ∧ w.heap.size ≤ B ∧ L'.Perm L ∧ Sorted L' ∧ OwnL w' base v L' ∧ BookAt w' B v (.slice none 0 0) 0 ∧ Keep (fun k => some k = v.ownBlock) w w' := by
  have SL := hide (sortLots_any base v L w hL h)
  obtain ⟨a, cap, rfl, _, _, _⟩ := h.form
  clear h
  go_enter Ybaf.func14, Ybaf.ntmps14
  go_wp2_with (go_at_call 17; refine SL.out.mono ?_; rintro e w1 ⟨rfl, hp⟩)
  go_ret
  obtain ⟨L', hp, hs, ho, hg⟩ := hp
  exact ⟨_, L', rfl, hg.size, hp, hs, World.ownsRow.alloc ho _, heap_alloc_new _ _, (Keep.ofGrown hg).alloc _⟩
end Go.Proofs.YbulknisFmt
