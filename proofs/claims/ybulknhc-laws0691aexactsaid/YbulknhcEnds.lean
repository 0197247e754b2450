import Derived.Test.YbulknhcReps
import Derived.Maps.AppendAt
namespace Go.Proofs.Ybulknhc
open Go.RowKit Go.Maps

theorem Yba.info3 : (Yba.prog.info? 3).map (fun i => (i.zero, i.size, i.bytes)) = some (some (.int .i64 0), 1, 8) := by kernel_rfl

theorem reach_md (m z : Int) (w : World) (hm0 : 0 ≤ m) (hm1 : m ≤ 255) :
    Calls Yba.prog 5 #[.int .u8 m, .int .i64 (z % 5)] w fun e w' => e = .returned (.bool (rch m (md z))) ∧ w' = w := by
  rw [md_eq z]; exact reach_any m (md z) w hm0 hm1 (md_lt z)

/-- The two lists of the law's own reckoning, as cells. -/
def firsts (l : List (Nat × Nat)) : List Value := l.map fun p => .int .i64 p.1
def seconds (l : List (Nat × Nat)) : List Value := l.map fun p => .int .i64 p.2
/-- ef and et hold the pairs so far; they lie apart. -/
structure E (w4 : World) (l : List (Nat × Nat)) (v1 v2 : Value) (wr : World) : Prop where
  o1 : wr.ownsRow w4.heap.size 3 1 v1 l.length (firsts l)
  o2 : wr.ownsRow w4.heap.size 3 1 v2 l.length (seconds l)
  apart : ∀ b, v1.ownBlock = some b → v2.ownBlock ≠ some b
  bel : Below w4.heap.size w4 wr
theorem E.start (w4 : World) : E w4 [] (.slice none 0 0) (.slice none 0 0) w4 :=
  ⟨World.ownsRow_nil _ _ _ _, World.ownsRow_nil _ _ _ _, (fun b h => by cases h), Below.refl _ _⟩
/-- A row of numbers, as the walks ask for it. -/
theorem own_ints {w : World} {base : Nat} {v : Value} {n : Nat} {g : Nat × Nat → Nat} {l : List (Nat × Nat)} (h : w.ownsRow base 3 1 v n (l.map fun p => .int .i64 (g p))) :
    ∃ a c, v = .slice a n c ∧ ∀ j p, l[j]? = some p → ∃ b, a = some ⟨b, 0, none⟩ ∧ w.cell? ⟨b, 0 + j, none⟩ = some (.int .i64 (g p)) := by
  have hl : l.length = n := by have := h.1; simpa using this
  rcases h.2 with ⟨rfl, rfl⟩ | ⟨gg, cap, cur, rfl, hb, _, _, _, _, _⟩
  · refine ⟨none, 0, rfl, fun j p hp => ?_⟩
    obtain rfl := List.eq_nil_of_length_eq_zero hl
    simp at hp
  · refine ⟨_, cap, rfl, fun j p hp => ⟨gg, rfl, ?_⟩⟩
    have hj := (List.getElem?_eq_some_iff.1 hp).1
    rw [Nat.zero_add, h.cellAt j (by omega)]
    simp [hp]
/-- Behind the two appends. -/
theorem E.more {w4 wr w5 w6 : World} {l : List (Nat × Nat)} {v1 v2 v1' v2' : Value} {o1 o2 : Obj} {p : Nat × Nat} (h : E w4 l v1 v2 wr)
    (a1 : w5.ownsRow w4.heap.size 3 1 v1' (l.length + 1) (firsts l ++ [.int .i64 p.1])) (g1 : (wr.alloc o1).grownBy w5 v1.ownBlock) (t1 : v1'.ownBlock = v1.ownBlock ∨ v1'.ownBlock = some (wr.alloc o1).heap.size)
    (a2 : w6.ownsRow w4.heap.size 3 1 v2' (l.length + 1) (seconds l ++ [.int .i64 p.2])) (g2 : (w5.alloc o2).grownBy w6 v2.ownBlock) (t2 : v2'.ownBlock = v2.ownBlock ∨ v2'.ownBlock = some (w5.alloc o2).heap.size) :
    E w4 (l ++ [p]) v1' v2' w6 := by
  rw [World.size_alloc] at t1 t2
  have hs := h.bel.size
  have hs1 := g1.size
  have hs2 := g2.size
  simp at hs1 hs2
  have lt1 := a1.lt
  have lt2 := h.o2.lt
  have ne : ∀ b, v1'.ownBlock = some b → v2.ownBlock ≠ some b := by
    intro b hb h2
    rcases t1 with t | t
    · rw [t] at hb; exact h.apart b hb h2
    · rw [t] at hb; cases hb
      have := (lt2 _ h2).2
      omega
  refine ⟨?_, by simpa [seconds] using a2, ?_, ?_⟩
  · have k1 : (w5.alloc o2).ownsRow w4.heap.size 3 1 v1' (l.length + 1) (firsts l ++ [.int .i64 p.1]) := a1.alloc _
    have := k1.kept g2 (by
      cases hv : v1'.ownBlock with
      | none => exact .inl rfl
      | some b => right; intro e; exact ne b hv e.symm)
    simpa [firsts] using this
  · intro b hb h2
    rcases t2 with t | t
    · rw [t] at h2; exact ne b hb h2
    · rw [t] at h2; cases h2
      have := (lt1 _ hb).2
      omega
  · exact ((((h.bel.alloc hs _).grown g1 (by simp; omega) (fun k hk => (h.o1.lt k hk).1)).alloc (by omega) _).grown g2 (by simp; omega) (fun k hk => (h.o2.lt k hk).1))
/-- The second row behind the first append. -/
theorem E.second {w4 wr w5 : World} {l : List (Nat × Nat)} {v1 v2 : Value} {o1 : Obj} (h : E w4 l v1 v2 wr) (g1 : (wr.alloc o1).grownBy w5 v1.ownBlock) : w5.ownsRow w4.heap.size 3 1 v2 l.length (seconds l) := by
  have k1 : (wr.alloc o1).ownsRow w4.heap.size 3 1 v2 l.length (seconds l) := h.o2.alloc _
  exact k1.kept g1 (by
    cases hv : v2.ownBlock with
    | none => exact .inl rfl
    | some b => right; intro e; exact h.apart b e.symm hv)

theorem idx108a {a : Option Addr} {b n c : Nat} {k : Nat} (ha : a = some ⟨b, 0, none⟩) (hk : k < n) (w : World) : (Instr.indexAt 108 (.slice a n c) (.int .i64 k)).run Yba.prog w = .ok (.pointer (some ⟨b, k * 2, none⟩)) w := by
  subst ha; exact idx108 hk w
theorem LinksAt.grow {w w' : World} {a : Option Addr} {l : List (Nat × Nat)} (h : LinksAt w a l) (hb : Below w.heap.size w w') : LinksAt w' a l := by
  rcases h with h | ⟨b, rfl, hc⟩
  · exact .inl h
  · refine .inr ⟨b, rfl, fun i p hp => ?_⟩
    obtain ⟨c1, c2⟩ := hc i p hp
    exact ⟨(hb.cell (World.block_lt_of_cell? w _ c1)).trans c1, (hb.cell (World.block_lt_of_cell? w _ c2)).trans c2⟩
end Go.Proofs.Ybulknhc
