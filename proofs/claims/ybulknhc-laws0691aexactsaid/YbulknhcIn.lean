import Derived.Test.YbulknhcLinks
import Derived.Deep.CutBlock
import Derived.Deep.RegionHeld3
import Derived.Deep.AppendLies
import Derived.Maps.Views
namespace Go.Proofs.Ybulknhc
open Go.RowKit Go.Maps

/-- What comes in: the reporters' bytes, the lists of lost members' bytes. -/
structure Inp (w : World) (a1 a2 : Option Addr) (n1 n2 : Nat) (f : Nat → Int) (A : Nat → Option Addr) (L C : Nat → Nat) (x : Nat → Nat → Int) : Prop where
  fr : ∀ k, k < n1 → ∃ b off, a1 = some ⟨b, off, none⟩ ∧ w.cell? ⟨b, off + k, none⟩ = some (.int .u8 (f k)) ∧ 0 ≤ f k ∧ f k ≤ 255
  lo : ∀ r, r < n2 → ∃ b off, a2 = some ⟨b, off, none⟩ ∧ w.cell? ⟨b, off + r, none⟩ = some (.slice (A r) (L r) (C r)) ∧ L r ≤ 140737488355328
  el : ∀ r, r < n2 → ∀ c, c < L r → ∃ b off, A r = some ⟨b, off, none⟩ ∧ w.cell? ⟨b, off + c, none⟩ = some (.int .u8 (x r c)) ∧ 0 ≤ x r c ∧ x r c ≤ 255
theorem Inp.grow {w w' : World} {a1 a2 : Option Addr} {n1 n2 : Nat} {f : Nat → Int} {A : Nat → Option Addr} {L C : Nat → Nat} {x : Nat → Nat → Int} (h : Inp w a1 a2 n1 n2 f A L C x) (hb : Below w.heap.size w w') : Inp w' a1 a2 n1 n2 f A L C x := by
  refine ⟨fun k hk => ?_, fun r hr => ?_, fun r hr c hc => ?_⟩
  · obtain ⟨b, off, e, h1, h2⟩ := h.fr k hk
    exact ⟨b, off, e, (hb.cell (World.block_lt_of_cell? w _ h1)).trans h1, h2⟩
  · obtain ⟨b, off, e, h1, h2⟩ := h.lo r hr
    exact ⟨b, off, e, (hb.cell (World.block_lt_of_cell? w _ h1)).trans h1, h2⟩
  · obtain ⟨b, off, e, h1, h2⟩ := h.el r hr c hc
    exact ⟨b, off, e, (hb.cell (World.block_lt_of_cell? w _ h1)).trans h1, h2⟩

def md (z : Int) : Nat := (z % 5).toNat
theorem md_lt (z : Int) : md z < 5 := by unfold md; omega
theorem md_eq (z : Int) : z % 5 = (md z : Int) := by unfold md; omega

/-- Behind the second loop: the names, the map of peers. -/
structure Stage (m : Int) (w w1 : World) : Prop where
  names : ∀ i, i < 5 → w1.cell? ⟨w.heap.size, i, none⟩ = some (.string (nm i))
  peers : Peers m (w.heap.size + 2) (w.heap.size + 1) w1
  bel : Below w.heap.size w w1
  size : w.heap.size + 3 ≤ w1.heap.size
theorem Stage.grow {m : Int} {w w1 w2 : World} (h : Stage m w w1) (hb : Below w1.heap.size w1 w2) : Stage m w w2 :=
  ⟨fun i hi => (hb.cell (World.block_lt_of_cell? w1 _ (h.names i hi))).trans (h.names i hi), h.peers.grow hb, h.bel.trans (hb.mono h.bel.size), by have := hb.size; have := h.size; omega⟩

/-- In the second loop: the first k peers. -/
def PeerTo (m : Int) (w : World) (D : DataW Unit) (k i : Nat) : Prop :=
  (D.atKey (kl i) .nil = .nil ∧ (decide (i < k) && (bit m i == 1)) = false) ∨
  ∃ pb : Nat, D.atKey (kl i) .nil = .lit (.int .i64 pb) ∧ w.cell? ⟨pb, 3, none⟩ = some (.bool (bit m (i + 4) == 1)) ∧ (decide (i < k) && (bit m i == 1)) = true
structure Stage2 (m : Int) (w : World) (k : Nat) (w1 : World) : Prop where
  names : ∀ i, i < 5 → w1.cell? ⟨w.heap.size, i, none⟩ = some (.string (nm i))
  field : w1.cell? ⟨w.heap.size + 2, 35, none⟩ = some (.map (some (w.heap.size + 1)))
  map : ∃ D : DataW Unit, IsMap D ∧ w1.ownsMap Yba.prog 9 ptrElem (w.heap.size + 1) k D ∧ ∀ i, i < 5 → PeerTo m w1 D k i
  bel : Below w.heap.size w w1
  size : w.heap.size + 3 ≤ w1.heap.size

theorem Stage2.start (m : Int) (w : World) (cs : Array Value) (h35 : cs[35]? = some (.map (some (w.heap.size + 1)))) :
    Stage2 m w 0 (((w.alloc (.cells #[.string ⟨#[97]⟩, .string ⟨#[98]⟩, .string ⟨#[99]⟩, .string ⟨#[100]⟩, .string ⟨#[101]⟩] 24)).alloc (.map #[] 0)).alloc (.cells cs 99)) := by
  refine ⟨fun i hi => ?_, ?_, ⟨.map [], ⟨[], rfl⟩, ?_, fun i _ => .inl ⟨rfl, by simp⟩⟩, ?_, by simp⟩
  · have hh : (((w.alloc (.cells #[.string ⟨#[97]⟩, .string ⟨#[98]⟩, .string ⟨#[99]⟩, .string ⟨#[100]⟩, .string ⟨#[101]⟩] 24)).alloc (.map #[] 0)).alloc (.cells cs 99)).heap[w.heap.size]? = some (.cells #[.string ⟨#[97]⟩, .string ⟨#[98]⟩, .string ⟨#[99]⟩, .string ⟨#[100]⟩, .string ⟨#[101]⟩] 24 (0, 0)) := by
      rw [Below.heap_alloc _ _ _ (by simp; omega), Below.heap_alloc _ _ _ (by simp)]; exact heap_alloc_new w _
    rw [cell_of_row _ _ i _ 24 (0, 0) hh]
    have hi' : i = 0 ∨ i = 1 ∨ i = 2 ∨ i = 3 ∨ i = 4 := by omega
    rcases hi' with rfl | rfl | rfl | rfl | rfl <;> rfl
  · have : (((w.alloc (.cells #[.string ⟨#[97]⟩, .string ⟨#[98]⟩, .string ⟨#[99]⟩, .string ⟨#[100]⟩, .string ⟨#[101]⟩] 24)).alloc (.map #[] 0)).alloc (.cells cs 99)).heap[w.heap.size + 2]? = some (.cells cs 99 (0, 0)) := by
      have := heap_alloc_new ((w.alloc (.cells #[.string ⟨#[97]⟩, .string ⟨#[98]⟩, .string ⟨#[99]⟩, .string ⟨#[100]⟩, .string ⟨#[101]⟩] 24)).alloc (.map #[] 0)) (.cells cs 99)
      simpa using this
    rw [cell_of_row _ _ 35 cs 99 (0, 0) this]; exact h35
  · have := World.ownsMap_made (w.alloc (.cells #[.string ⟨#[97]⟩, .string ⟨#[98]⟩, .string ⟨#[99]⟩, .string ⟨#[100]⟩, .string ⟨#[101]⟩] 24)) Yba.prog 9 ptrElem
    have h2 := this.alloc (.cells cs 99)
    simpa using h2
  · exact (((Below.refl _ _).alloc (Nat.le_refl _) _).alloc (by simp) _).alloc (by simp; omega) _

theorem Stage2.done {m : Int} {w w1 : World} (h : Stage2 m w 4 w1) : Stage m w w1 := by
  obtain ⟨D, _, h1, h2⟩ := h.map
  exact ⟨h.names, ⟨h.field, D, h1, h2⟩, h.bel, h.size⟩
theorem Stage2.skip {m : Int} {w w1 : World} {k : Nat} (h : Stage2 m w k w1) (hb : (bit m k == 1) = false) : Stage2 m w (k + 1) w1 := by
  obtain ⟨D, hD, h1, h2⟩ := h.map
  refine ⟨h.names, h.field, ⟨D, hD, h1.mono (Nat.le_succ _), fun i hi => ?_⟩, h.bel, h.size⟩
  rcases h2 i hi with ⟨a, b⟩ | ⟨pb, a, b, c⟩
  · refine .inl ⟨a, ?_⟩
    by_cases e : i = k
    · subst e; simp [hb]
    · simp only [Bool.and_eq_false_iff, decide_eq_false_iff_not] at b ⊢
      rcases b with b | b
      · left; omega
      · right; exact b
  · refine .inr ⟨pb, a, b, ?_⟩
    simp only [Bool.and_eq_true, decide_eq_true_iff] at c ⊢
    exact ⟨by omega, c.2⟩
theorem kl_ne {i k : Nat} (hi : i < 5) (hk : k < 5) (h : i ≠ k) : kl i ≠ kl k := by
  intro e
  simp only [kl, Lit.string.injEq] at e
  exact h (nm_inj hi hk (by unfold nm at e ⊢; simpa using e))
theorem kl_key (k : Nat) : WideAt.IsKeyLit (kl k) := by unfold kl; trivial
/-- Behind the store of a new peer. -/
theorem Stage2.more {m : Int} {w w1 w2 : World} {k : Nat} {cs : Array Value} {D : DataW Unit} (h : Stage2 m w k w1) (hk : k < 4) (hb : (bit m k == 1) = true) (hc3 : cs[3]? = some (.bool (bit m (k + 4) == 1))) (hD : IsMap D) (hp : ∀ i, i < 5 → PeerTo m w1 D k i)
    (hown : w2.ownsMap Yba.prog 9 ptrElem (w.heap.size + 1) (k + 1) (D.put (kl k) (.lit (.int .i64 w1.heap.size)))) (hg : (w1.alloc (.cells cs 105)).grownBy w2 (some (w.heap.size + 1))) : Stage2 m w (k + 1) w2 := by
  have hsz := h.size
  have keep : ∀ {b o : Nat} {v : Value}, w1.cell? ⟨b, o, none⟩ = some v → b ≠ w.heap.size + 1 → w2.cell? ⟨b, o, none⟩ = some v := by
    intro b o v hv hne
    have hb1 := World.block_lt_of_cell? w1 _ hv
    refine hg.cell ?_ (by simpa using hne)
    rw [World.cell?_alloc_lt _ _ _ hb1]; exact hv
  have hmap : ∀ {o : Nat} {v : Value}, w1.cell? ⟨w.heap.size + 1, o, none⟩ ≠ some v := by
    obtain ⟨D', _, ⟨es, c, he, _⟩, _⟩ := h.map
    intro o v hv
    simp [World.cell?, he] at hv
  refine ⟨fun i hi => keep (h.names i hi) (by omega), keep h.field (by omega), ⟨_, ?_, hown, fun i hi => ?_⟩, ?_, by have := hg.size; simp at this; omega⟩
  · exact hD.put _ _
  · by_cases e : i = k
    · subst e
      refine .inr ⟨w1.heap.size, atKey_put_same hD (kl_key _) _ _, ?_, by simp [hb]⟩
      refine hg.cell ?_ (by simp; omega)
      rw [cell_of_row _ _ 3 cs 105 (0, 0) (heap_alloc_new w1 _)]; exact hc3
    · have hat := atKey_put_other (D := D) (k' := kl i) (k := kl k) (kl_ne hi (by omega) e) (.lit (.int .i64 w1.heap.size)) (.nil : DataW Unit)
      rcases hp i hi with ⟨a, b⟩ | ⟨pb, a, b, c⟩
      · refine .inl ⟨hat.trans a, ?_⟩
        simp only [Bool.and_eq_false_iff, decide_eq_false_iff_not] at b ⊢
        rcases b with b | b
        · left; omega
        · right; exact b
      · refine .inr ⟨pb, hat.trans a, keep b (fun e => hmap (e ▸ b)), ?_⟩
        simp only [Bool.and_eq_true, decide_eq_true_iff] at c ⊢
        exact ⟨by omega, c.2⟩
  · exact (h.bel.alloc h.bel.size _).grown hg (by simp; omega) (fun j hj => by cases hj; omega)

/-- The store of a new peer, as its run. -/
theorem store_peer {m : Int} {w w1 : World} {k : Nat} (h : Stage2 m w k w1) (hk : k < 4) (hb : (bit m k == 1) = true) :
    ∃ w2, (Instr.mapUpdate 26 (.map (some (w.heap.size + 1))) (.string (nm k)) (.pointer (some ⟨w1.heap.size, 0, none⟩))).run Yba.prog ((w1.alloc (.cells #[.string (nm k), .string ⟨#[]⟩, .pointer none, .bool (bits BinOp.and IntKind.u8 (m / 2 ^ (k + 4)) 1 == 1), .bool false, .int .u64 0, .int .i64 0, .pointer none, .chan none, .int .i32 0, .int .u32 0, .chan none, .slice none 0 0, .int .i64 0, .int .i64 0] 105)).drew) = .ok () w2 ∧ Stage2 m w (k + 1) w2 := by
  obtain ⟨D, hD, h1, h2⟩ := h.map
  obtain ⟨w2, hr, ho, hg⟩ := ((h1.alloc (.cells #[.string (nm k), .string ⟨#[]⟩, .pointer none, .bool (bits BinOp.and IntKind.u8 (m / 2 ^ (k + 4)) 1 == 1), .bool false, .int .u64 0, .int .i64 0, .pointer none, .chan none, .int .i32 0, .int .u32 0, .chan none, .slice none 0 0, .int .i64 0, .int .i64 0] 105)).drew).update (val := .pointer (some ⟨w1.heap.size, 0, none⟩)) (d := .lit (.int .i64 w1.heap.size)) (ps := []) law Yba.underlying26 (by unfold maxLen; omega) (keyOf_nm k) rfl
  exact ⟨w2, hr, h.more hk hb rfl hD h2 ho ⟨hg.os, hg.tape, hg.output, hg.size, hg.block⟩⟩

theorem sizeOf22 (w : World) : (sizeOf 22).run Yba.prog w = .ok 1 w := by kernel_rfl
theorem sizeOf5 (w : World) : (sizeOf 5).run Yba.prog w = .ok 1 w := by kernel_rfl
theorem sizeOf3 (w : World) : (sizeOf 3).run Yba.prog w = .ok 1 w := by kernel_rfl
theorem idx23 {a : Option Addr} {b off n c : Nat} {k : Nat} (ha : a = some ⟨b, off, none⟩) (hk : k < n) (w : World) : (Instr.indexAt 23 (.slice a n c) (.int .i64 k)).run Yba.prog w = .ok (.pointer (some ⟨b, off + k, none⟩)) w := by
  subst ha
  rw [run_indexAt_slice (h := by kernel_rfl), if_pos (by omega)]
  have e : Yba.prog.elem 23 = 22 := by kernel_rfl
  rw [e, sizeOf22]
  simp [Addr.add]
theorem idx22 {a : Option Addr} {b off n c : Nat} {k : Nat} (ha : a = some ⟨b, off, none⟩) (hk : k < n) (w : World) : (Instr.indexAt 22 (.slice a n c) (.int .i64 k)).run Yba.prog w = .ok (.pointer (some ⟨b, off + k, none⟩)) w := by
  subst ha
  rw [run_indexAt_slice (h := by kernel_rfl), if_pos (by omega)]
  have e : Yba.prog.elem 22 = 5 := by kernel_rfl
  rw [e, sizeOf5]
  simp [Addr.add]
theorem idx79 {a : Option Addr} {b off n c : Nat} {k : Nat} (ha : a = some ⟨b, off, none⟩) (hk : k < n) (w : World) : (Instr.indexAt 79 (.slice a n c) (.int .i64 k)).run Yba.prog w = .ok (.pointer (some ⟨b, off + k, none⟩)) w := by
  subst ha
  rw [run_indexAt_slice (h := by kernel_rfl), if_pos (by omega)]
  have e : Yba.prog.elem 79 = 3 := by kernel_rfl
  rw [e, sizeOf3]
  simp [Addr.add]

/-- A composite literal whose run is known, at the operation. -/
theorem wpList_build {P : Program} {w : World} {ops : Array Oper} {rest : List Oper} {o : Oper} {a : Act} {Q : Exit → Act → World → Prop} (hg : o.guard = none) (t : TypeId) (parts : Array (Nat × Operand)) (hop : o.op = Op.build t parts) (vals : Array (Nat × Value))
    (hv : (parts.map fun (i, x) => (i, a.eval x)) = vals) (cs : Array Value) (hrun : (Instr.build t vals).run P w = .ok (.agg cs) w) (h : wpList P ops Q rest (a.put o.dst (.agg cs)) w) : wpList P ops Q (o :: rest) a w := by
  subst hv
  refine wpList_plain hg fun K' hK' => ?_
  unfold Oper.wp
  simp only [execOp, hop, hrun, Sem.run_bind, Sem.run_pure, Result.andThen_ok]
  exact hK' _ _ h

/-- The member as it is built: its one map, all else at zero. -/
theorem member_built (b : Nat) : ∃ cs : Array Value, (∀ w : World, (Instr.build 99 #[(26, .map (some b))]).run Yba.prog w = .ok (.agg cs) w) ∧ cs.size = 90 ∧ cs[35]? = some (.map (some b)) :=
  ⟨#[.string ⟨#[]⟩, .string ⟨#[]⟩, .string ⟨#[]⟩, .int .u64 0, .pointer none, .pointer none, .nilIface, .nilIface, .pointer none, .pointer none, .pointer none, .chan none, .chan none, .chan none, .int .i64 0, .pointer none, .pointer none, .int .u64 0, .int .u32 0, .int .u32 0, .int .i32 0, .int .u32 0, .chan none, .chan none, .nilIface, .int .i32 0, .int .u32 0, .int .u32 0, .int .u32 0, .int .i32 0, .int .i32 0, .pointer none, .int .u64 0, .slice none 0 0, .map none, .map (some b), .map none, .int .i64 0, .int .u64 0, .slice none 0 0, .slice none 0 0, .int .i64 0, .int .i64 0, .int .u64 0, .slice none 0 0, .slice none 0 0, .int .u64 0, .int .u64 0, .int .u64 0, .slice none 0 0, .slice none 0 0, .slice none 0 0, .slice none 0 0, .int .i64 0, .int .i64 0, .int .i64 0, .slice none 0 0, .slice none 0 0, .slice none 0 0, .int .i64 0, .slice none 0 0, .int .i64 0, .slice none 0 0, .bool false, .slice none 0 0, .pointer none, .map none, .map none, .int .i64 0, .slice none 0 0, .string ⟨#[]⟩, .slice none 0 0, .bool false, .int .i64 0, .pointer none, .map none, .bool false, .nilIface, .bool false, .int .u64 0, .int .i64 0, .pointer none, .slice none 0 0, .map none, .pointer none, .int .u64 0, .slice none 0 0, .slice none 0 0, .string ⟨#[]⟩, .chan none], fun _ => by kernel_rfl, rfl, rfl⟩
/-- A peer as it is built. -/
theorem peer_built (s : ByteArray) (l : Bool) : ∃ cs : Array Value, (∀ w : World, (Instr.build 105 #[(0, .string s), (3, .bool l)]).run Yba.prog w = .ok (.agg cs) w) ∧ cs.size = 15 ∧ cs[3]? = some (.bool l) :=
  ⟨#[.string s, .string ⟨#[]⟩, .pointer none, .bool l, .bool false, .int .u64 0, .int .i64 0, .pointer none, .chan none, .int .i32 0, .int .u32 0, .chan none, .slice none 0 0, .int .i64 0, .int .i64 0], fun _ => by kernel_rfl, rfl, rfl⟩
end Go.Proofs.Ybulknhc
