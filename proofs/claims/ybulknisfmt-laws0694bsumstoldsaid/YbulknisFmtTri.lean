import Derived.Test.YbulknisFmtIn
namespace Go.Proofs.YbulknisFmt
open Go.RowKit

/-- Two rows lie in two blocks. -/
def Apart (v u : Value) : Prop := ∀ k, v.ownBlock = some k → u.ownBlock ≠ some k
theorem Apart.symm {v u : Value} (h : Apart v u) : Apart u v := fun k hk e => h k e hk
theorem Apart.nil (n c : Nat) (u : Value) : Apart (.slice none n c) u := fun k hk => by simp [Value.ownBlock] at hk

/-- The law's three rows of lots. -/
structure Tri (w : World) (LB LA LW : List Lot) (vb va vw : Value) (wr : World) : Prop where
  b : OwnL wr w.heap.size vb LB
  a : OwnL wr w.heap.size va LA
  wt : OwnL wr w.heap.size vw LW
  ba : Apart vb va
  bw : Apart vb vw
  aw : Apart va vw
  keep : Keep (fun _ => False) w wr
theorem Tri.start (w : World) : Tri w [] [] [] (.slice none 0 0) (.slice none 0 0) (.slice none 0 0) w :=
  ⟨OwnL.nil _ _, OwnL.nil _ _, OwnL.nil _ _, Apart.nil _ _ _, Apart.nil _ _ _, Apart.nil _ _ _, Keep.refl _ _⟩
theorem Tri.rot {w wr : World} {LB LA LW : List Lot} {vb va vw : Value} (h : Tri w LB LA LW vb va vw wr) : Tri w LA LW LB va vw vb wr := ⟨h.a, h.wt, h.b, h.aw, h.ba.symm, h.bw.symm, h.keep⟩
theorem Tri.keepT {T : Nat → Prop} {w wr w' : World} {LB LA LW : List Lot} {vb va vw : Value} (h : Tri w LB LA LW vb va vw wr) (hk : Keep T wr w') (hT : ∀ k, T k → w.heap.size ≤ k ∧ vb.ownBlock ≠ some k ∧ va.ownBlock ≠ some k ∧ vw.ownBlock ≠ some k) : Tri w LB LA LW vb va vw w' :=
  ⟨h.b.keep hk (fun k e hk' => (hT k hk').2.1 e), h.a.keep hk (fun k e hk' => (hT k hk').2.2.1 e), h.wt.keep hk (fun k e hk' => (hT k hk').2.2.2 e), h.ba, h.bw, h.aw, h.keep.trans hk (fun k hk' hT' => by have := (hT k hT').1; omega)⟩
theorem Tri.keep0 {w wr w' : World} {LB LA LW : List Lot} {vb va vw : Value} (h : Tri w LB LA LW vb va vw wr) (hk : Keep (fun _ => False) wr w') : Tri w LB LA LW vb va vw w' := h.keepT hk (fun _ h => h.elim)
/-- The first row is turned, where it lies or in a new block. -/
theorem Tri.app {w wr w' : World} {LB LA LW LB' : List Lot} {vb va vw vb' : Value} (h : Tri w LB LA LW vb va vw wr) (hk : Keep (fun k => some k = vb.ownBlock) wr w') (ho : OwnL w' w.heap.size vb' LB') (hat : vb'.ownBlock = vb.ownBlock ∨ ∃ k, vb'.ownBlock = some k ∧ wr.heap.size ≤ k) :
    Tri w LB' LA LW vb' va vw w' := by
  refine ⟨ho, h.a.keep hk (fun k e e' => h.ba k e'.symm e), h.wt.keep hk (fun k e e' => h.bw k e'.symm e), ?_, ?_, h.aw, h.keep.trans hk (fun k hk' e => by have := (h.b.lt k e.symm).1; omega)⟩
  · intro k hk' e
    rcases hat with h1 | ⟨k', h1, h2⟩
    · exact h.ba k (h1 ▸ hk') e
    · rw [h1] at hk'; cases hk'; have := (h.a.lt _ e).2; omega
  · intro k hk' e
    rcases hat with h1 | ⟨k', h1, h2⟩
    · exact h.bw k (h1 ▸ hk') e
    · rw [h1] at hk'; cases hk'; have := (h.wt.lt _ e).2; omega

/-- The second loop: k of the added lots are in the book. -/
structure Jb (w : World) (LB LA LW : List Lot) (vb va vw : Value) (B k : Nat) (v2 : Value) (f : Int) (wr : World) : Prop where
  tri : Tri w LB LA LW vb va vw wr
  book : BookAt wr B vb v2 f
  own : OwnL wr w.heap.size v2 (LA.take k)
  fst : ∀ x ∈ LA.take k, f ≤ x.reg
  ab : Apart v2 vb
  aa : Apart v2 va
  aw : Apart v2 vw
theorem firstOf_le {A : List Lot} {f : Int} {x : Lot} (h : ∀ y ∈ A, f ≤ y.reg) : ∀ y ∈ A ++ [x], firstOf A f x ≤ y.reg := by
  intro y hy
  unfold firstOf
  rcases List.mem_append.1 hy with h1 | h1
  · have h0 : ¬ A.length = 0 := fun e => by rw [List.eq_nil_of_length_eq_zero e] at h1; cases h1
    have := h y h1
    split <;> omega
  · obtain rfl := List.mem_singleton.1 h1
    split <;> omega
theorem Jb.next {w wr wa w' : World} {LB LA LW : List Lot} {vb va vw v2 v2' : Value} {B k : Nat} {f : Int} (h : Jb w LB LA LW vb va vw B k v2 f wr) (hB : w.heap.size ≤ B) (hk : k < LA.length) (hka : Keep (fun _ => False) wr wa)
    (h1 : BookAt w' B vb v2' (firstOf (LA.take k) f (lotAt LA k))) (h2 : OwnL w' w.heap.size v2' (LA.take k ++ [(lotAt LA k)])) (h3 : v2'.ownBlock = v2.ownBlock ∨ ∃ k, v2'.ownBlock = some k ∧ wa.heap.size ≤ k) (h4 : Keep (fun k => k = B ∨ some k = v2.ownBlock) wa w') :
    Jb w LB LA LW vb va vw B (k + 1) v2' (firstOf (LA.take k) f (lotAt LA k)) w' := by
  have t1 := h.tri.keep0 hka
  have hs := hka.size
  have ap : ∀ {u : Value} {L : List Lot}, Apart v2 u → OwnL wr w.heap.size u L → Apart v2' u := fun hu hou k' hk' e => by
    rcases h3 with h5 | ⟨k2, h5, h6⟩
    · exact hu k' (h5 ▸ hk') e
    · rw [h5] at hk'; cases hk'; have := (hou.lt _ e).2; omega
  refine ⟨t1.keepT h4 (fun k' hT => ?_), h1, ?_, ?_, ap h.ab h.tri.b, ap h.aa h.tri.a, ap h.aw h.tri.wt⟩
  · rcases hT with rfl | e
    · exact ⟨hB, h.book.ne h.tri.b, h.book.ne h.tri.a, h.book.ne h.tri.wt⟩
    · exact ⟨(h.own.lt k' e.symm).1, h.ab k' e.symm, h.aa k' e.symm, h.aw k' e.symm⟩
  · rw [take_snoc hk]; exact h2
  · rw [take_snoc hk]; exact firstOf_le h.fst
theorem Jb.done {w wr w' : World} {LB LA LW : List Lot} {vb va vw v2 : Value} {B k : Nat} {f : Int} (h : Jb w LB LA LW vb va vw B k v2 f wr) (hB : w.heap.size ≤ B) (hk : Keep (fun k => k = B ∨ some k = v2.ownBlock) wr w') : Tri w LB LA LW vb va vw w' :=
  h.tri.keepT hk (fun k' hT => by
    rcases hT with rfl | e
    · exact ⟨hB, h.book.ne h.tri.b, h.book.ne h.tri.a, h.book.ne h.tri.wt⟩
    · exact ⟨(h.own.lt k' e.symm).1, h.ab k' e.symm, h.aa k' e.symm, h.aw k' e.symm⟩)
theorem OwnE.neL {w : World} {base base' : Nat} {v u : Value} {G : List Ent} {L : List Lot} (h : OwnE w base v G) (hl : OwnL w base' u L) : Apart v u := by
  intro k h1 h2
  obtain ⟨c1, e1⟩ := h.block h1
  obtain ⟨c2, e2⟩ := hl.block h2
  rw [e1] at e2
  cases e2
theorem Ew.below {w wr w' : World} {a g : Fin 4} {fd : Fin 3} {b1 b2 : Nat} {s : Int} (h : Ew w a g fd b1 b2 s wr) (hb : Below wr.heap.size wr w') : Ew w a g fd b1 b2 s w' :=
  ⟨(hb.block b1 (lt_of_block h.hold)).trans h.hold, (hb.block b2 (lt_of_block h.held)).trans h.held, h.keep.trans (Keep.ofBelow hb) (fun _ _ h => h)⟩

/-- What the law wants is what Entitled's lots come to. -/
theorem want_got (zs : Nat → Z) (n : Nat) (c : Fin 3) (d f : Int) (L1 Lg L : List Lot) (hp1 : L1.Perm (baseL zs n)) (hp : L.Perm (wantL zs c d n)) (hf : ∀ x ∈ addL zs n, f ≤ x.reg)
    (hg : 0 < (addL zs n).length ∧ f < d + 1 ∧ Lg.Perm (L1 ++ addL zs n) ∨ ¬ (0 < (addL zs n).length ∧ f < d + 1) ∧ Lg = L1) (q : Nat) : S c d Lg q = S c d L q := by
  have e1 : S c d L q = S c d (baseL zs n ++ addL zs n) q := by rw [← want_S]; exact sumL_perm _ hp
  rw [e1]
  rcases hg with ⟨_, _, h⟩ | ⟨h, rfl⟩
  · unfold S
    rw [sumL_perm _ h]
    exact sumL_perm _ (hp1.append_right _)
  · unfold S
    rw [sumL_append, sumL_perm _ hp1, sumL_zero (L := addL zs n), Int.add_zero]
    intro x hx
    have hl : 0 < (addL zs n).length := List.length_pos_of_mem hx
    have h1 := hf x hx
    unfold gq
    rw [if_neg]
    rintro ⟨_, _, h2⟩
    exact h ⟨hl, by omega⟩

theorem encE_len (x : Ent) : (encE x).length = 5 := rfl
theorem flatE_get : ∀ (L : List Ent) (k c : Nat), k < L.length → c < 5 → (flatE L)[k * 5 + c]? = (encE (entAt L k))[c]?
  | [], k, c, hk, _ => by simp at hk
  | x :: l, 0, c, _, hc => by
    have e : flatE (x :: l) = encE x ++ flatE l := rfl
    rw [e, Nat.zero_mul, Nat.zero_add, List.getElem?_append_left (by rw [encE_len]; exact hc)]
    rfl
  | x :: l, k + 1, c, hk, hc => by
    have e : flatE (x :: l) = encE x ++ flatE l := rfl
    have hk' : k < l.length := by simpa using hk
    rw [e, List.getElem?_append_right (by rw [encE_len]; omega), encE_len, show (k + 1) * 5 + c - 5 = k * 5 + c by omega, flatE_get l k c hk' hc]
    rfl
/-- One entitlement's cells. -/
structure EntAt (w : World) (b o : Nat) (x : Ent) : Prop where
  c0 : w.cell? ⟨b, o, none⟩ = some (.string (nm x.acc))
  c1 : w.cell? ⟨b, o + 1, none⟩ = some (.string (nm x.ag))
  c2 : w.cell? ⟨b, o + 2, none⟩ = some (.string (fdn x.fd))
  c3 : w.cell? ⟨b, o + 3, none⟩ = some (.int .i64 x.sum)
  c4 : w.cell? ⟨b, o + 4, none⟩ = some (.int .i32 2)
theorem EntAt.of_block {w w' : World} {b o : Nat} {x : Ent} (h : EntAt w b o x) (e : w'.heap[b]? = w.heap[b]?) : EntAt w' b o x :=
  ⟨(World.cell?_of_block e).trans h.c0, (World.cell?_of_block e).trans h.c1, (World.cell?_of_block e).trans h.c2, (World.cell?_of_block e).trans h.c3, (World.cell?_of_block e).trans h.c4⟩
theorem OwnE.at {w : World} {base : Nat} {v : Value} {G : List Ent} (h : OwnE w base v G) (k : Nat) (hk : k < G.length) : ∃ g cap, v = .slice (some ⟨g, 0, none⟩) G.length cap ∧ EntAt w g (k * 5) (entAt G k) := by
  rcases h.2 with ⟨h0, h1⟩ | ⟨g, cap, cur, rfl, h1, h2, h3⟩
  · omega
  · refine ⟨g, cap, rfl, ?_⟩
    have at' : ∀ c, c < 5 → w.cell? ⟨g, k * 5 + c, none⟩ = (encE (entAt G k))[c]? := fun c hc => by
      rw [World.ownsRow.cellAt h (k * 5 + c) (by omega), flatE_get G k c hk hc]
    exact ⟨at' 0 (by omega), at' 1 (by omega), at' 2 (by omega), at' 3 (by omega), at' 4 (by omega)⟩
theorem sizeOf61 (w : World) : (sizeOf 61).run Ybaf.prog w = .ok 5 w := by kernel_rfl
theorem idx52 {b n c : Nat} {k : Nat} (hk : k < n) (w : World) : (Instr.indexAt 52 (.slice (some ⟨b, 0, none⟩) n c) (.int .i64 k)).run Ybaf.prog w = .ok (.pointer (some ⟨b, k * 5, none⟩)) w := by
  rw [run_indexAt_slice (h := by kernel_rfl), if_pos (by omega)]
  have e : Ybaf.prog.elem 52 = 61 := by kernel_rfl
  rw [e, sizeOf61]
  simp [Addr.add]
  exact fun h => h.symm
theorem neHb (a g : Fin 4) (f : Fin 3) (w : World) : (binOp .neq 56 (.agg #[.string (nm a), .string (nm g), .string (fdn f)]) (.agg #[.string (nm a), .string (nm g), .string (fdn f)])).run Ybaf.prog w = .ok (.bool false) w := by
  rw [run_neq_struct, eqH]
  simp [Result.andThen]
/-- The run's own entitlement lies where the law looks for it. -/
theorem run_got {L : List Lot} {i j : Nat} (h : Run L i j) (hs : Sorted L) {c : Fin 3} {d : Int} (h0 : S c d L (kn (lotAt L i)) ≠ 0) :
    (ents c d L (bound L i)).length < (ents c d L 48).length ∧ entAt (ents c d L 48) (ents c d L (bound L i)).length = ⟨(lotAt L i).acc, (lotAt L i).ag, (lotAt L i).fd, S c d L (kn (lotAt L i))⟩ ∧ (ents c d L (bound L j)).length = (ents c d L (bound L i)).length + 1 := by
  have e := h.ents hs c d
  unfold emit at e
  rw [if_neg h0] at e
  obtain ⟨r, hr⟩ := canon_le (c := c) (d := d) (L := L) (bound_le L j)
  have e48 : ents c d L 48 = ents c d L (bound L j) ++ r.map entOf := by unfold ents; rw [hr, List.map_append]
  rw [e48, e]
  refine ⟨by simp, ?_, by simp⟩
  rw [List.append_assoc]
  simp [entAt]
theorem run_got0 {L : List Lot} {i j : Nat} (h : Run L i j) (hs : Sorted L) {c : Fin 3} {d : Int} (h0 : S c d L (kn (lotAt L i)) = 0) : ents c d L (bound L j) = ents c d L (bound L i) := by
  rw [h.ents hs c d]; unfold emit; rw [if_pos h0]
end Go.Proofs.YbulknisFmt
