import Derived.Test.YbulknjuRows
import Derived.WalkKit
import Derived.WalkSpells
import Derived.WalkLawsBesides
import Derived.Deep.QuietTactic
import Derived.BigQuiet
import Derived.OneCell
import Derived.Deep.DeepCutAuto
import Derived.Deep.CutBlock
import Derived.OpenShut
import Derived.Deep.RegionWith
import Derived.Deep.RegionHeld3
import Derived.Deep.RegionLaw
import Derived.Deep.AppendLies
import Derived.Deep.OwnRows
import Derived.Maps.AppendAt
/-
  Memory by roles: a ghost function tells each block's role; blocks of two roles are two blocks.
-/
namespace Go.Proofs.Ybulknju
open Go.RowKit

/-- Out of the walk's sight. -/
def Hid (p : Prop) : Prop := p
theorem hide {p : Prop} (h : p) : Hid p := h
theorem Hid.out {p : Prop} (h : Hid p) : p := h

/-- A role: its number, and up to two numbers that tell it from others of its kind. -/
abbrev Role := Nat × Nat × Nat
abbrev Role.no : Role := (0, 0, 0)
abbrev Role.chk : Role := (1, 0, 0)
abbrev Role.arr : Role := (2, 0, 0)
abbrev Role.last : Role := (3, 0, 0)
abbrev Role.ops : Role := (4, 0, 0)
abbrev Role.frm : Role := (5, 0, 0)
abbrev Role.swp : Role := (6, 0, 0)
abbrev Role.proc (p : Nat) : Role := (7, p, 0)
abbrev Role.procs : Role := (8, 0, 0)
abbrev Role.lay : Role := (9, 0, 0)
abbrev Role.key : Role := (10, 0, 0)
abbrev Role.prc : Role := (11, 0, 0)
abbrev Role.pos : Role := (12, 0, 0)
abbrev Role.src : Role := (13, 0, 0)
abbrev Role.rdH : Role := (14, 0, 0)
abbrev Role.rd (s : Nat) : Role := (15, s, 0)
abbrev Role.swH : Role := (16, 0, 0)
abbrev Role.mp : Role := (17, 0, 0)
abbrev Role.gr : Role := (18, 0, 0)
abbrev Role.suH : Role := (19, 0, 0)
abbrev Role.su (u : Nat) : Role := (20, u, 0)
abbrev Role.prH : Role := (21, 0, 0)
abbrev Role.pr (v : Nat) : Role := (22, v, 0)
abbrev Role.clo : Role := (23, 0, 0)
abbrev Role.cols : Role := (24, 0, 0)
abbrev Role.cof : Role := (25, 0, 0)
abbrev Role.cat : Role := (26, 0, 0)
abbrev Role.wrH : Role := (27, 0, 0)
abbrev Role.wrK (k : Nat) : Role := (28, k, 0)
abbrev Role.wr (k : Nat) (c : Nat) : Role := (29, k, c)
abbrev Role.reH : Role := (30, 0, 0)
abbrev Role.reK (k : Nat) : Role := (31, k, 0)
abbrev Role.re (k : Nat) (c : Nat) : Role := (32, k, c)
abbrev Role.loH : Role := (33, 0, 0)
abbrev Role.reach : Role := (34, 0, 0)
abbrev Role.hkH : Role := (35, 0, 0)
abbrev Role.hkK (k : Nat) : Role := (36, k, 0)
abbrev Role.drops : Role := (37, 0, 0)
abbrev Role.tmp (i : Nat) : Role := (38, i, 0)

abbrev Rho := Nat → Role
/-- The new blocks' role is r. -/
def ext (ρ : Rho) (w : World) (r : Role) : Rho := fun k => if k < w.heap.size then ρ k else r
theorem ext_old {ρ : Rho} {w : World} {r : Role} {k : Nat} (h : k < w.heap.size) : ext ρ w r k = ρ k := if_pos h
theorem ext_new {ρ : Rho} {w : World} {r : Role} {k : Nat} (h : w.heap.size ≤ k) : ext ρ w r k = r := if_neg (by omega)

/-- Of the old blocks only those of the roles R have turned. -/
structure Stp (R : Role → Prop) (ρ : Rho) (w : World) (ρ' : Rho) (w' : World) : Prop where
  os : w'.os = w.os
  tape : w'.tape = w.tape
  output : w'.output = w.output
  size : w.heap.size ≤ w'.heap.size
  block : ∀ k, k < w.heap.size → ¬ R (ρ k) → w'.heap[k]? = w.heap[k]?
  role : ∀ k, k < w.heap.size → ρ' k = ρ k
theorem Stp.refl (R : Role → Prop) (ρ : Rho) (w : World) : Stp R ρ w ρ w := ⟨rfl, rfl, rfl, Nat.le_refl _, fun _ _ _ => rfl, fun _ _ => rfl⟩
theorem Stp.trans {R : Role → Prop} {ρ ρ1 ρ2 : Rho} {w w1 w2 : World} (h : Stp R ρ w ρ1 w1) (h' : Stp R ρ1 w1 ρ2 w2) : Stp R ρ w ρ2 w2 :=
  ⟨h'.os.trans h.os, h'.tape.trans h.tape, h'.output.trans h.output, Nat.le_trans h.size h'.size, fun k hk hn => (h'.block k (Nat.lt_of_lt_of_le hk h.size) (by rw [h.role k hk]; exact hn)).trans (h.block k hk hn), fun k hk => (h'.role k (Nat.lt_of_lt_of_le hk h.size)).trans (h.role k hk)⟩
theorem Stp.mono {R R' : Role → Prop} {ρ ρ' : Rho} {w w' : World} (h : Stp R ρ w ρ' w') (hr : ∀ r, R r → R' r) : Stp R' ρ w ρ' w' := ⟨h.os, h.tape, h.output, h.size, fun k hk hn => h.block k hk fun hR => hn (hr _ hR), h.role⟩
theorem Stp.below {R : Role → Prop} {ρ ρ' : Rho} {w w' : World} (h : Stp R ρ w ρ' w') (hn : ∀ k, k < w.heap.size → ¬ R (ρ k)) : Below w.heap.size w w' := ⟨h.os, h.tape, h.output, h.size, fun k hk => h.block k hk (hn k hk)⟩
theorem Stp.ofBelow {R : Role → Prop} {ρ : Rho} {w w' : World} (h : Below w.heap.size w w') (r : Role) : Stp R ρ w (ext ρ w r) w' := ⟨h.os, h.tape, h.output, h.size, fun k hk _ => h.block k hk, fun _ hk => ext_old hk⟩
theorem Stp.ofBelow' {R : Role → Prop} {ρ ρ' : Rho} {w w' : World} (h : Below w.heap.size w w') (hr : ∀ k, k < w.heap.size → ρ' k = ρ k) : Stp R ρ w ρ' w' := ⟨h.os, h.tape, h.output, h.size, fun k hk _ => h.block k hk, hr⟩
theorem Stp.alloc {R : Role → Prop} {ρ ρ1 : Rho} {w w1 : World} (h : Stp R ρ w ρ1 w1) (o : Obj) (r : Role) : Stp R ρ w (ext ρ1 w1 r) (w1.alloc o) := h.trans (Stp.ofBelow ((Below.refl _ _).alloc (Nat.le_refl _) o) r)
theorem Stp.setCell {R : Role → Prop} {ρ ρ1 : Rho} {w w1 : World} (h : Stp R ρ w ρ1 w1) (p : Addr) (v : Value) (hp : R (ρ1 p.block)) : Stp R ρ w ρ1 (w1.setCell p v) :=
  h.trans ⟨rfl, rfl, rfl, by simp, fun k _ hn => Below.heap_setCell _ _ _ _ (by rintro rfl; exact hn hp), fun _ _ => rfl⟩
theorem Stp.drewN {R : Role → Prop} {ρ ρ1 : Rho} {w w1 : World} (h : Stp R ρ w ρ1 w1) (q : Nat) : Stp R ρ w ρ1 (w1.drewN q) := ⟨h.os, h.tape, h.output, h.size, h.block, h.role⟩
theorem Stp.reRole {R : Role → Prop} {ρ ρ1 ρ2 : Rho} {w w1 : World} (h : Stp R ρ w ρ1 w1) (hr : ∀ k, k < w.heap.size → ρ2 k = ρ1 k) : Stp R ρ w ρ2 w1 := ⟨h.os, h.tape, h.output, h.size, h.block, fun k hk => (hr k hk).trans (h.role k hk)⟩

theorem lt_blk {w : World} {b : Nat} {o : Obj} (h : w.heap[b]? = some o) : b < w.heap.size := (Array.getElem?_eq_some_iff.1 h).1
theorem cell_blk {w : World} {b i : Nat} {cs : Array Value} {t : TypeId} {v : Value} (h : w.heap[b]? = some (.cells cs t (0, 0))) (hv : cs[i]? = some v) : w.cell? ⟨b, i, none⟩ = some v := by
  rw [cell_of_row w b i cs t (0, 0) h]; exact hv
theorem free_blk {w : World} {b : Nat} {cs : Array Value} {t : TypeId} (h : w.heap[b]? = some (.cells cs t (0, 0))) (i : Nat) : w.frozen? ⟨b, i, none⟩ = false := frozen_of_row _ _ _ _ _ h
theorem heap_set {w : World} {b o : Nat} {cur : Array Value} {t : TypeId} (h : w.heap[b]? = some (.cells cur t (0, 0))) (v : Value) : (w.setCell ⟨b, o, none⟩ v).heap[b]? = some (.cells (cur.setIfInBounds o v) t (0, 0)) :=
  heap_setCell_same w b o cur t v h

/-- A struct, an array, a boxed variable. -/
structure St (ρ : Rho) (w : World) (r : Role) (b : Nat) (T : TypeId) (cs : Array Value) : Prop where
  blk : w.heap[b]? = some (.cells cs T (0, 0))
  role : ρ b = r
theorem St.keep {R : Role → Prop} {ρ ρ' : Rho} {w w' : World} {r : Role} {b : Nat} {T : TypeId} {cs : Array Value} (h : St ρ w r b T cs) (hk : Stp R ρ w ρ' w') (hr : ¬ R r) : St ρ' w' r b T cs :=
  ⟨(hk.block b (lt_blk h.blk) (by rw [h.role]; exact hr)).trans h.blk, (hk.role b (lt_blk h.blk)).trans h.role⟩
theorem St.new {ρ : Rho} {w : World} {r : Role} {T : TypeId} {cs : Array Value} : St (ext ρ w r) (w.alloc (.cells cs T)) r w.heap.size T cs := ⟨heap_alloc_new w _, ext_new (Nat.le_refl _)⟩
theorem St.cell {ρ : Rho} {w : World} {r : Role} {b : Nat} {T : TypeId} {cs : Array Value} (h : St ρ w r b T cs) (i : Nat) {v : Value} (hv : cs[i]? = some v) : w.cell? ⟨b, i, none⟩ = some v := cell_blk h.blk hv
theorem St.free {ρ : Rho} {w : World} {r : Role} {b : Nat} {T : TypeId} {cs : Array Value} (h : St ρ w r b T cs) (i : Nat) : w.frozen? ⟨b, i, none⟩ = false := free_blk h.blk i
theorem St.set {ρ : Rho} {w : World} {r : Role} {b : Nat} {T : TypeId} {cs : Array Value} (h : St ρ w r b T cs) (i : Nat) (v : Value) : St ρ (w.setCell ⟨b, i, none⟩ v) r b T (cs.setIfInBounds i v) := ⟨heap_set h.blk v, h.role⟩

/-- A slice of the call's own in a block of the role r. -/
structure Row (ρ : Rho) (w : World) (r : Role) (e : TypeId) (size : Nat) (v : Value) (n : Nat) (xs : List Value) : Prop where
  own : w.ownsRow 0 e size v n xs
  role : ∀ k, v.ownBlock = some k → ρ k = r
theorem Row.nil (ρ : Rho) (w : World) (r : Role) (e : TypeId) (size : Nat) : Row ρ w r e size (.slice none 0 0) 0 [] := ⟨World.ownsRow_nil _ _ _ _, fun k hk => by simp [Value.ownBlock] at hk⟩
theorem Row.lt {ρ : Rho} {w : World} {r : Role} {e : TypeId} {size : Nat} {v : Value} {n : Nat} {xs : List Value} (h : Row ρ w r e size v n xs) {k : Nat} (hk : v.ownBlock = some k) : k < w.heap.size := (h.own.lt k hk).2
theorem Row.keep {R : Role → Prop} {ρ ρ' : Rho} {w w' : World} {r : Role} {e : TypeId} {size : Nat} {v : Value} {n : Nat} {xs : List Value} (h : Row ρ w r e size v n xs) (hk : Stp R ρ w ρ' w') (hr : ¬ R r) : Row ρ' w' r e size v n xs := by
  refine ⟨⟨h.own.1, ?_⟩, fun k hv => (hk.role k (h.lt hv)).trans (h.role k hv)⟩
  rcases h.own.2 with h0 | ⟨g, cap, cur, rfl, h1, h2, h3⟩
  · exact .inl h0
  · exact .inr ⟨g, cap, cur, rfl, h1, (hk.block g (lt_blk h2) (by rw [h.role g rfl]; exact hr)).trans h2, h3⟩
theorem Row.form {ρ : Rho} {w : World} {r : Role} {e : TypeId} {size : Nat} {v : Value} {n : Nat} {xs : List Value} (h : Row ρ w r e size v n xs) : ∃ a cap, v = .slice a n cap ∧ n ≤ cap ∧ cap ≤ maxLen := by
  rcases h.own.2 with ⟨rfl, h0⟩ | ⟨g, cap, cur, rfl, _, _, h1, h2, _⟩
  · exact ⟨none, 0, by rw [h0], by omega, by simp⟩
  · exact ⟨_, cap, rfl, h1, h2⟩
theorem Row.has {ρ : Rho} {w : World} {r : Role} {e : TypeId} {size : Nat} {v : Value} {n : Nat} {xs : List Value} (h : Row ρ w r e size v n xs) (hn : 0 < n) : ∃ g cap, v = .slice (some ⟨g, 0, none⟩) n cap ∧ n ≤ cap ∧ ρ g = r ∧ g < w.heap.size := by
  rcases h.own.2 with ⟨rfl, h0⟩ | ⟨g, cap, cur, rfl, _, hg, h1, h2, _⟩
  · omega
  · exact ⟨g, cap, rfl, h1, h.role g rfl, lt_blk hg⟩
theorem Row.cell {ρ : Rho} {w : World} {r : Role} {e : TypeId} {size : Nat} {n : Nat} {xs : List Value} {g cap : Nat} (h : Row ρ w r e size (.slice (some ⟨g, 0, none⟩) n cap) n xs) {j : Nat} (hj : j < n * size) : w.cell? ⟨g, j, none⟩ = xs[j]? := h.own.cellAt j hj
theorem Row.free {ρ : Rho} {w : World} {r : Role} {e : TypeId} {size : Nat} {n : Nat} {xs : List Value} {g cap : Nat} (h : Row ρ w r e size (.slice (some ⟨g, 0, none⟩) n cap) n xs) (j : Nat) : w.frozen? ⟨g, j, none⟩ = false := h.own.frozenAt j
theorem Row.set {ρ : Rho} {w : World} {r : Role} {e : TypeId} {size : Nat} {n : Nat} {xs : List Value} {g cap : Nat} (h : Row ρ w r e size (.slice (some ⟨g, 0, none⟩) n cap) n xs) (j : Nat) (u : Value) : Row ρ (w.setCell ⟨g, j, none⟩ u) r e size (.slice (some ⟨g, 0, none⟩) n cap) n (xs.set j u) := ⟨(h.own.stored j u).1, h.role⟩
theorem Row.made {ρ : Rho} {w : World} {r : Role} {e : TypeId} {n : Nat} (z : Value) (hm : n ≤ maxLen) : Row (ext ρ w r) (w.alloc (.cells (madeCells #[z] n) e)) r e 1 (.slice (some ⟨w.heap.size, 0, none⟩) n n) n (List.replicate n z) :=
  ⟨by rw [← toList_madeCells_one]; exact World.ownsRow_lit w _ n (Nat.zero_le _) hm (by rw [size_madeCells]; omega), fun k hk => by cases hk; exact ext_new (Nat.le_refl _)⟩
/-- Behind an append: the row where it lies, or in a new block. -/
theorem Row.grown {R : Role → Prop} {ρ ρ1 : Rho} {w w1 w' : World} {r : Role} {e : TypeId} {size : Nat} {v v' : Value} {n n' : Nat} {xs xs' : List Value} (h : Row ρ w r e size v n xs) (hk : Stp R ρ w ρ1 w1) (hg : w1.grownBy w' v.ownBlock) (ho : w'.ownsRow 0 e size v' n' xs')
    (hat : v.ownBlock = v'.ownBlock ∨ ∀ k, v'.ownBlock = some k → w1.heap.size ≤ k) (hR : R r) : Stp R ρ w (ext ρ1 w1 r) w' ∧ Row (ext ρ1 w1 r) w' r e size v' n' xs' := by
  refine ⟨hk.trans ⟨hg.os, hg.tape, hg.output, hg.size, fun k hk' hn => hg.block k hk' (fun e' => hn ?_), fun k hk' => ext_old hk'⟩, ho, fun k hv => ?_⟩
  · have hb := h.lt e'.symm
    rw [hk.role k hb, h.role k e'.symm]; exact hR
  · rcases hat with e' | h1
    · rw [← e'] at hv
      have hb := h.lt hv
      rw [ext_old (Nat.lt_of_lt_of_le hb hk.size), hk.role k hb]; exact h.role k hv
    · exact ext_new (h1 k hv)

/-- Rows of numbers. -/
def nv (x : Nat) : Value := .int .i64 (x : Int)
def NRow (ρ : Rho) (w : World) (r : Role) (v : Value) (l : List Nat) : Prop := Row ρ w r 3 1 v l.length (l.map nv)
theorem nv_one (x : Nat) : (nv x).oneCell' = true := rfl
theorem NRow.nil (ρ : Rho) (w : World) (r : Role) : NRow ρ w r (.slice none 0 0) [] := Row.nil _ _ _ _ _
theorem NRow.keep {R : Role → Prop} {ρ ρ' : Rho} {w w' : World} {r : Role} {v : Value} {l : List Nat} (h : NRow ρ w r v l) (hk : Stp R ρ w ρ' w') (hr : ¬ R r) : NRow ρ' w' r v l := Row.keep h hk hr
theorem NRow.cell {ρ : Rho} {w : World} {r : Role} {l : List Nat} {g n cap : Nat} (h : NRow ρ w r (.slice (some ⟨g, 0, none⟩) n cap) l) {j : Nat} (hj : j < l.length) : w.cell? ⟨g, j, none⟩ = some (.int .i64 (l[j]! : Nat)) := by
  obtain ⟨g', cap', hv, _⟩ := Row.has h (by omega)
  cases hv
  rw [Row.cell h (by omega), List.getElem?_map, List.getElem?_eq_getElem hj, getElem!_pos l j hj]; rfl

/-- A slice of rows of numbers. -/
structure Rag (ρ : Rho) (w : World) (h : Role) (rr : Nat → Role) (v : Value) (F : List (List Nat)) : Prop where
  ex : ∃ vs : List Value, vs.length = F.length ∧ Row ρ w h 38 1 v F.length vs ∧ ∀ i, i < F.length → NRow ρ w (rr i) vs[i]! F[i]!
theorem Rag.keep {R : Role → Prop} {ρ ρ' : Rho} {w w' : World} {h : Role} {rr : Nat → Role} {v : Value} {F : List (List Nat)} (hr : Rag ρ w h rr v F) (hk : Stp R ρ w ρ' w') (h1 : ¬ R h) (h2 : ∀ i, ¬ R (rr i)) : Rag ρ' w' h rr v F := by
  obtain ⟨vs, e, a, b⟩ := hr.ex
  exact ⟨vs, e, a.keep hk h1, fun i hi => (b i hi).keep hk (h2 i)⟩
end Go.Proofs.Ybulknju
