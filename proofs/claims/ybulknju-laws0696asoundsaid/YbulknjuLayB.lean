import Derived.Test.YbulknjuLayA
namespace Go.Proofs.Ybulknju
open Go.RowKit Go.Maps Go.WideMaps

def kxO (O : List OpR) (i : Nat) : Nat := (opAt O i).kx
/-- The head of the first loop: k operations have their keys. -/
structure J8 (ρ : Rho) (w : World) (Lb C M : Nat) (O : List OpR) (k : Nat) (vk vpc vps vsr : Value) (ρr : Rho) (wr : World) : Prop where
  lay : LayB ρr wr Lb C O.length 0 (fun i => if i < k then (keyK (kxO O) i : Nat) else 0) (fun _ => 0) vk vpc vps vsr (.slice none 0 0) (.slice none 0 0)
  map : MapAt ρr wr M (tabK (kxO O) k) k
  stp : Stp RL ρ w ρr wr
theorem upd_key (kx : Nat → Nat) (k : Nat) (y : Nat) (hy : keyK kx k = y) : ∀ i, upd (fun i => if i < k then ((keyK kx i : Nat) : Int) else 0) k (y : Int) i = if i < k + 1 then ((keyK kx i : Nat) : Int) else 0 := by
  intro i
  unfold upd
  by_cases h : i = k
  · subst h; rw [if_pos rfl, if_pos (by omega), hy]
  · rw [if_neg h]
    show (if i < k then _ else _) = _
    by_cases h2 : i < k
    · rw [if_pos h2, if_pos (by omega)]
    · rw [if_neg h2, if_neg (by omega)]
/-- A store into the keys' row. -/
theorem J8.next {ρ : Rho} {w : World} {Lb C M : Nat} {O : List OpR} {k : Nat} {gk ck : Nat} {vpc vps vsr : Value} {ρr ρ7 : Rho} {wr w7 : World} {y : Nat} (h : J8 ρ w Lb C M O k (.slice (some ⟨gk, 0, none⟩) O.length ck) vpc vps vsr ρr wr) (hk : Stp (fun q => q = .mp) ρr wr ρ7 w7) (hm : MapAt ρ7 w7 M (tabK (kxO O) (k + 1)) (k + 1)) (hy : keyK (kxO O) k = y) :
    J8 ρ w Lb C M O (k + 1) (.slice (some ⟨gk, 0, none⟩) O.length ck) vpc vps vsr ρ7 (w7.setCell ⟨gk, k, none⟩ (.int .i64 (y : Nat))) := by
  have hl7 := h.lay.keep hk (by decide) (by decide) (by decide) (by decide) (by decide)
  have hs8 := Row.store hl7.key k (.int .i64 (y : Nat))
  obtain ⟨f1, g1⟩ := hl7.prc
  obtain ⟨f2, g2⟩ := hl7.pos
  exact ⟨⟨hl7.st.keep hs8 (by decide), (hl7.key.set k (y : Nat)).congr fun i _ => upd_key _ k y hy i, ⟨f1, g1.keep hs8 (by decide)⟩, ⟨f2, g2.keep hs8 (by decide)⟩, hl7.src.keep hs8 (by decide)⟩, hm.keep hs8 (by decide), (h.stp.trans (hk.one (by simp [RL]))).trans (hs8.one (by simp [RL]))⟩

theorem role_ne {ρ : Rho} {a b : Nat} {r r' : Role} (h : ρ a = r) (h' : ρ b = r') (hr : r ≠ r') : ¬ a = b := by rintro rfl; exact hr (h.symm.trans h')
/-- Behind the first loop. -/
structure J9 (ρ : Rho) (w : World) (Lb C M : Nat) (O : List OpR) (vk vpc vps vsr vrd vsw : Value) (ρr : Rho) (wr : World) : Prop where
  lay : LayB ρr wr Lb C O.length ((tabK (kxO O) O.length).length : Nat) (fun i => (keyK (kxO O) i : Nat)) (fun _ => 0) vk vpc vps vsr vrd vsw
  map : MapAt ρr wr M (tabK (kxO O) O.length) O.length
  stp : Stp RL ρ w ρr wr

theorem J9.drew {ρ : Rho} {w : World} {Lb C M : Nat} {O : List OpR} {vk vpc vps vsr vrd vsw : Value} {ρr : Rho} {wr : World} (h : J9 ρ w Lb C M O vk vpc vps vsr vrd vsw ρr wr) : J9 ρ w Lb C M O vk vpc vps vsr vrd vsw ρr wr.drew := by
  have s : Stp (fun _ => False) ρr wr ρr wr.drew := (Stp.refl _ _ _).drewN 1
  exact ⟨h.lay.keep s (fun h => h) (fun h => h) (fun h => h) (fun h => h) (fun h => h), h.map.keep s (fun h => h), h.stp.drewN 1⟩

/-- A read's source; -1 for a write. -/
def sI (O : List OpR) (r : Nat) : Int := if (opAt O r).rd then (if (opAt O r).fr = -1 then (O.length : Int) + (keyK (kxO O) r : Nat) else (opAt O r).fr) else -1
/-- The readers' lists hold reads of their own source alone. -/
structure RdOk (O : List OpR) (k : Nat) (F : List (List Nat)) : Prop where
  len : F.length = O.length + (tabK (kxO O) O.length).length
  small : ∀ s : Nat, (F[s]! : List Nat).length ≤ k
  mem : ∀ s : Nat, ∀ r ∈ (F[s]! : List Nat), r < k ∧ (opAt O r).rd = true ∧ sI O r = (s : Nat)
theorem RdOk.write {O : List OpR} {k : Nat} {F : List (List Nat)} (h : RdOk O k F) : RdOk O (k + 1) F := ⟨h.len, fun s => Nat.le_succ_of_le (h.small s), fun s r hr => ⟨Nat.lt_succ_of_lt (h.mem s r hr).1, (h.mem s r hr).2⟩⟩
theorem RdOk.read {O : List OpR} {k s : Nat} {F : List (List Nat)} (h : RdOk O k F) (hs : s < F.length) (hr : (opAt O k).rd = true) (he : sI O k = (s : Nat)) : RdOk O (k + 1) (F.set s (F[s]! ++ [k])) := by
  refine ⟨by rw [List.length_set]; exact h.len, fun q => ?_, fun q r hm => ?_⟩
  · rw [set_get hs]; split
    · rw [List.length_append]; have := h.small s; simp only [List.length_cons, List.length_nil]; omega
    · exact Nat.le_succ_of_le (h.small q)
  · rw [set_get hs] at hm
    split at hm
    · next e =>
      subst e
      rcases List.mem_append.1 hm with h1 | h1
      · exact ⟨Nat.lt_succ_of_lt (h.mem q r h1).1, (h.mem q r h1).2⟩
      · obtain rfl := List.mem_singleton.1 h1
        exact ⟨by omega, hr, he⟩
    · exact ⟨Nat.lt_succ_of_lt (h.mem q r hm).1, (h.mem q r hm).2⟩
theorem LayB.rd {ρ : Rho} {w : World} {Lb C n : Nat} {keys : Int} {fk fs : Nat → Int} {vk vpc vps vsr vrd vsw : Value} (h : LayB ρ w Lb C n keys fk fs vk vpc vps vsr vrd vsw) (m : Nat) (hm : m ≤ maxLen) :
    LayB (ext ρ w .rdH) ((w.alloc (.cells (madeCells #[.slice none 0 0] m) 38)).setCell ⟨Lb, 6, none⟩ (.slice (some ⟨w.heap.size, 0, none⟩) m m)) Lb C n keys fk fs vk vpc vps vsr (.slice (some ⟨w.heap.size, 0, none⟩) m m) vsw ∧
    Rag (ext ρ w .rdH) ((w.alloc (.cells (madeCells #[.slice none 0 0] m) 38)).setCell ⟨Lb, 6, none⟩ (.slice (some ⟨w.heap.size, 0, none⟩) m m)) .rdH .rd (.slice (some ⟨w.heap.size, 0, none⟩) m m) (List.replicate m []) ∧
    Stp (fun q => q = .lay) ρ w (ext ρ w .rdH) ((w.alloc (.cells (madeCells #[.slice none 0 0] m) 38)).setCell ⟨Lb, 6, none⟩ (.slice (some ⟨w.heap.size, 0, none⟩) m m)) := by
  have s1 : ∀ R, Stp R ρ w (ext ρ w .rdH) (w.alloc (.cells (madeCells #[.slice none 0 0] m) 38)) := fun _ => (Stp.refl _ _ _).alloc _ _
  have h1 := h.keep (s1 (fun _ => False)) (fun h => h) (fun h => h) (fun h => h) (fun h => h) (fun h => h)
  have s2 := h1.st.store 6 (.slice (some ⟨w.heap.size, 0, none⟩) m m)
  obtain ⟨f1, g1⟩ := h1.prc
  obtain ⟨f2, g2⟩ := h1.pos
  exact ⟨⟨h1.st.set 6 _, h1.key.keep s2 (by decide), ⟨f1, g1.keep s2 (by decide)⟩, ⟨f2, g2.keep s2 (by decide)⟩, h1.src.keep s2 (by decide)⟩, (Rag.made hm).keep s2 (by decide) (by simp), (s1 _).trans s2⟩
theorem LayB.sw {ρ : Rho} {w : World} {Lb C n : Nat} {keys : Int} {fk fs : Nat → Int} {vk vpc vps vsr vrd vsw : Value} (h : LayB ρ w Lb C n keys fk fs vk vpc vps vsr vrd vsw) (m : Nat) :
    LayB (ext ρ w .swH) ((w.alloc (.cells (madeCells #[.slice none 0 0] m) 38)).setCell ⟨Lb, 7, none⟩ (.slice (some ⟨w.heap.size, 0, none⟩) m m)) Lb C n keys fk fs vk vpc vps vsr vrd (.slice (some ⟨w.heap.size, 0, none⟩) m m) ∧
    Stp (fun q => q = .lay) ρ w (ext ρ w .swH) ((w.alloc (.cells (madeCells #[.slice none 0 0] m) 38)).setCell ⟨Lb, 7, none⟩ (.slice (some ⟨w.heap.size, 0, none⟩) m m)) := by
  have s1 : ∀ R, Stp R ρ w (ext ρ w .swH) (w.alloc (.cells (madeCells #[.slice none 0 0] m) 38)) := fun _ => (Stp.refl _ _ _).alloc _ _
  have h1 := h.keep (s1 (fun _ => False)) (fun h => h) (fun h => h) (fun h => h) (fun h => h) (fun h => h)
  have s2 := h1.st.store 7 (.slice (some ⟨w.heap.size, 0, none⟩) m m)
  obtain ⟨f1, g1⟩ := h1.prc
  obtain ⟨f2, g2⟩ := h1.pos
  exact ⟨⟨h1.st.set 7 _, h1.key.keep s2 (by decide), ⟨f1, g1.keep s2 (by decide)⟩, ⟨f2, g2.keep s2 (by decide)⟩, h1.src.keep s2 (by decide)⟩, (s1 _).trans s2⟩
theorem upd_src (g : Nat → Int) (k : Nat) (x : Int) (hx : g k = x) : ∀ i, upd (fun i => if i < k then g i else 0) k x i = if i < k + 1 then g i else 0 := by
  intro i
  unfold upd
  by_cases h : i = k
  · subst h; rw [if_pos rfl, if_pos (by omega), hx]
  · rw [if_neg h]
    show (if i < k then _ else _) = _
    by_cases h2 : i < k
    · rw [if_pos h2, if_pos (by omega)]
    · rw [if_neg h2, if_neg (by omega)]
theorem upd_upd {α : Type} (f : Nat → α) (k : Nat) (x y : α) : upd (upd f k x) k y = upd f k y := by
  funext i; unfold upd; split <;> rfl
/-- The head of the fourth loop. -/
structure J10 (ρ : Rho) (w : World) (Lb C : Nat) (O : List OpR) (fs : Nat → Int) (F : List (List Nat)) (vk vpc vps vsr vrd vsw : Value) (ρr : Rho) (wr : World) : Prop where
  lay : LayB ρr wr Lb C O.length ((tabK (kxO O) O.length).length : Nat) (fun i => (keyK (kxO O) i : Nat)) fs vk vpc vps vsr vrd vsw
  rds : Rag ρr wr .rdH .rd vrd F
  stp : Stp RL ρ w ρr wr
/-- What newLayout leaves. -/
def Laid (ρ : Rho) (w : World) (Lb C : Nat) (O : List OpR) (w' : World) : Prop := ∃ ρ' F vk vpc vps vsr vrd vsw, J10 ρ w Lb C O (sI O) F vk vpc vps vsr vrd vsw ρ' w' ∧ RdOk O O.length F
theorem sizeOf4 (w : World) : (sizeOf 4).run Yba.prog w = .ok 1 w := by kernel_rfl
theorem idx32 {b n c : Nat} {k : Nat} (hk : k < n) (w : World) : (Instr.indexAt 32 (.slice (some ⟨b, 0, none⟩) n c) (.int .i64 k)).run Yba.prog w = .ok (.pointer (some ⟨b, k, none⟩)) w := by
  rw [run_indexAt_slice (h := by kernel_rfl), if_pos (by omega)]
  have e : Yba.prog.elem 32 = 4 := by kernel_rfl
  rw [e, sizeOf4]
  simp [Addr.add]
  exact fun h => h.symm
theorem J10.drew {ρ : Rho} {w : World} {Lb C : Nat} {O : List OpR} {fs : Nat → Int} {F : List (List Nat)} {vk vpc vps vsr vrd vsw : Value} {ρr : Rho} {wr : World} (h : J10 ρ w Lb C O fs F vk vpc vps vsr vrd vsw ρr wr) : J10 ρ w Lb C O fs F vk vpc vps vsr vrd vsw ρr wr.drew := by
  have s : Stp (fun _ => False) ρr wr ρr wr.drew := (Stp.refl _ _ _).drewN 1
  exact ⟨h.lay.keep s (fun h => h) (fun h => h) (fun h => h) (fun h => h) (fun h => h), h.rds.keep s (fun h => h) (fun _ h => h), h.stp.drewN 1⟩
theorem J10.alloc {ρ : Rho} {w : World} {Lb C : Nat} {O : List OpR} {fs : Nat → Int} {F : List (List Nat)} {vk vpc vps vsr vrd vsw : Value} {ρr : Rho} {wr : World} (h : J10 ρ w Lb C O fs F vk vpc vps vsr vrd vsw ρr wr) (o : Obj) : J10 ρ w Lb C O fs F vk vpc vps vsr vrd vsw (ext ρr wr .no) (wr.alloc o) := by
  have s : Stp (fun _ => False) ρr wr (ext ρr wr .no) (wr.alloc o) := (Stp.refl _ _ _).alloc _ _
  exact ⟨h.lay.keep s (fun h => h) (fun h => h) (fun h => h) (fun h => h) (fun h => h), h.rds.keep s (fun h => h) (fun _ h => h), h.stp.trans (s.mono fun _ h => h.elim)⟩
theorem J10.src {ρ : Rho} {w : World} {Lb C : Nat} {O : List OpR} {fs : Nat → Int} {F : List (List Nat)} {vk vpc vps vrd vsw : Value} {ρr : Rho} {wr : World} {gs cs : Nat} (h : J10 ρ w Lb C O fs F vk vpc vps (.slice (some ⟨gs, 0, none⟩) O.length cs) vrd vsw ρr wr) (r : Nat) (x : Int) :
    J10 ρ w Lb C O (upd fs r x) F vk vpc vps (.slice (some ⟨gs, 0, none⟩) O.length cs) vrd vsw ρr (wr.setCell ⟨gs, r, none⟩ (.int .i64 x)) := by
  have s := Row.store h.lay.src r (.int .i64 x)
  obtain ⟨f1, g1⟩ := h.lay.prc
  obtain ⟨f2, g2⟩ := h.lay.pos
  exact ⟨⟨h.lay.st.keep s (by decide), h.lay.key.keep s (by decide), ⟨f1, g1.keep s (by decide)⟩, ⟨f2, g2.keep s (by decide)⟩, h.lay.src.set r x⟩, h.rds.keep s (by decide) (by simp), h.stp.trans (s.one (by simp [RL]))⟩
theorem J10.congr {ρ : Rho} {w : World} {Lb C : Nat} {O : List OpR} {fs fs' : Nat → Int} {F : List (List Nat)} {vk vpc vps vsr vrd vsw : Value} {ρr : Rho} {wr : World} (h : J10 ρ w Lb C O fs F vk vpc vps vsr vrd vsw ρr wr) (e : ∀ i, i < O.length → fs i = fs' i) : J10 ρ w Lb C O fs' F vk vpc vps vsr vrd vsw ρr wr :=
  ⟨⟨h.lay.st, h.lay.key, h.lay.prc, h.lay.pos, h.lay.src.congr e⟩, h.rds, h.stp⟩

end Go.Proofs.Ybulknju
