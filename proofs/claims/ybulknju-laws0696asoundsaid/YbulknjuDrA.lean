import Derived.Test.YbulknjuCls
namespace Go.Proofs.Ybulknju
open Go.RowKit

/-- A link that is asked for: it goes on, or (in a history that is not honest) it closes a cycle. -/
def Lk (H : List (List Nat)) (hon : Bool) (u v : Nat) : Prop := u < v ∨ (hon = false ∧ Rev H u v)
/-- What the history owes: where the reads' sources lie. -/
structure Lks (O : List OpR) (H : List (List Nat)) (hon : Bool) : Prop where
  key : ∀ o, o < O.length → ky O o < kk O
  s1 : ∀ r u, r < O.length → u < O.length → (opAt O r).rd = true → (opAt O u).rd = false → ky O r = ky O u → u < r → sI O r ≠ (u : Nat) → ∃ s : Nat, sI O r = (s : Nat) ∧ s < O.length ∧ Lk H hon u s
  s2 : ∀ r x u : Nat, r < O.length → x < O.length → (opAt O r).rd = true → sI O r = (u : Nat) → u < O.length → (opAt O x).rd = false → ky O x = ky O r → u < x → Lk H hon r x
  s3 : ∀ r x : Nat, r < O.length → x < O.length → (opAt O r).rd = true → (O.length : Int) ≤ sI O r → (opAt O x).rd = false → ky O x = ky O r → Lk H hon r x
  src : ∀ r, r < O.length → (opAt O r).rd = true → 0 ≤ sI O r ∧ sI O r < (O.length + kk O : Nat)
  srcw : ∀ r u : Nat, r < O.length → (opAt O r).rd = true → sI O r = (u : Nat) → u < O.length → (opAt O u).rd = false ∧ ky O u = ky O r
theorem Lk.or {H : List (List Nat)} {hon : Bool} {u v : Nat} (h : Lk H hon u v) : u < v ∨ Rev H u v := h.imp_right And.right
theorem Lk.hon {H : List (List Nat)} {hon : Bool} {u v : Nat} (h : Lk H hon u v) (hh : hon = true) : u < v := by
  rcases h with h | ⟨h, _⟩
  · exact h
  · rw [hh] at h; cases h

/-- The closure and some boxes, between two steps of 'drain' or of 'saturateIn'. -/
def Dq (ρ : Rho) (w : World) (C Lb : Nat) (O : List OpR) (Q : List Nat) (P : Nat → List Nat) (F : List (List Nat)) (vo vp vf vs vk vpc vps vsr vrd vsw : Value) (Cb gof gat : Nat) (vW vR vL : Value) (co po : Nat → Nat) (B G : Nat) (gs gp : Value) (gR : Nat) (vh : Value) (e0 d0 : Nat) (bx : List (Nat × Nat × Array Value)) (wr : World) : Prop :=
  ∃ ρr vdr Er fr Dr, Cl ρr wr C Lb O Q P F vo vp vf vs vk vpc vps vsr vrd vsw Cb gof gat vW vR vL co po B G gs gp gR vh vdr Er fr Dr ∧ (∀ b ∈ bx, St ρr wr (.tmp 1) b.1 b.2.1 b.2.2) ∧ Er.length + mu (O.length * Q.length) fr ≤ e0 ∧ Dr.length + mu (O.length * Q.length) fr ≤ d0 ∧ Stp RK ρ w ρr wr
theorem Dq.drew {ρ : Rho} {w : World} {C Lb : Nat} {O : List OpR} {Q : List Nat} {P : Nat → List Nat} {F : List (List Nat)} {vo vp vf vs vk vpc vps vsr vrd vsw : Value} {Cb gof gat : Nat} {vW vR vL : Value} {co po : Nat → Nat} {B G : Nat} {gs gp : Value} {gR : Nat} {vh : Value} {e0 d0 : Nat} {bx : List (Nat × Nat × Array Value)} {wr : World} (h : Dq ρ w C Lb O Q P F vo vp vf vs vk vpc vps vsr vrd vsw Cb gof gat vW vR vL co po B G gs gp gR vh e0 d0 bx wr) (q : Nat) : Dq ρ w C Lb O Q P F vo vp vf vs vk vpc vps vsr vrd vsw Cb gof gat vW vR vL co po B G gs gp gR vh e0 d0 bx (wr.drewN q) := by
  obtain ⟨ρr, vdr, Er, fr, Dr, hj, hb, he, hd, hs⟩ := h
  have s := (Stp.refl (fun _ => False) ρr wr).drewN q
  exact ⟨ρr, vdr, Er, fr, Dr, hj.keep0 s (fun _ h => h.elim), fun b hbx => (hb b hbx).keep s (fun h => h), he, hd, hs.drewN q⟩
theorem Dq.box {ρ : Rho} {w : World} {C Lb : Nat} {O : List OpR} {Q : List Nat} {P : Nat → List Nat} {F : List (List Nat)} {vo vp vf vs vk vpc vps vsr vrd vsw : Value} {Cb gof gat : Nat} {vW vR vL : Value} {co po : Nat → Nat} {B G : Nat} {gs gp : Value} {gR : Nat} {vh : Value} {e0 d0 : Nat} {bx : List (Nat × Nat × Array Value)} {wr : World} (h : Dq ρ w C Lb O Q P F vo vp vf vs vk vpc vps vsr vrd vsw Cb gof gat vW vR vL co po B G gs gp gR vh e0 d0 bx wr) (T : Nat) (cs : Array Value) : Dq ρ w C Lb O Q P F vo vp vf vs vk vpc vps vsr vrd vsw Cb gof gat vW vR vL co po B G gs gp gR vh e0 d0 ((wr.heap.size, T, cs) :: bx) (wr.alloc (.cells cs T)) := by
  obtain ⟨ρr, vdr, Er, fr, Dr, hj, hb, he, hd, hs⟩ := h
  have s : Stp (fun _ => False) ρr wr (ext ρr wr (.tmp 1)) (wr.alloc (.cells cs T)) := (Stp.refl _ ρr wr).alloc _ _
  refine ⟨_, vdr, Er, fr, Dr, hj.keep0 s (fun _ h => h.elim), fun b hbx => ?_, he, hd, hs.alloc _ _⟩
  rcases List.mem_cons.1 hbx with rfl | hbx
  · exact St.new
  · exact (hb b hbx).keep s (fun h => h)
theorem Dq.less {ρ : Rho} {w : World} {C Lb : Nat} {O : List OpR} {Q : List Nat} {P : Nat → List Nat} {F : List (List Nat)} {vo vp vf vs vk vpc vps vsr vrd vsw : Value} {Cb gof gat : Nat} {vW vR vL : Value} {co po : Nat → Nat} {B G : Nat} {gs gp : Value} {gR : Nat} {vh : Value} {e0 d0 : Nat} {bx by' : List (Nat × Nat × Array Value)} {wr : World} (h : Dq ρ w C Lb O Q P F vo vp vf vs vk vpc vps vsr vrd vsw Cb gof gat vW vR vL co po B G gs gp gR vh e0 d0 bx wr) (hb : ∀ b ∈ by', b ∈ bx) : Dq ρ w C Lb O Q P F vo vp vf vs vk vpc vps vsr vrd vsw Cb gof gat vW vR vL co po B G gs gp gR vh e0 d0 by' wr := by
  obtain ⟨ρr, vdr, Er, fr, Dr, hj, hbx, he, hd, hs⟩ := h
  exact ⟨ρr, vdr, Er, fr, Dr, hj, fun b h => hbx b (hb b h), he, hd, hs⟩
/-- Behind a link. -/
theorem Dq.link {ρ ρr : Rho} {w wr w' : World} {C Lb : Nat} {O : List OpR} {Q : List Nat} {P : Nat → List Nat} {F : List (List Nat)} {vo vp vf vs vk vpc vps vsr vrd vsw : Value} {Cb gof gat : Nat} {vW vR vL : Value} {co po : Nat → Nat} {B G : Nat} {gs gp : Value} {gR : Nat} {vh : Value} {e0 d0 : Nat} {bx : List (Nat × Nat × Array Value)} {Er : List (Nat × Nat)} {fr : Nat → Int} {Dr : List Drp} (hl : LinkP ρr wr C Lb O Q P F vo vp vf vs vk vpc vps vsr vrd vsw Cb gof gat vW vR vL co po B G gs gp gR vh Er fr Dr w') (hb : ∀ b ∈ bx, St ρr wr (.tmp 1) b.1 b.2.1 b.2.2) (he : Er.length + mu (O.length * Q.length) fr ≤ e0) (hd : Dr.length + mu (O.length * Q.length) fr ≤ d0) (hs : Stp RK ρ w ρr wr) : Dq ρ w C Lb O Q P F vo vp vf vs vk vpc vps vsr vrd vsw Cb gof gat vW vR vL co po B G gs gp gR vh e0 d0 bx w' := by
  obtain ⟨ρ', vd', E', f', D', hj, he', hd', hs'⟩ := hl
  exact ⟨ρ', vd', E', f', D', hj, fun b hbx => (hb b hbx).keep hs' (by simp [RK, RV, RG]), by omega, by omega, hs.trans hs'⟩
def DrainP (hon : Bool) (ρ : Rho) (w : World) (C Lb : Nat) (O : List OpR) (Q : List Nat) (P : Nat → List Nat) (F : List (List Nat)) (vo vp vf vs vk vpc vps vsr vrd vsw : Value) (Cb gof gat : Nat) (vW vR vL : Value) (co po : Nat → Nat) (B G : Nat) (gs gp : Value) (gR : Nat) (vh : Value) (E : List (Nat × Nat)) (f : Nat → Int) (D : List Drp) (e : Ending) (w' : World) : Prop := ∃ b, e = .returned (.bool b) ∧ (hon = true → b = true) ∧ LinkP ρ w C Lb O Q P F vo vp vf vs vk vpc vps vsr vrd vsw Cb gof gat vW vR vL co po B G gs gp gR vh E f D w'
/-- The drops' length, off the world. -/
def wdl (B : Nat) (w : World) : Nat := match w.cell? ⟨B, 9, none⟩ with | some v => slen v | none => 0
theorem Cl.wdl {ρ : Rho} {w : World} {C Lb : Nat} {O : List OpR} {Q : List Nat} {P : Nat → List Nat} {F : List (List Nat)} {vo vp vf vs vk vpc vps vsr vrd vsw : Value} {Cb gof gat : Nat} {vW vR vL : Value} {co po : Nat → Nat} {B G : Nat} {gs gp : Value} {gR : Nat} {vh : Value} {vd : Value} {E : List (Nat × Nat)} {f : Nat → Int} {D : List Drp} (h : Cl ρ w C Lb O Q P F vo vp vf vs vk vpc vps vsr vrd vsw Cb gof gat vW vR vL co po B G gs gp gR vh vd E f D) : wdl B w = D.length := by
  obtain ⟨a, c, e, _⟩ := h.dyn.drp.form
  unfold Ybulknju.wdl
  rw [h.dyn.clo.cell 9 rfl]
  show slen vd = _
  rw [e]; rfl
theorem Dq.mu {ρ : Rho} {w : World} {C Lb : Nat} {O : List OpR} {Q : List Nat} {P : Nat → List Nat} {F : List (List Nat)} {vo vp vf vs vk vpc vps vsr vrd vsw : Value} {Cb gof gat : Nat} {vW vR vL : Value} {co po : Nat → Nat} {B G : Nat} {gs gp : Value} {gR : Nat} {vh : Value} {e0 d0 : Nat} {bx : List (Nat × Nat × Array Value)} {wr : World} (h : Dq ρ w C Lb O Q P F vo vp vf vs vk vpc vps vsr vrd vsw Cb gof gat vW vR vL co po B G gs gp gR vh e0 d0 bx wr) : wmu gR (O.length * Q.length) wr + wdl B wr ≤ d0 := by
  obtain ⟨ρr, vdr, Er, fr, Dr, hj, _, _, hd, _⟩ := h
  rw [hj.dyn.rch.wmu, hj.wdl]; omega
theorem flatD_len (D : List Drp) : (flatD D).length = D.length * 4 := by
  induction D with
  | nil => rfl
  | cons x l ih =>
    have : flatD (x :: l) = encD x ++ flatD l := rfl
    rw [this, List.length_append, ih, List.length_cons]
    show 4 + _ = _
    omega
/-- The last drop is taken off. -/
theorem Cl.pop {ρ : Rho} {w : World} {C Lb : Nat} {O : List OpR} {Q : List Nat} {P : Nat → List Nat} {F : List (List Nat)} {vo vp vf vs vk vpc vps vsr vrd vsw : Value} {Cb gof gat : Nat} {vW vR vL : Value} {co po : Nat → Nat} {B G : Nat} {gs gp : Value} {gR : Nat} {vh : Value} {vd : Value} {E : List (Nat × Nat)} {f : Nat → Int} {D0 : List Drp} {d : Drp} {gD cD : Nat} (h : Cl ρ w C Lb O Q P F vo vp vf vs vk vpc vps vsr vrd vsw Cb gof gat vW vR vL co po B G gs gp gR vh vd E f (D0 ++ [d])) (hv : vd = .slice (some ⟨gD, 0, none⟩) (D0.length + 1) cD) : Cl ρ (w.setCell ⟨B, 9, none⟩ (.slice (some ⟨gD, 0, none⟩) D0.length cD)) C Lb O Q P F vo vp vf vs vk vpc vps vsr vrd vsw Cb gof gat vW vR vL co po B G gs gp gR vh (.slice (some ⟨gD, 0, none⟩) D0.length cD) E f D0 ∧ Stp (fun q => q = .clo) ρ w ρ (w.setCell ⟨B, 9, none⟩ (.slice (some ⟨gD, 0, none⟩) D0.length cD)) := by
  have s := h.dyn.clo.store 9 (.slice (some ⟨gD, 0, none⟩) D0.length cD)
  have hr := h.dyn.drp
  rw [hv, List.length_append, flatD_app] at hr
  have hl := flatD_len D0
  have hp := Row.pop hr hl
  exact ⟨⟨h.sta.keep s (fun r hr e => by subst e; exact RV.rt hr (by simp [RV])), ⟨h.dyn.clo.set 9 _, h.dyn.gr.keep s (by decide) (by decide) (by simp) (by decide) (by simp), h.dyn.rch.keep s (by decide), hp.keep s (by decide), h.dyn.hks.keep s (by decide) (by simp)⟩, ⟨h.inv.edge, h.inv.rng, h.inv.inc, h.inv.nxt, fun x hx => h.inv.drp x (List.mem_append_left _ hx)⟩⟩, s⟩
theorem sizeOf106 (w : World) : (sizeOf 106).run Yba.prog w = .ok 4 w := by kernel_rfl
theorem idx67 {b n c : Nat} {k : Nat} (hk : k < n) (w : World) : (Instr.indexAt 67 (.slice (some ⟨b, 0, none⟩) n c) (.int .i64 k)).run Yba.prog w = .ok (.pointer (some ⟨b, k * 4, none⟩)) w := by
  have e : Yba.prog.elem 67 = 106 := by kernel_rfl
  rw [run_indexAt_slice (h := by kernel_rfl), e, if_pos (by omega), sizeOf106]
  simp [Addr.add]
  exact fun h => h.symm
/-- A drop's cells. -/
theorem Row.drop {ρ : Rho} {w : World} {D0 : List Drp} {d : Drp} {g cap : Nat} (h : Row ρ w .drops 106 4 (.slice (some ⟨g, 0, none⟩) (D0.length + 1) cap) (D0.length + 1) (flatD D0 ++ encD d)) : w.cell? ⟨g, D0.length * 4, none⟩ = some (.int .i64 (d.u : Nat)) ∧ w.cell? ⟨g, D0.length * 4 + 1, none⟩ = some (.int .i64 (d.c : Nat)) ∧ w.cell? ⟨g, D0.length * 4 + 2, none⟩ = some (.int .i32 d.old) ∧ w.cell? ⟨g, D0.length * 4 + 3, none⟩ = some (.int .i32 d.now) := by
  have hl := flatD_len D0
  refine ⟨?_, ?_, ?_, ?_⟩ <;> (rw [h.cell (by omega), List.getElem?_append_right (by omega), hl]; simp [encD])
end Go.Proofs.Ybulknju
