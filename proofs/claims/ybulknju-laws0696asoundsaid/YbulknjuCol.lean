import Derived.Test.YbulknjuClo
import Derived.BigQuiet
namespace Go.Proofs.Ybulknju
open Go.RowKit

/-- The columns: each operation lies in one chain, at one place. -/
structure Col (n : Nat) (H : List (List Nat)) (co po : Nat → Nat) : Prop where
  fwd : ∀ o, o < n → co o < H.length ∧ po o < (H[co o]!).length ∧ (H[co o]!)[po o]! = o
  bwd : ∀ c i, c < H.length → i < (H[c]!).length → (H[c]!)[i]! < n ∧ co ((H[c]!)[i]!) = c ∧ po ((H[c]!)[i]!) = i
  small : ∀ c, c < H.length → (H[c]!).length ≤ 3000
  inc : ∀ c i j, c < H.length → i < j → j < (H[c]!).length → (H[c]!)[i]! < (H[c]!)[j]!

/-- A row of int32. -/
def R32 (ρ : Rho) (w : World) (r : Role) (v : Value) (n : Nat) (f : Nat → Int) : Prop := Row ρ w r 21 1 v n ((List.range n).map fun i => .int .i32 (f i))
theorem R32.keep {R : Role → Prop} {ρ ρ' : Rho} {w w' : World} {r : Role} {v : Value} {n : Nat} {f : Nat → Int} (h : R32 ρ w r v n f) (hk : Stp R ρ w ρ' w') (hr : ¬ R r) : R32 ρ' w' r v n f := Row.keep h hk hr
theorem R32.cell {ρ : Rho} {w : World} {r : Role} {n : Nat} {f : Nat → Int} {g cap : Nat} (h : R32 ρ w r (.slice (some ⟨g, 0, none⟩) n cap) n f) {j : Nat} (hj : j < n) : w.cell? ⟨g, j, none⟩ = some (.int .i32 (f j)) := by
  rw [Row.cell h (by omega), List.getElem?_map, List.getElem?_range hj]; rfl
theorem R32.set {ρ : Rho} {w : World} {r : Role} {n : Nat} {f : Nat → Int} {g cap : Nat} (h : R32 ρ w r (.slice (some ⟨g, 0, none⟩) n cap) n f) (j : Nat) (x : Int) : R32 ρ (w.setCell ⟨g, j, none⟩ (.int .i32 x)) r (.slice (some ⟨g, 0, none⟩) n cap) n (upd f j x) := by
  have := Row.set h j (.int .i32 x)
  have e : (List.range n).map (fun i => Value.int .i32 (upd f j x i)) = ((List.range n).map fun i => Value.int .i32 (f i)).set j (.int .i32 x) := by
    apply List.ext_getElem (by simp)
    intro i h1 h2
    rw [List.getElem_set]
    simp [upd]
    by_cases hij : i = j
    · rw [if_pos hij, if_pos hij.symm]
    · rw [if_neg hij, if_neg (fun h => hij h.symm)]
  unfold R32; rw [e]; exact this
theorem sizeOf21 (w : World) : (sizeOf 21).run Yba.prog w = .ok 1 w := by kernel_rfl
theorem idx62 {b n c : Nat} {k : Nat} (hk : k < n) (w : World) : (Instr.indexAt 62 (.slice (some ⟨b, 0, none⟩) n c) (.int .i64 k)).run Yba.prog w = .ok (.pointer (some ⟨b, k, none⟩)) w := by
  have e : Yba.prog.elem 62 = 21 := by kernel_rfl
  rw [run_indexAt_slice (h := by kernel_rfl), e, if_pos (by omega), sizeOf21]
  simp [Addr.add]
  exact fun h => h.symm
theorem sizeOf48 (w : World) : (sizeOf 48).run Yba.prog w = .ok 1 w := by kernel_rfl
theorem idx101 {b n c : Nat} {k : Nat} (hk : k < n) (w : World) : (Instr.indexAt 101 (.slice (some ⟨b, 0, none⟩) n c) (.int .i64 k)).run Yba.prog w = .ok (.pointer (some ⟨b, k, none⟩)) w := by
  have e : Yba.prog.elem 101 = 48 := by kernel_rfl
  rw [run_indexAt_slice (h := by kernel_rfl), e, if_pos (by omega), sizeOf48]
  simp [Addr.add]
  exact fun h => h.symm

/-- Rows of rows of numbers. -/
structure Rag3 (ρ : Rho) (w : World) (h : Role) (r1 : Nat → Role) (r2 : Nat → Nat → Role) (v : Value) (K : Nat) (L : Nat → List (List Nat)) : Prop where
  ex : ∃ vs : List Value, vs.length = K ∧ Row ρ w h 48 1 v K vs ∧ ∀ k, k < K → Rag ρ w (r1 k) (r2 k) vs[k]! (L k)
theorem Rag3.keep {R : Role → Prop} {ρ ρ' : Rho} {w w' : World} {h : Role} {r1 : Nat → Role} {r2 : Nat → Nat → Role} {v : Value} {K : Nat} {L : Nat → List (List Nat)} (hr : Rag3 ρ w h r1 r2 v K L) (hk : Stp R ρ w ρ' w') (h1 : ¬ R h) (h2 : ∀ i, ¬ R (r1 i)) (h3 : ∀ i j, ¬ R (r2 i j)) : Rag3 ρ' w' h r1 r2 v K L := by
  obtain ⟨vs, e, a, b⟩ := hr.ex
  exact ⟨vs, e, a.keep hk h1, fun i hi => (b i hi).keep hk (h2 i) (h3 i)⟩

def kk (O : List OpR) : Nat := (tabK (kxO O) O.length).length
def ky (O : List OpR) (o : Nat) : Nat := keyK (kxO O) o
/-- The writes, the reads of key k, column by column. -/
def wrL (O : List OpR) (H : List (List Nat)) (k : Nat) : List (List Nat) := H.map fun l => l.filter fun o => !(opAt O o).rd && ky O o == k
def reL (O : List OpR) (H : List (List Nat)) (k : Nat) : List (List Nat) := H.map fun l => l.filter fun o => (opAt O o).rd && ky O o == k

def RT : Role → Prop := fun r => RS r ∨ r = .cols ∨ r = .cof ∨ r = .cat ∨ r = .wrH ∨ (∃ k, r = .wrK k) ∨ (∃ k c, r = .wr k c) ∨ r = .reH ∨ (∃ k, r = .reK k) ∨ (∃ k c, r = .re k c) ∨ r = .loH
/-- What does not turn while the closure is saturated. -/
structure Sta (ρ : Rho) (w : World) (C Lb : Nat) (O : List OpR) (Q : List Nat) (P : Nat → List Nat) (F : List (List Nat)) (vo vp vf vs vk vpc vps vsr vrd vsw : Value) (Cb gof gat : Nat) (vW vR vL : Value) (co po : Nat → Nat) : Prop where
  base : Base ρ w C Lb O Q P F vo vp vf vs vk vpc vps vsr vrd vsw
  cst : St ρ w .cols Cb 103 #[.slice (some ⟨gof, 0, none⟩) O.length O.length, .slice (some ⟨gat, 0, none⟩) O.length O.length, vp, vW, vR, vL]
  of : FRow ρ w .cof (.slice (some ⟨gof, 0, none⟩) O.length O.length) O.length (fun o => (co o : Nat))
  pos : FRow ρ w .cat (.slice (some ⟨gat, 0, none⟩) O.length O.length) O.length (fun o => (po o : Nat))
  wr : Rag3 ρ w .wrH .wrK .wr vW (kk O) (wrL O (Q.map P))
  re : Rag3 ρ w .reH .reK .re vR (kk O) (reL O (Q.map P))
  lo : Row ρ w .loH 38 1 vL (kk O) (List.replicate (kk O) (.slice none 0 0))
theorem Sta.keep {R : Role → Prop} {ρ ρ' : Rho} {w w' : World} {C Lb : Nat} {O : List OpR} {Q : List Nat} {P : Nat → List Nat} {F : List (List Nat)} {vo vp vf vs vk vpc vps vsr vrd vsw : Value} {Cb gof gat : Nat} {vW vR vL : Value} {co po : Nat → Nat} (h : Sta ρ w C Lb O Q P F vo vp vf vs vk vpc vps vsr vrd vsw Cb gof gat vW vR vL co po) (hk : Stp R ρ w ρ' w') (hr : ∀ r, RT r → ¬ R r) : Sta ρ' w' C Lb O Q P F vo vp vf vs vk vpc vps vsr vrd vsw Cb gof gat vW vR vL co po :=
  ⟨h.base.keep hk (fun r h => hr r (.inl h)), h.cst.keep hk (hr _ (by simp [RT])), h.of.keep hk (hr _ (by simp [RT])), h.pos.keep hk (hr _ (by simp [RT])), h.wr.keep hk (hr _ (by simp [RT])) (fun _ => hr _ (by simp [RT])) (fun _ _ => hr _ (by simp [RT])), h.re.keep hk (hr _ (by simp [RT])) (fun _ => hr _ (by simp [RT])) (fun _ _ => hr _ (by simp [RT])), h.lo.keep hk (hr _ (by simp [RT]))⟩

/-- A write's reach has fallen. -/
structure Drp where
  u : Nat
  c : Nat
  old : Int
  now : Int
def encD (d : Drp) : List Value := [.int .i64 d.u, .int .i64 d.c, .int .i32 d.old, .int .i32 d.now]
def flatD (D : List Drp) : List Value := D.flatMap encD
theorem info106 : (Yba.prog.info? 106).map (fun i => (i.zero, i.size, i.bytes)) = some (some (.agg #[.int .i64 0, .int .i64 0, .int .i32 0, .int .i32 0]), 4, 24) := by kernel_rfl
theorem flatD_app (D : List Drp) (d : Drp) : flatD (D ++ [d]) = flatD D ++ encD d := by simp [flatD]
/-- No write is hooked. -/
def Hks (ρ : Rho) (w : World) (v : Value) (K W : Nat) : Prop := ∃ vs : List Value, vs.length = K ∧ Row ρ w .hkH 104 1 v K vs ∧ ∀ k, k < K → Row ρ w (.hkK k) 136 1 vs[k]! W (List.replicate W (.slice none 0 0))
theorem Hks.keep {R : Role → Prop} {ρ ρ' : Rho} {w w' : World} {v : Value} {K W : Nat} (h : Hks ρ w v K W) (hk : Stp R ρ w ρ' w') (h1 : ¬ R .hkH) (h2 : ∀ k, ¬ R (.hkK k)) : Hks ρ' w' v K W := by
  obtain ⟨vs, e, a, b⟩ := h
  exact ⟨vs, e, a.keep hk h1, fun k hk' => (b k hk').keep hk (h2 k)⟩
/-- What turns while the closure is saturated: the edges, the reach, the drops. -/
structure Dyn (ρ : Rho) (w : World) (n W K Lb Cb B G : Nat) (gs gp : Value) (gR : Nat) (vh vd : Value) (E : List (Nat × Nat)) (f : Nat → Int) (D : List Drp) : Prop where
  clo : St ρ w .clo B 69 #[.pointer (some ⟨Lb, 0, none⟩), .pointer (some ⟨Cb, 0, none⟩), .pointer (some ⟨G, 0, none⟩), .slice (some ⟨gR, 0, none⟩) (n * W) (n * W), vh, .bool false, .slice none 0 0, .slice none 0 0, .slice none 0 0, vd, .slice none 0 0]
  gr : Gr ρ w G (succOf n E) (predOf n E) gs gp
  rch : R32 ρ w .reach (.slice (some ⟨gR, 0, none⟩) (n * W) (n * W)) (n * W) f
  drp : Row ρ w .drops 106 4 vd D.length (flatD D)
  hks : Hks ρ w vh K W
def RV : Role → Prop := fun r => r = .clo ∨ r = .gr ∨ RG r ∨ r = .reach ∨ r = .drops
theorem RV.rt {r : Role} (h : RT r) : ¬ RV r := by
  unfold RT RS at h; unfold RV RG
  rcases h with (h | h | h | h | h | ⟨_, h⟩ | h | h | h | h | ⟨_, h⟩) | h | h | h | h | ⟨_, h⟩ | ⟨_, _, h⟩ | h | ⟨_, h⟩ | ⟨_, _, h⟩ | h <;> simp [h]
theorem Dyn.keep {R : Role → Prop} {ρ ρ' : Rho} {w w' : World} {n W K Lb Cb B G : Nat} {gs gp : Value} {gR : Nat} {vh vd : Value} {E : List (Nat × Nat)} {f : Nat → Int} {D : List Drp} (h : Dyn ρ w n W K Lb Cb B G gs gp gR vh vd E f D) (hk : Stp R ρ w ρ' w') (hr : ∀ r, RV r → ¬ R r) (h1 : ¬ R .hkH) (h2 : ∀ k, ¬ R (.hkK k)) : Dyn ρ' w' n W K Lb Cb B G gs gp gR vh vd E f D :=
  ⟨h.clo.keep hk (hr _ (by simp [RV])), h.gr.keep hk (hr _ (by simp [RV])) (hr _ (by simp [RV, RG])) (fun _ => hr _ (by simp [RV, RG])) (hr _ (by simp [RV, RG])) (fun _ => hr _ (by simp [RV, RG])), h.rch.keep hk (hr _ (by simp [RV])), h.drp.keep hk (hr _ (by simp [RV])), h.hks.keep hk h1 h2⟩

/-- The closure's plain invariant. -/
structure Inv (O : List OpR) (H : List (List Nat)) (E : List (Nat × Nat)) (f : Nat → Int) (D : List Drp) : Prop where
  edge : ∀ e ∈ E, e.1 < e.2 ∧ e.2 < O.length
  rng : ∀ u c, u < O.length → c < H.length → 0 ≤ f (u * H.length + c) ∧ f (u * H.length + c) ≤ ((H[c]!).length : Nat)
  inc : ∀ u c, u < O.length → c < H.length → f (u * H.length + c) < ((H[c]!).length : Nat) → u < (H[c]!)[(f (u * H.length + c)).toNat]!
  nxt : ∀ c i, c < H.length → i + 1 < (H[c]!).length → f ((H[c]!)[i]! * H.length + c) ≤ ((i + 1 : Nat) : Int)
  drp : ∀ d ∈ D, d.u < O.length ∧ d.c < H.length ∧ (opAt O (d.u)).rd = false ∧ 0 ≤ d.now ∧ d.now < d.old ∧ d.old ≤ ((H[d.c]!).length : Nat) ∧ d.u < (H[d.c]!)[d.now.toNat]!
/-- How much the reach can still fall. -/
def mu (N : Nat) (f : Nat → Int) : Nat := ((List.range N).map fun i => (f i).toNat).sum
theorem at_lt {n W u c : Nat} (hu : u < n) (hc : c < W) : u * W + c < n * W := by
  have := Nat.mul_le_mul_right W (show u + 1 ≤ n from hu)
  rw [Nat.add_mul, Nat.one_mul] at this
  omega
theorem at_inj {W u c u' c' : Nat} (hc : c < W) (hc' : c' < W) (h : u * W + c = u' * W + c') : u = u' ∧ c = c' := by
  have h1 : (u * W + c) / W = u := by rw [Nat.mul_comm, Nat.mul_add_div (by omega), Nat.div_eq_of_lt hc, Nat.add_zero]
  have h2 : (u' * W + c') / W = u' := by rw [Nat.mul_comm, Nat.mul_add_div (by omega), Nat.div_eq_of_lt hc', Nat.add_zero]
  have h3 : u = u' := by rw [← h1, ← h2, h]
  subst h3
  exact ⟨rfl, by omega⟩
theorem mu_upd {f : Nat → Int} {x : Int} : ∀ {N j : Nat}, j < N → 0 ≤ x → x < f j → mu N (upd f j x) + 1 ≤ mu N f := by
  intro N
  induction N with
  | zero => intro j h; omega
  | succ N ih =>
    intro j hj h0 h1
    unfold mu
    rw [List.range_succ, List.map_append, List.map_append, List.sum_append, List.sum_append]
    rcases Nat.lt_or_ge j N with h | h
    · have h2 := ih h h0 h1
      have h3 : upd f j x N = f N := by unfold upd; rw [if_neg (by omega)]
      unfold mu at h2
      simp only [List.map_cons, List.map_nil, List.sum_cons, List.sum_nil, h3]
      omega
    · obtain rfl : j = N := by omega
      have h2 : (List.range j).map (fun i => (upd f j x i).toNat) = (List.range j).map (fun i => (f i).toNat) := by
        apply List.map_congr_left; intro i hi; rw [List.mem_range] at hi; unfold upd; rw [if_neg (by omega)]
      rw [h2]
      have h3 : upd f j x j = x := by unfold upd; rw [if_pos rfl]
      simp only [List.map_cons, List.map_nil, List.sum_cons, List.sum_nil, h3]
      omega
end Go.Proofs.Ybulknju
