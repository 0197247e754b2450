import Derived.Test.YbulknjuLayP
namespace Go.Proofs.Ybulknju
open Go.RowKit Go.Maps Go.WideMaps

theorem encO_len (x : OpR) : (encO x).length = 6 := rfl
theorem flatO_get : ∀ (L : List OpR) (k c : Nat), k < L.length → c < 6 → (flatO L)[k * 6 + c]? = (encO (opAt L k))[c]?
  | [], k, c, hk, _ => by simp at hk
  | x :: l, 0, c, _, hc => by
    have e : flatO (x :: l) = encO x ++ flatO l := rfl
    rw [e, Nat.zero_mul, Nat.zero_add, List.getElem?_append_left (by rw [encO_len]; exact hc)]
    rfl
  | x :: l, k + 1, c, hk, hc => by
    have e : flatO (x :: l) = encO x ++ flatO l := rfl
    have hk' : k < l.length := by simpa using hk
    rw [e, List.getElem?_append_right (by rw [encO_len]; omega), encO_len, show (k + 1) * 6 + c - 6 = k * 6 + c by omega, flatO_get l k c hk' hc]
    rfl
/-- One operation's cells. -/
structure OpAt (w : World) (b o : Nat) (x : OpR) : Prop where
  c0 : w.cell? ⟨b, o, none⟩ = some (.int .i64 0)
  c1 : w.cell? ⟨b, o + 1, none⟩ = some (.string (kd x.rd))
  c2 : w.cell? ⟨b, o + 2, none⟩ = some (.string (kn x.kx))
  c3 : w.cell? ⟨b, o + 3, none⟩ = some (.string ⟨#[]⟩)
  c4 : w.cell? ⟨b, o + 4, none⟩ = some (.string ⟨#[]⟩)
  c5 : w.cell? ⟨b, o + 5, none⟩ = some (.int .i64 0)
theorem Row.op {ρ : Rho} {w : World} {O : List OpR} {g n cap : Nat} (h : Row ρ w .ops 74 6 (.slice (some ⟨g, 0, none⟩) n cap) n (flatO O)) (hn : n = O.length) {k : Nat} (hk : k < O.length) : OpAt w g (k * 6) (opAt O k) := by
  have at' : ∀ c, c < 6 → w.cell? ⟨g, k * 6 + c, none⟩ = (encO (opAt O k))[c]? := fun c hc => by rw [h.cell (by omega), flatO_get O k c hk hc]
  exact ⟨at' 0 (by omega), at' 1 (by omega), at' 2 (by omega), at' 3 (by omega), at' 4 (by omega), at' 5 (by omega)⟩
theorem sizeOf74 (w : World) : (sizeOf 74).run Yba.prog w = .ok 6 w := by kernel_rfl
theorem idx47 {b n c : Nat} {k : Nat} (hk : k < n) (w : World) : (Instr.indexAt 47 (.slice (some ⟨b, 0, none⟩) n c) (.int .i64 k)).run Yba.prog w = .ok (.pointer (some ⟨b, k * 6, none⟩)) w := by
  rw [run_indexAt_slice (h := by kernel_rfl), if_pos (by omega)]
  have e : Yba.prog.elem 47 = 74 := by kernel_rfl
  rw [e, sizeOf74]
  simp [Addr.add]
  exact fun h => h.symm

/-- The keys' map. -/
structure MapAt (ρ : Rho) (w : World) (M : Nat) (T : List Nat) (k : Nat) : Prop where
  own : w.ownsMap Yba.prog 72 (plainElem Yba.prog 3) M k (tabD T)
  role : ρ M = .mp
theorem MapAt.keep {R : Role → Prop} {ρ ρ' : Rho} {w w' : World} {M : Nat} {T : List Nat} {k : Nat} (h : MapAt ρ w M T k) (hk : Stp R ρ w ρ' w') (hr : ¬ R .mp) : MapAt ρ' w' M T k := by
  have hlt := h.own.lt
  refine ⟨?_, (hk.role M hlt).trans h.role⟩
  obtain ⟨es, clock, hb, rest⟩ := h.own
  exact ⟨es, clock, (hk.block M hlt (by rw [h.role]; exact hr)).trans hb, rest⟩

theorem Chk.keep {R : Role → Prop} {ρ ρ' : Rho} {w w' : World} {C : Nat} {O : List OpR} {Q : List Nat} {P : Nat → List Nat} {vo vp vf vs : Value} (h : Chk ρ w C O Q P vo vp vf vs) (hk : Stp R ρ w ρ' w') (h0 : ¬ R .chk) (h1 : ¬ R .ops) (h2 : ¬ R .frm) (h3 : ¬ R .swp) (h4 : ¬ R .procs) (h5 : ∀ p, ¬ R (.proc p)) : Chk ρ' w' C O Q P vo vp vf vs :=
  ⟨h.chk.keep hk h0, h.ops.keep hk h1, h.frm.keep hk h2, h.swp.keep hk h3, h.prc.keep hk h4 (fun _ => h5 _)⟩
/-- The roles of a layout. -/
def RL : Role → Prop := fun r => r = .lay ∨ r = .key ∨ r = .prc ∨ r = .pos ∨ r = .src ∨ r = .rdH ∨ (∃ s, r = .rd s) ∨ r = .swH ∨ r = .mp
theorem Chk.keepL {ρ ρ' : Rho} {w w' : World} {C : Nat} {O : List OpR} {Q : List Nat} {P : Nat → List Nat} {vo vp vf vs : Value} (h : Chk ρ w C O Q P vo vp vf vs) (hk : Stp RL ρ w ρ' w') : Chk ρ' w' C O Q P vo vp vf vs :=
  h.keep hk (by simp [RL]) (by simp [RL]) (by simp [RL]) (by simp [RL]) (by simp [RL]) (by simp [RL])

/-- A layout while it is being made. -/
structure LayB (ρ : Rho) (w : World) (Lb C n : Nat) (keys : Int) (fk fs : Nat → Int) (vk vpc vps vsr vrd vsw : Value) : Prop where
  st : St ρ w .lay Lb 58 #[.pointer (some ⟨C, 0, none⟩), .int .i64 keys, vk, vpc, vps, vsr, vrd, vsw, .slice none 0 0]
  key : FRow ρ w .key vk n fk
  prc : ∃ f, FRow ρ w .prc vpc n f
  pos : ∃ f, FRow ρ w .pos vps n f
  src : FRow ρ w .src vsr n fs
theorem LayB.keep {R : Role → Prop} {ρ ρ' : Rho} {w w' : World} {Lb C n : Nat} {keys : Int} {fk fs : Nat → Int} {vk vpc vps vsr vrd vsw : Value} (h : LayB ρ w Lb C n keys fk fs vk vpc vps vsr vrd vsw) (hk : Stp R ρ w ρ' w') (h0 : ¬ R .lay) (h1 : ¬ R .key) (h2 : ¬ R .prc) (h3 : ¬ R .pos) (h4 : ¬ R .src) :
    LayB ρ' w' Lb C n keys fk fs vk vpc vps vsr vrd vsw := by
  obtain ⟨f1, g1⟩ := h.prc
  obtain ⟨f2, g2⟩ := h.pos
  exact ⟨h.st.keep hk h0, h.key.keep hk h1, ⟨f1, g1.keep hk h2⟩, ⟨f2, g2.keep hk h3⟩, h.src.keep hk h4⟩

/-- Four new rows and the struct, the rows laid in whatever order. -/
theorem lay_start (ρ : Rho) (w : World) (C n a b c d : Nat) (hn : n ≤ maxLen) (ha : w.heap.size ≤ a ∧ a < w.heap.size + 4) (hb : w.heap.size ≤ b ∧ b < w.heap.size + 4) (hc : w.heap.size ≤ c ∧ c < w.heap.size + 4) (hd : w.heap.size ≤ d ∧ d < w.heap.size + 4)
    (h : a ≠ b ∧ a ≠ c ∧ a ≠ d ∧ b ≠ c ∧ b ≠ d ∧ c ≠ d) (w' : World) (hw : w'.heap = (((((w.alloc (.cells (madeCells #[.int .i64 0] n) 3)).alloc (.cells (madeCells #[.int .i64 0] n) 3)).alloc (.cells (madeCells #[.int .i64 0] n) 3)).alloc (.cells (madeCells #[.int .i64 0] n) 3)).alloc (.cells #[.pointer (some ⟨C, 0, none⟩), .int .i64 0, .slice (some ⟨a, 0, none⟩) n n, .slice (some ⟨b, 0, none⟩) n n, .slice (some ⟨c, 0, none⟩) n n, .slice (some ⟨d, 0, none⟩) n n, .slice none 0 0, .slice none 0 0, .slice none 0 0] 58)).heap)
    (h1 : w'.os = w.os) (h2 : w'.tape = w.tape) (h3 : w'.output = w.output) :
    ∃ ρ', LayB ρ' w' (w.heap.size + 4) C n 0 (fun _ => 0) (fun _ => 0) (.slice (some ⟨a, 0, none⟩) n n) (.slice (some ⟨b, 0, none⟩) n n) (.slice (some ⟨c, 0, none⟩) n n) (.slice (some ⟨d, 0, none⟩) n n) (.slice none 0 0) (.slice none 0 0) ∧ Stp RL ρ w ρ' w' := by
  obtain ⟨Z, hZ⟩ : ∃ Z : Obj, Z = .cells (madeCells #[.int .i64 0] n) 3 := ⟨_, rfl⟩
  rw [← hZ] at hw
  have hrow : ∀ x, w.heap.size ≤ x → x < w.heap.size + 4 → w'.heap[x]? = some Z := by
    intro x h5 h6
    have : x = w.heap.size ∨ x = w.heap.size + 1 ∨ x = w.heap.size + 2 ∨ x = w.heap.size + 3 := by omega
    rw [hw]
    rcases this with rfl | rfl | rfl | rfl
    · rw [Below.heap_alloc _ _ _ (by simp <;> omega), Below.heap_alloc _ _ _ (by simp <;> omega), Below.heap_alloc _ _ _ (by simp <;> omega), Below.heap_alloc _ _ _ (by simp)]; exact heap_alloc_new w Z
    · rw [Below.heap_alloc _ _ _ (by simp <;> omega), Below.heap_alloc _ _ _ (by simp <;> omega), Below.heap_alloc _ _ _ (by simp)]
      have := heap_alloc_new (w.alloc Z) Z
      rwa [show (w.alloc Z).heap.size = w.heap.size + 1 by simp] at this
    · rw [Below.heap_alloc _ _ _ (by simp <;> omega), Below.heap_alloc _ _ _ (by simp)]
      have := heap_alloc_new ((w.alloc Z).alloc Z) Z
      rwa [show ((w.alloc Z).alloc Z).heap.size = w.heap.size + 2 by simp] at this
    · rw [Below.heap_alloc _ _ _ (by simp)]
      have := heap_alloc_new (((w.alloc Z).alloc Z).alloc Z) Z
      rwa [show (((w.alloc Z).alloc Z).alloc Z).heap.size = w.heap.size + 3 by simp] at this
  have hold : ∀ k, k < w.heap.size → w'.heap[k]? = w.heap[k]? := by
    intro k hk
    rw [hw, Below.heap_alloc _ _ _ (by simp <;> omega), Below.heap_alloc _ _ _ (by simp <;> omega), Below.heap_alloc _ _ _ (by simp <;> omega), Below.heap_alloc _ _ _ (by simp <;> omega), Below.heap_alloc _ _ _ hk]
  have hsz : w'.heap.size = w.heap.size + 5 := by rw [hw]; simp
  have frow : ∀ (ρ' : Rho) (r : Role) (x : Nat), w.heap.size ≤ x → x < w.heap.size + 4 → ρ' x = r → FRow ρ' w' r (.slice (some ⟨x, 0, none⟩) n n) n (fun _ => 0) := by
    intro ρ' r x h5 h6 h7
    have e : (List.range n).map (fun _ => Value.int .i64 0) = (madeCells #[.int .i64 0] n).toList := by rw [toList_madeCells_one, List.map_const']; simp
    refine ⟨⟨by simp, .inr ⟨x, n, madeCells #[.int .i64 0] n, rfl, Nat.zero_le _, by rw [hrow x h5 h6, hZ], Nat.le_refl _, hn, by rw [size_madeCells]; omega, ?_⟩⟩, fun k hk => by cases hk; exact h7⟩
    rw [e, Nat.mul_one, List.take_of_length_le (by rw [Array.length_toList, size_madeCells]; exact Nat.le_refl _)]
  let ρ' : Rho := fun k => if k < w.heap.size then ρ k else if k = a then .key else if k = b then .prc else if k = c then .pos else if k = d then .src else .lay
  refine ⟨ρ', ⟨⟨?_, ?_⟩, frow ρ' _ a ha.1 ha.2 ?_, ⟨_, frow ρ' _ b hb.1 hb.2 ?_⟩, ⟨_, frow ρ' _ c hc.1 hc.2 ?_⟩, frow ρ' _ d hd.1 hd.2 ?_⟩, ⟨h1, h2, h3, by omega, fun k hk _ => hold k hk, fun k hk => if_pos hk⟩⟩
  · rw [hw]
    have := heap_alloc_new ((((w.alloc Z).alloc Z).alloc Z).alloc Z) (.cells #[.pointer (some ⟨C, 0, none⟩), .int .i64 0, .slice (some ⟨a, 0, none⟩) n n, .slice (some ⟨b, 0, none⟩) n n, .slice (some ⟨c, 0, none⟩) n n, .slice (some ⟨d, 0, none⟩) n n, .slice none 0 0, .slice none 0 0, .slice none 0 0] 58)
    simpa using this
  · show (if w.heap.size + 4 < w.heap.size then _ else _) = _
    rw [if_neg (by omega), if_neg (by omega), if_neg (by omega), if_neg (by omega), if_neg (by omega)]
  · show (if a < w.heap.size then _ else _) = _
    rw [if_neg (by omega), if_pos rfl]
  · show (if b < w.heap.size then _ else _) = _
    rw [if_neg (by omega), if_neg (by omega), if_pos rfl]
  · show (if c < w.heap.size then _ else _) = _
    rw [if_neg (by omega), if_neg (by omega), if_neg (by omega), if_pos rfl]
  · show (if d < w.heap.size then _ else _) = _
    rw [if_neg (by omega), if_neg (by omega), if_neg (by omega), if_neg (by omega), if_pos rfl]
end Go.Proofs.Ybulknju
