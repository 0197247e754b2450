import Derived.Test.YbulknisFmtEach
namespace Go.Proofs.YbulknisFmt
open Go.RowKit

/-- The entitlement of holding q. -/
def entOf (p : Nat × Int) : Ent := ⟨⟨p.1 / 12 % 4, Nat.mod_lt _ (by omega)⟩, ⟨p.1 / 3 % 4, Nat.mod_lt _ (by omega)⟩, ⟨p.1 % 3, Nat.mod_lt _ (by omega)⟩, p.2⟩
theorem entOf_kn (x : Lot) (s : Int) : entOf (kn x, s) = ⟨x.acc, x.ag, x.fd, s⟩ := by
  have := x.acc.isLt; have := x.ag.isLt; have := x.fd.isLt
  unfold entOf kn
  congr 1
  · apply Fin.ext; show _ = x.acc.val; dsimp only; omega
  · apply Fin.ext; show _ = x.ag.val; dsimp only; omega
  · apply Fin.ext; show _ = x.fd.val; dsimp only; omega
def ents (c : Fin 3) (d : Int) (L : List Lot) (k : Nat) : List Ent := (canon c d L k).map entOf
theorem canon_start (c : Fin 3) (d : Int) {L : List Lot} (hs : Sorted L) : canon c d L (bound L 0) = [] := by
  have := canon_skip (c := c) (d := d) (L := L) (k := 0) (bound L 0) (fun t _ ht => by
    rw [S_run (i := 0) (j := 0) (Nat.le_refl _) (Nat.zero_le _) (fun t' h => by omega) (fun t' _ h2 e => by
      have : bound L 0 ≤ kn (lotAt L t') := by
        unfold bound
        rw [if_pos (by omega)]
        rcases Nat.eq_zero_or_pos t' with rfl | h3
        · exact Nat.le_refl _
        · exact (not_lx (hs 0 t' h3 h2)).1
      omega)]
    simp [sumN])
  rw [Nat.zero_add] at this
  rw [this]
  rfl
theorem Run.ents {L : List Lot} {i j : Nat} (h : Run L i j) (hs : Sorted L) (c : Fin 3) (d : Int) :
    ents c d L (bound L j) = emit (ents c d L (bound L i)) (lotAt L i).acc (lotAt L i).ag (lotAt L i).fd (S c d L (kn (lotAt L i))) := by
  unfold YbulknisFmt.ents emit
  rw [h.canon hs c d]
  split
  · simp
  · rw [List.map_append]; simp only [List.map_cons, List.map_nil, entOf_kn]

theorem nm_eq : ∀ i j : Fin 4, ((nm i).toList == (nm j).toList) = decide (i = j) := by decide +kernel
theorem fdn_eq : ∀ i j : Fin 3, ((fdn i).toList == (fdn j).toList) = decide (i = j) := by decide +kernel
theorem kn_iff (x y : Lot) : kn x = kn y ↔ x.acc = y.acc ∧ x.ag = y.ag ∧ x.fd = y.fd := ⟨kn_eq, fun ⟨h1, h2, h3⟩ => by unfold kn; rw [h1, h2, h3]⟩
theorem part9 {xs : Array Value} {o : Nat} {v : Value} (h : xs[o]? = some v) (w : World) : (part 9 xs o).run Ybaf.prog w = .ok v w := by
  have ha : (isAgg 9).run Ybaf.prog w = .ok false w := by kernel_rfl
  simp [part, Sem.run_bind, ha, h]
theorem eqH (a g a' g' : Fin 4) (f f' : Fin 3) (w : World) : (Op.equalIn 10000 56 (.agg #[.string (nm a), .string (nm g), .string (fdn f)]) (.agg #[.string (nm a'), .string (nm g'), .string (fdn f')])).run Ybaf.prog w = .ok (decide (a = a' ∧ g = g' ∧ f = f')) w := by
  have hfl : Ybaf.prog.fieldsOf 56 = #[{ name := "Account", type := 9, offset := 0, embedded := false, tag := "", pkgPath := "", byteOffset := 0 }, { name := "Agency", type := 9, offset := 1, embedded := false, tag := "", pkgPath := "", byteOffset := 16 }, { name := "Fund", type := 9, offset := 2, embedded := false, tag := "", pkgPath := "", byteOffset := 32 }] := by unfold Program.fieldsOf; rw [Ybaf.underlying56]
  have hf : Ybaf.prog.underlying 56 = some (.struct (Ybaf.prog.fieldsOf 56)) := by rw [hfl]; exact Ybaf.underlying56
  have hp : Ybaf.prog.stoodInHeld 56 = false := by kernel_rfl
  have h9 : Ybaf.prog.underlying 9 = some .string := by kernel_rfl
  rw [show (10000 : Nat) = 9999 + 1 from rfl, run_equalIn_struct w 9999 56 _ _ hf hp, hfl]
  have s1 : (Op.equalIn 9999 9 (.string (nm a)) (.string (nm a'))).run Ybaf.prog w = .ok (decide (a = a')) w := by rw [← nm_eq]; exact run_equalIn_string w 9998 9 _ _ h9
  have s2 : (Op.equalIn 9999 9 (.string (nm g)) (.string (nm g'))).run Ybaf.prog w = .ok (decide (g = g')) w := by rw [← nm_eq]; exact run_equalIn_string w 9998 9 _ _ h9
  have s3 : (Op.equalIn 9999 9 (.string (fdn f)) (.string (fdn f'))).run Ybaf.prog w = .ok (decide (f = f')) w := by rw [← fdn_eq]; exact run_equalIn_string w 9998 9 _ _ h9
  have p1 := part9 (o := 0) (v := .string (nm a)) (xs := #[.string (nm a), .string (nm g), .string (fdn f)]) rfl w
  have p2 := part9 (o := 1) (v := .string (nm g)) (xs := #[.string (nm a), .string (nm g), .string (fdn f)]) rfl w
  have p3 := part9 (o := 2) (v := .string (fdn f)) (xs := #[.string (nm a), .string (nm g), .string (fdn f)]) rfl w
  have q1 := part9 (o := 0) (v := .string (nm a')) (xs := #[.string (nm a'), .string (nm g'), .string (fdn f')]) rfl w
  have q2 := part9 (o := 1) (v := .string (nm g')) (xs := #[.string (nm a'), .string (nm g'), .string (fdn f')]) rfl w
  have q3 := part9 (o := 2) (v := .string (fdn f')) (xs := #[.string (nm a'), .string (nm g'), .string (fdn f')]) rfl w
  generalize hX : #[Value.string (nm a), Value.string (nm g), Value.string (fdn f)] = X at *
  generalize hY : #[Value.string (nm a'), Value.string (nm g'), Value.string (fdn f')] = Y at *
  clear hX hY
  by_cases c1 : a = a'
  · rw [decide_eq_true c1] at s1
    by_cases c2 : g = g'
    · rw [decide_eq_true c2] at s2
      by_cases c3 : f = f'
      · rw [decide_eq_true c3] at s3
        rw [decide_eq_true (⟨c1, c2, c3⟩ : a = a' ∧ g = g' ∧ f = f')]
        simp [Op.eqFields, Sem.run_bind, p1, p2, p3, q1, q2, q3, s1, s2, s3]
      · rw [decide_eq_false c3] at s3
        rw [decide_eq_false (fun h : a = a' ∧ g = g' ∧ f = f' => c3 h.2.2)]
        simp [Op.eqFields, Sem.run_bind, p1, p2, p3, q1, q2, q3, s1, s2, s3]
    · rw [decide_eq_false c2] at s2
      rw [decide_eq_false (fun h : a = a' ∧ g = g' ∧ f = f' => c2 h.2.1)]
      simp [Op.eqFields, Sem.run_bind, p1, p2, q1, q2, s1, s2]
  · rw [decide_eq_false c1] at s1
    rw [decide_eq_false (fun h : a = a' ∧ g = g' ∧ f = f' => c1 h.1)]
    simp [Op.eqFields, Sem.run_bind, p1, q1, s1]
end Go.Proofs.YbulknisFmt
