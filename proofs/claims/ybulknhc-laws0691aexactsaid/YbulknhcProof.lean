import Derived.Test.YbulknhcRows
import Derived.Test.YbulknhcLaw
import Derived.ProofKit
import Derived.OpenShut
import Derived.SizedLaws
import Derived.Deep.Matrix
namespace Go.Proofs.Ybulknhc.exact_
open Go.ChangeShapes Go.WideShapes Go.ChangeAt Go.RowKit
set_option linter.unusedVariables false

theorem own : ownKnob Yba.prog.godebug = none := by kernel_rfl
theorem laidOut : laidOutB Yba.prog = true := by kernel_rfl
theorem bytes5 : Yba.prog.bytesOf 5 = 1 := by kernel_rfl
theorem cells22 : Yba.prog.cellsOf 22 = 1 := by kernel_rfl
theorem cells5 : Yba.prog.cellsOf 5 = 1 := by kernel_rfl

theorem weightsAll_mem {H : Type} {P : Program} {e : TypeId} : ∀ {l : List (DataW H)} {d : DataW H}, d ∈ l → ∀ n ∈ d.weights P e, n ∈ DataW.weightsAll P e l
  | [], _, h, _, _ => by cases h
  | x :: l, d, h, n, hn => by
    simp only [DataW.weightsAll, List.mem_append]
    rcases List.mem_cons.1 h with rfl | h
    · exact Or.inl hn
    · exact Or.inr (weightsAll_mem h n hn)

/-- An inner slice's bytes are within the reach. -/
theorem sized_inner {H : Type} {P : Program} {ts : List TypeId} {ds : List (DataW H)} (h : (DataW.weightsEach P ts ds).all (· ≤ reachBytes) = true) {j : Nat} {t e q : TypeId} {elems spare es sp : List (DataW H)} (ht : ts[j]? = some t)
    (hd : ds[j]? = some (.slice elems spare)) (hu : P.underlying t = some (.slice e)) (he : P.underlying e = some (.slice q)) (hm : DataW.slice es sp ∈ elems) : (es.length + sp.length) * P.bytesOf q ≤ reachBytes := by
  have h1 : (es.length + sp.length) * P.bytesOf q ∈ (DataW.slice es sp).weights P e := by simp [DataW.weights, he]
  have h2 := weightsAll_mem (P := P) (e := e) hm _ h1
  have h3 : (es.length + sp.length) * P.bytesOf q ∈ (DataW.slice elems spare).weights P t := by simp only [DataW.weights, hu]; exact List.mem_cons_of_mem _ (List.mem_append_left _ h2)
  have := List.all_eq_true.1 h _ (DataW.weights_mem_each ht hd _ h3)
  simpa using this

set_option maxHeartbeats 400000 in
set_option maxRecDepth 100000 in
theorem law_long (m : Int) (a1 a2 : Option Addr) (n1 c1 n2 c2 : Nat) (w : World) (h : 1024 < n1 ∨ 1024 < n2) :
    Calls Yba.prog 3 #[.int .u8 m, .slice a1 n1 c1, .slice a2 n2 c2] w fun e w' => e = .returned (.bool true) ∧ Below w.heap.size w w' := by
  by_cases h1 : 1024 < n1
  · go_enter Yba.func3, Yba.ntmps3
    go_wp2
    go_ret
    exact ⟨rfl, Below.refl _ _⟩
  · have h2 : 1024 < n2 := by omega
    go_enter Yba.func3, Yba.ntmps3
    go_wp2
    go_ret
    exact ⟨rfl, Below.refl _ _⟩

set_option maxRecDepth 100000 in
theorem lifted (os : Os) (started : os.Started) (H : Type) (enc : TypeId × Value → H) :
    ReturnsInHanded {} Yba.checked os 3 .any (Rows.lawS0691AExactSpec.pre6 enc Yba.prog Yba.f3 Rows.lawS0691AExactRow.domain false) (Rows.lawS0691AExactSpec.post enc Yba.prog Yba.f3 false true false false) := by
  refine returnsInHanded_of_change_sized (C := Yba.checked) own started (by kernel_rfl) Yba.func3
    (ChangeSpec.witness6 (enc := enc) (C := Yba.checked) false ⟨#[], #[.int .u8 0, .slice none 0 0, .slice none 0 0], []⟩ 8 (by kernel_rfl) (by kernel_rfl) (by kernel_rfl) (by kernel_rfl)) ?_
  intro W base args ds gs before hval0 hW hcnd0 hsz0 hholds
  have hval : ∀ (j : Nat) t v, Yba.f3.params[j]? = some t → args[j]? = some v → Value.okWide Yba.prog W .any base t v := hval0
  have hW' := hW
  obtain ⟨p, q, hA0, hV, rfl, hfz, hnd⟩ := hW
  have hA : DataW.TrodAll enc Yba.prog W 0 (fun _ => true) true Yba.f3.params.toList args.toList ds p := hA0
  have hsz : (DataW.weightsEach Yba.prog (Yba.f3.params.toList ++ Rows.lawS0691AExactSpec.plain.varTypes Yba.prog) (ds ++ gs)).all (· ≤ reachBytes) = true := hsz0
  rw [Yba.params3] at hA hval hsz
  obtain ⟨v0, vs0, d0, ds0, p0, q0, hargs, rfl, rfl, h0, r0⟩ := trodAll_cons hA
  obtain ⟨v1, vs1, d1, ds1, p1, q1, rfl, rfl, rfl, h1, r1⟩ := trodAll_cons r0
  obtain ⟨v2, vs2, d2, ds2, p2, q2, rfl, rfl, rfl, h2, r2⟩ := trodAll_cons r1
  obtain ⟨rfl, rfl, rfl⟩ := trodAll_nil r2
  obtain rfl : args = #[v0, v1, v2] := by cases args; simp_all
  obtain ⟨rfl, rfl⟩ := trodVars_none hV
  obtain ⟨m, rfl, rfl, rfl, wm⟩ := open_int Yba.underlying5 (hval 0 5 v0 rfl rfl) h0
  obtain ⟨hm0, hm1⟩ := bounds_u8 wm
  obtain ⟨a1, n1, c1, rfl⟩ := okWide_slice Yba.underlying22 (hval 1 22 v1 rfl rfl)
  have k1 := h1
  have lt1 : ∀ x ∈ p1, x.block < W.heap.size := by obtain ⟨n, hn⟩ := k1; exact DataW.trod_lt n _ _ _ hn
  obtain ⟨a2, n2, c2, rfl⟩ := okWide_slice Yba.underlying23 (hval 2 23 v2 rfl rfl)
  have k2 := h2
  have lt2 : ∀ x ∈ p2, x.block < W.heap.size := by obtain ⟨n, hn⟩ := k2; exact DataW.trod_lt n _ _ _ hn
  -- what the reporters' bytes are
  have F1 : ∃ f : Nat → Int, ∀ k, k < n1 → ∃ b off, a1 = some ⟨b, off, none⟩ ∧ W.cell? ⟨b, off + k, none⟩ = some (.int .u8 (f k)) ∧ 0 ≤ f k ∧ f k ≤ 255 := by
    obtain ⟨fuel, hf⟩ := h1
    rcases open_ints Yba.underlying22 Yba.underlying5 cells5 hf with ⟨hcs, _⟩ | ⟨x, l, c, zs, hcs, _, hl, hm, hz, _, hcell, hwz⟩
    · simp [Value.cells] at hcs
      obtain ⟨rfl, rfl, rfl⟩ := hcs
      exact ⟨fun _ => 0, fun k hk => by omega⟩
    · simp [Value.cells] at hcs
      obtain ⟨rfl, rfl, rfl⟩ := hcs
      have hz' : zs.length = c1 := by simpa using hz
      refine ⟨fun k => zs.getD k 0, fun k hk => ?_⟩
      obtain ⟨b, off, rfl, hc⟩ := ints_at hcell (by omega)
      have hin : zs.getD k 0 ∈ zs := by rw [List.getD_eq_getElem?_getD, List.getElem?_eq_getElem (show k < zs.length by omega)]; exact List.getElem_mem _
      exact ⟨b, off, rfl, hc k (by omega), bounds_u8 (hwz _ hin)⟩
  obtain ⟨f, hf1⟩ := F1
  have F2 : ∃ (A : Nat → Option Addr) (L C : Nat → Nat) (x : Nat → Nat → Int), (∀ r, r < n2 → ∃ b off, a2 = some ⟨b, off, none⟩ ∧ W.cell? ⟨b, off + r, none⟩ = some (.slice (A r) (L r) (C r)) ∧ L r ≤ 140737488355328) ∧
      ∀ r, r < n2 → ∀ c, c < L r → ∃ b off, A r = some ⟨b, off, none⟩ ∧ W.cell? ⟨b, off + c, none⟩ = some (.int .u8 (x r c)) ∧ 0 ≤ x r c ∧ x r c ≤ 255 := by
    obtain ⟨fuel, hf⟩ := h2
    rcases Deep.open_int_rows Yba.underlying23 Yba.underlying22 Yba.underlying5 cells22 cells5 hf with ⟨hcs, _⟩ | ⟨a, l, c, A, L, C, Z, hcs, _, hl, hm, hx, hrows⟩
    · simp [Value.cells] at hcs
      obtain ⟨rfl, rfl, rfl⟩ := hcs
      exact ⟨fun _ => none, fun _ => 0, fun _ => 0, fun _ _ => 0, fun r hr => by omega, fun r hr => by omega⟩
    · simp [Value.cells] at hcs
      obtain ⟨rfl, rfl, rfl⟩ := hcs
      simp only [Prod.mk.injEq] at hx
      obtain ⟨hd2, _⟩ := hx
      refine ⟨A, L, C, fun r c => (Z r).getD c 0, fun r hr => ?_, fun r hr c hc => ?_⟩
      · obtain ⟨hc1, hLC, hCm, hZ, hwZ, hnil, hsome⟩ := hrows r (by omega)
        have hc0 := (hrows 0 (by omega)).1
        obtain ⟨b, off, spot⟩ := a
        have hspot : spot = none := by simpa [Addr.add] using World.cell?_spot hc0
        subst hspot
        refine ⟨b, off, rfl, by rw [← add_plain]; exact hc1, ?_⟩
        cases hA : A r with
        | none => have := hnil hA; omega
        | some ar =>
          have hs := sized_inner (j := 2) (t := 23) (e := 22) (q := 5) (es := lits .u8 ((Z r).take (L r))) (sp := lits .u8 ((Z r).drop (L r))) hsz rfl (by rw [hd2]; rfl) Yba.underlying23 Yba.underlying22 (List.mem_map.2 ⟨r, List.mem_range.2 hr, by simp [Deep.intRow, hA]⟩)
          rw [bytes5] at hs
          simp only [lits, List.length_map, List.length_take, List.length_drop, reachBytes] at hs
          omega
      · obtain ⟨hc1, hLC, hCm, hZ, hwZ, hnil, hsome⟩ := hrows r (by omega)
        cases hA : A r with
        | none => have := hnil hA; omega
        | some ar =>
          obtain ⟨_, hcells⟩ := hsome ar hA
          obtain ⟨b, off, rfl, hcc⟩ := ints_at (a := ar) (k := .u8) (zs := Z r) (fun i hi => hcells i (by omega)) (by omega)
          have hin : (Z r).getD c 0 ∈ Z r := by rw [List.getD_eq_getElem?_getD, List.getElem?_eq_getElem (show c < (Z r).length by omega)]; exact List.getElem_mem _
          exact ⟨b, off, rfl, hcc c (by omega), bounds_u8 (hwZ _ hin)⟩
  obtain ⟨A, L, C, x, hx1, hx2⟩ := F2
  have wk : Calls Yba.prog 3 #[.int .u8 m, .slice a1 n1 c1, .slice a2 n2 c2] W fun e w' => e = .returned (.bool true) ∧ Below W.heap.size W w' := by
    by_cases hbig : 1024 < n1 ∨ 1024 < n2
    · exact law_long m a1 a2 n1 c1 n2 c2 W hbig
    · exact law_short m a1 a2 n1 c1 n2 c2 f A L C x W hm0 hm1 (by omega) (by omega) ⟨hf1, hx1, hx2⟩
  clear hA0 hval0
  refine wk.mono fun e W' ⟨he, bel⟩ => ?_
  subst he
  exact ⟨_, rfl, _, _, _, [], _, [], hW', trodAll_mk1 (shut_bool Yba.underlying4 _), (trodAll_cons_mk (shut_int Yba.underlying5 wm) (trodAll_cons_mk (Below.trod laidOut (by kernel_rfl) (of_decide_eq_true (by kernel_rfl)) k1 bel lt1) (trodAll_cons_mk (Below.trod laidOut (by kernel_rfl) (of_decide_eq_true (by kernel_rfl)) k2 bel lt2) trodAll_mk0))), rfl, bel.frame _, fun h => by cases h⟩

theorem over : Rows.lawS0691AExactRow.holds Yba.pinned (OpenSpec.ofChange Rows.lawS0691AExactSpec) :=
  OpenClaim.holds_of_wide 3 Yba.f3 rfl rfl rfl rfl rfl rfl rfl ⟨rfl, rfl, rfl, rfl, rfl⟩ rfl rfl rfl rfl rfl (by kernel_rfl) Yba.func3 (by kernel_rfl)
    (of_decide_eq_true (by kernel_rfl)) (by unfold Func.isWrapper; first | (rw [if_pos (by decide +kernel)]; kernel_rfl) | (rw [if_neg (by decide +kernel)]; exact ⟨rfl, rfl⟩))
    (fun os started H enc _ => lifted os started H enc)
end Go.Proofs.Ybulknhc.exact_
namespace Go.Proofs.Ybulknhc
/-- THE STATEMENT. -/
theorem lawS0691AExact_holds : Rows.LawS0691AExactSaid := exact_.over
end Go.Proofs.Ybulknhc
