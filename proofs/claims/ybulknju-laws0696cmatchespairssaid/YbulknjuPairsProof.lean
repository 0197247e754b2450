import Derived.Test.YbulknjuRows
import Derived.Test.YbulknjuLaw
import Derived.ProofKit
import Derived.OpenShut
import Derived.SizedLaws
import Derived.Deep.Matrix
import Derived.Deep.Grids
namespace Go.Proofs.Ybulknju.pairs_
open Go.ChangeShapes Go.WideShapes Go.ChangeAt Go.RowKit
set_option linter.unusedVariables false

theorem own : ownKnob Yba.prog.godebug = none := by kernel_rfl
theorem laidOut : laidOutB Yba.prog = true := by kernel_rfl
theorem cells33 : Yba.prog.cellsOf 33 = 1 := by kernel_rfl
theorem cells85 : Yba.prog.cellsOf 85 = 1 := by kernel_rfl
theorem cells4 : Yba.prog.cellsOf 4 = 1 := by kernel_rfl

set_option maxHeartbeats 400000 in
set_option maxRecDepth 100000 in
theorem law_long (a1 a2 : Option Addr) (n c1 n2 c2 : Nat) (w : World) (h : 300 < n) :
    Calls Yba.prog 5 #[.slice a1 n c1, .slice a2 n2 c2] w fun e w' => e = .returned (.bool true) ∧ Below w.heap.size w w' := by
  go_enter Yba.func5, Yba.ntmps5
  go_wp2
  go_ret
  exact ⟨rfl, Below.refl _ _⟩

set_option maxRecDepth 100000 in
theorem lifted (os : Os) (started : os.Started) (H : Type) (enc : TypeId × Value → H) :
    ReturnsInHanded {} Yba.checked os 5 .any (Rows.lawS0696CMatchesPairsSpec.pre6 enc Yba.prog Yba.f5 Rows.lawS0696CMatchesPairsRow.domain false) (Rows.lawS0696CMatchesPairsSpec.post enc Yba.prog Yba.f5 false true false false) := by
  refine returnsInHanded_of_change_sized (C := Yba.checked) own started (by kernel_rfl) Yba.func5
    (ChangeSpec.witness6 (enc := enc) (C := Yba.checked) false ⟨#[], #[.slice none 0 0, .slice none 0 0], []⟩ 8 (by kernel_rfl) (by kernel_rfl) (by kernel_rfl) (by kernel_rfl)) ?_
  intro W base args ds gs before hval0 hW hcnd0 hsz0 hholds
  have hval : ∀ (j : Nat) t v, Yba.f5.params[j]? = some t → args[j]? = some v → Value.okWide Yba.prog W .any base t v := hval0
  have hW' := hW
  obtain ⟨p, q, hA0, hV, rfl, hfz, hnd⟩ := hW
  have hA : DataW.TrodAll enc Yba.prog W 0 (fun _ => true) true Yba.f5.params.toList args.toList ds p := hA0
  rw [Yba.params5] at hA hval
  obtain ⟨v1, vs1, d1, ds1, p1, q1, hargs, rfl, rfl, h1, r1⟩ := trodAll_cons hA
  obtain ⟨v2, vs2, d2, ds2, p2, q2, rfl, rfl, rfl, h2, r2⟩ := trodAll_cons r1
  obtain ⟨rfl, rfl, rfl⟩ := trodAll_nil r2
  obtain rfl : args = #[v1, v2] := by cases args; simp_all
  obtain ⟨rfl, rfl⟩ := trodVars_none hV
  obtain ⟨a1, n, c1, rfl⟩ := okWide_slice Yba.underlying31 (hval 0 31 v1 rfl rfl)
  have k1 := h1
  have lt1 : ∀ x ∈ p1, x.block < W.heap.size := by obtain ⟨n, hn⟩ := k1; exact DataW.trod_lt n _ _ _ hn
  obtain ⟨a2, n2, c2, rfl⟩ := okWide_slice Yba.underlying32 (hval 1 32 v2 rfl rfl)
  have k2 := h2
  have lt2 : ∀ x ∈ p2, x.block < W.heap.size := by obtain ⟨n, hn⟩ := k2; exact DataW.trod_lt n _ _ _ hn
  have F1 : ∃ (ad : Nat → Option Addr) (ln cp : Nat → Nat) (z : Nat → Nat → Int), Heads W a1 n ad ln cp ∧ ∀ k, k < n → ln k ≤ 9223372036854775807 ∧ ln k ≤ cp k ∧ RowU W (ad k) (ln k) (z k) := by
    obtain ⟨fuel, hf⟩ := h1
    rcases Deep.open_int_rows Yba.underlying31 Yba.underlying33 Yba.underlying85 cells33 cells85 hf with ⟨hcs, _⟩ | ⟨a, l, c, A, L, C, Z, hcs, _, hl, hm, hx, hrows⟩
    · simp [Value.cells] at hcs
      obtain ⟨rfl, rfl, rfl⟩ := hcs
      exact ⟨fun _ => none, fun _ => 0, fun _ => 0, fun _ _ => 0, fun r hr => by omega, fun r hr => by omega⟩
    · simp [Value.cells] at hcs
      obtain ⟨rfl, rfl, rfl⟩ := hcs
      refine ⟨A, L, C, fun r c => (Z r).getD c 0, fun r hr => ?_, fun r hr => ?_⟩
      · obtain ⟨hc1, hLC, hCm, hZ, hwZ, hnil, hsome⟩ := hrows r (by omega)
        have hc0 := (hrows 0 (by omega)).1
        obtain ⟨b, off, spot⟩ := a
        have hspot : spot = none := by simpa [Addr.add] using World.cell?_spot hc0
        subst hspot
        exact ⟨b, off, rfl, by rw [← add_plain]; exact hc1⟩
      · obtain ⟨hc1, hLC, hCm, hZ, hwZ, hnil, hsome⟩ := hrows r (by omega)
        refine ⟨by unfold maxLen at hCm; omega, hLC, fun c hc => ?_⟩
        cases hA : A r with
        | none => have := hnil hA; omega
        | some ar =>
          obtain ⟨_, hcells⟩ := hsome ar hA
          obtain ⟨b, off, rfl, hcc⟩ := ints_at (a := ar) (k := .u64) (zs := Z r) (fun i hi => hcells i (by omega)) (by omega)
          have hin : (Z r).getD c 0 ∈ Z r := by rw [List.getD_eq_getElem?_getD, List.getElem?_eq_getElem (show c < (Z r).length by omega)]; exact List.getElem_mem _
          exact ⟨b, off, rfl, hcc c (by omega), (bounds_u64 (hwZ _ hin)).1⟩
  obtain ⟨ad, ln, cp, z, hx1, hx2⟩ := F1
  have F2 : ∃ fl : Nat → Bool, RowB W a2 n2 fl ∧ n2 ≤ 9223372036854775807 := by
    obtain ⟨fuel, hf⟩ := h2
    rcases Go.Deep.open_bools Yba.underlying32 Yba.underlying4 cells4 hf with ⟨hcs, _⟩ | ⟨a, l, c, B, hcs, _, hl, hm, hx, hrows⟩
    · simp [Value.cells] at hcs
      obtain ⟨rfl, rfl, rfl⟩ := hcs
      exact ⟨fun _ => false, fun r hr => by omega, by omega⟩
    · simp [Value.cells] at hcs
      obtain ⟨rfl, rfl, rfl⟩ := hcs
      refine ⟨B, fun r hr => ?_, by unfold maxLen at hm; omega⟩
      have hc1 := hrows r (by omega)
      have hc0 := hrows 0 (by omega)
      obtain ⟨b, off, spot⟩ := a
      have hspot : spot = none := by simpa [Addr.add] using World.cell?_spot hc0
      subst hspot
      exact ⟨b, off, rfl, by rw [← add_plain]; exact hc1⟩
  obtain ⟨fl, hfl, hn2⟩ := F2
  have wk : Calls Yba.prog 5 #[.slice a1 n c1, .slice a2 n2 c2] W fun e w' => e = .returned (.bool true) ∧ Below W.heap.size W w' := by
    by_cases hbig : 300 < n
    · exact law_long a1 a2 n c1 n2 c2 W hbig
    · exact law_any a1 a2 n c1 n2 c2 ad ln cp z fl W (by omega) hn2 hx1 hx2 hfl
  clear hA0 hval0
  refine wk.mono fun e W' ⟨he, bel⟩ => ?_
  subst he
  exact ⟨_, rfl, _, _, _, [], _, [], hW', trodAll_mk1 (shut_bool Yba.underlying4 _), (trodAll_cons_mk (Below.trod laidOut (by kernel_rfl) (of_decide_eq_true (by kernel_rfl)) k1 bel lt1) (trodAll_cons_mk (Below.trod laidOut (by kernel_rfl) (of_decide_eq_true (by kernel_rfl)) k2 bel lt2) trodAll_mk0)), rfl, bel.frame _, fun h => by cases h⟩

theorem over : Rows.lawS0696CMatchesPairsRow.holds Yba.pinned (OpenSpec.ofChange Rows.lawS0696CMatchesPairsSpec) :=
  OpenClaim.holds_of_wide 5 Yba.f5 rfl rfl rfl rfl rfl rfl rfl ⟨rfl, rfl, rfl, rfl, rfl⟩ rfl rfl rfl rfl rfl (by kernel_rfl) Yba.func5 (by kernel_rfl)
    (of_decide_eq_true (by kernel_rfl)) (by unfold Func.isWrapper; first | (rw [if_pos (by decide +kernel)]; kernel_rfl) | (rw [if_neg (by decide +kernel)]; exact ⟨rfl, rfl⟩))
    (fun os started H enc _ => lifted os started H enc)
end Go.Proofs.Ybulknju.pairs_
namespace Go.Proofs.Ybulknju
/-- THE STATEMENT. -/
theorem lawS0696CMatchesPairs_holds : Rows.LawS0696CMatchesPairsSaid := pairs_.over
end Go.Proofs.Ybulknju
