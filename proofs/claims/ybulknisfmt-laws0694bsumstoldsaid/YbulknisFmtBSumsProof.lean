import Derived.Test.YbulknisFmtRows
import Derived.Test.YbulknisFmtTie
import Derived.Test.YbulknisFmtCards
import Derived.Test.YbulknisFmtLaw
import Derived.Test.YbulknisFmtDoor
import Derived.SevenTiedAt
import Derived.ProofKit
namespace Go.Proofs.YbulknisFmt.bsums
open Go.ChangeShapes Go.WideShapes Go.ChangeAt Go.RowKit
open Go.Extern.Stop Go.Stop Go.Extern
set_option linter.unusedVariables false

theorem laidOut7 : laidOutB Ybaf.pinned.checked.prog = true := by kernel_rfl
theorem stops : Ybaf.pinned.checked.prog.stops = ["fmt.errorf", "fmt.Sprintf"] := by kernel_rfl
theorem stopKnobs : Ybaf.pinned.checked.prog.stopKnobs = [] := by kernel_rfl
theorem quiet (os : Os) : Stop.quiet Ybaf.pinned.checked.prog os := by
  intro k hk
  rw [stopKnobs] at hk
  cases hk

theorem inZ_of {W : World} {a : Option Addr} {n : Nat} {f : Nat → Int × Int × Int × Int × Int × Int × Bool} (h : ∀ k, k < n → ∃ b off, a = some ⟨b, off, none⟩ ∧ RawAt W b (off + k * 7) (f k)) :
    InZ W a n (fun k => ⟨(f k).1, (f k).2.1, (f k).2.2.1, (f k).2.2.2.1, (f k).2.2.2.2.1, (f k).2.2.2.2.2.1, (f k).2.2.2.2.2.2⟩) := by
  intro k hk
  obtain ⟨b, off, e, ⟨c0, c1, c2, c3, c4, c5, c6⟩, w0, w1, w2, w3, w4, w5⟩ := h k hk
  refine ⟨b, off, e, ⟨c0, c1, c2, c3, c4, c5, c6⟩, ?_⟩
  simp [Lit.wf, IntKind.min, IntKind.max, IntKind.signed, IntKind.bits] at w0 w1 w2 w3 w4 w5
  exact ⟨w0.1, w1.1, w2.1, w4.1, w3, w5⟩

set_option maxRecDepth 100000 in
set_option maxHeartbeats 1600000 in
theorem lifted (os : Os) (started : os.Started) (H : Type) (enc : TypeId × Value → H) :
    ReturnsInTold none {} Ybaf.checked os 5 .any Input.okWide ((OpenSpec.ofChange Rows.lawS0694BSumsSpec).preRow enc Ybaf.prog Ybaf.f5 [] false laidR) (fun F => ((OpenSpec.ofChange Rows.lawS0694BSumsSpec).at F.told).post enc Ybaf.prog Ybaf.f5 false true false false) (aloneAtReturn Ybaf.prog) nothingAlways := by
  refine returnsInTold_of_row (C := Ybaf.checked) (s := OpenSpec.ofChange Rows.lawS0694BSumsSpec) (by kernel_rfl) own started (by kernel_rfl) Ybaf.func5 (witness os enc) ?_
  intro F W base0 args ds gs before _ hF hval0 hW _ _ _ hL _
  have hval : ∀ (j : Nat) t v, Ybaf.f5.params[j]? = some t → args[j]? = some v → Value.okWide Ybaf.prog W .any base0 t v := hval0
  have hW' := hW
  obtain ⟨p, q, hA0, hV0, rfl, hfz, hnd⟩ := hW
  have hA : DataW.TrodAll enc Ybaf.prog W 0 (fun _ => true) true Ybaf.f5.params.toList args.toList ds p := hA0
  have hV : DataW.TrodVars enc Ybaf.prog W (fun _ => true) Rows.lawS0694BSumsSpec.vars gs q := hV0
  rw [Ybaf.params5] at hA hval
  obtain ⟨v1, vs1, d1, ds1, p1, q1, hargs, rfl, rfl, h1, r1⟩ := trodAll_cons hA
  obtain ⟨v2, vs2, d2, ds2, p2, q2, rfl, rfl, rfl, h2, r2⟩ := trodAll_cons r1
  obtain ⟨v3, vs3, d3, ds3, p3, q3, rfl, rfl, rfl, h3, r3⟩ := trodAll_cons r2
  obtain ⟨rfl, rfl, rfl⟩ := trodAll_nil r3
  obtain rfl : args = #[v1, v2, v3] := by cases args; simp_all
  obtain ⟨a1, n, c1, rfl⟩ := okWide_slice Ybaf.underlying37 (hval 0 37 v1 rfl rfl)
  obtain ⟨cd, rfl, rfl, rfl, wcd⟩ := open_int Ybaf.underlying5 (hval 1 5 v2 rfl rfl) h2
  obtain ⟨d, rfl, rfl, rfl, wd⟩ := open_int Ybaf.underlying38 (hval 2 38 v3 rfl rfl) h3
  have k1 := h1
  have lt1 : ∀ x ∈ p1, x.block < W.heap.size := by obtain ⟨n, hn⟩ := k1; exact DataW.trod_lt n _ _ _ hn
  obtain ⟨fuel, hf⟩ := h1
  obtain ⟨f, hz⟩ := open_zs (a := a1) (n := n) (c := c1) hf
  obtain ⟨⟨n0, n1⟩, m0, m1⟩ := cells_of_laid hL
  have hb4 := World.block_lt_of_cell? _ _ m0
  have bcd : 0 ≤ cd := by simp [Lit.wf, IntKind.min, IntKind.max, IntKind.signed, IntKind.bits] at wcd; omega
  have bd : -32768 ≤ d ∧ d ≤ 32767 := by simp [Lit.wf, IntKind.min, IntKind.max, IntKind.signed, IntKind.bits] at wd; omega
  have wk : Calls Ybaf.prog 5 #[.slice a1 n c1, .int .u8 cd, .int .i16 d] W fun e w' => e = .returned (.bool true) ∧ Below W.heap.size W w' := by
    by_cases hbig : 1024 < n
    · exact law_long a1 n c1 cd d W hbig
    · exact law_any a1 n c1 cd d _ W (by omega) (inZ_of hz) bcd bd.1 bd.2 ⟨n0, n1, m0, m1⟩ (by have : (4 : Nat) < W.heap.size := hb4; omega)
  have hgs : ∃ g1 g2 g3 g4 g5, gs = [g1, g2, g3, g4, g5] := by
    have := hV
    match gs, this with
    | [g1, g2, g3, g4, g5], _ => exact ⟨g1, g2, g3, g4, g5, rfl⟩
    | [], h => exact h.elim
    | [_], ⟨_, _, _, _, _, _, _, _, _, _, h, _⟩ => exact h.elim
    | [_, _], ⟨_, _, _, _, _, _, _, _, _, _, ⟨_, _, _, _, _, _, _, _, _, _, h, _⟩, _⟩ => exact h.elim
    | [_, _, _], ⟨_, _, _, _, _, _, _, _, _, _, ⟨_, _, _, _, _, _, _, _, _, _, ⟨_, _, _, _, _, _, _, _, _, _, h, _⟩, _⟩, _⟩ => exact h.elim
    | [_, _, _, _], ⟨_, _, _, _, _, _, _, _, _, _, ⟨_, _, _, _, _, _, _, _, _, _, ⟨_, _, _, _, _, _, _, _, _, _, ⟨_, _, _, _, _, _, _, _, _, _, h, _⟩, _⟩, _⟩, _⟩ => exact h.elim
    | _ :: _ :: _ :: _ :: _ :: _ :: _, ⟨_, _, _, _, _, _, _, _, _, _, ⟨_, _, _, _, _, _, _, _, _, _, ⟨_, _, _, _, _, _, _, _, _, _, ⟨_, _, _, _, _, _, _, _, _, _, ⟨_, _, _, _, _, _, _, _, _, _, h, _⟩, _⟩, _⟩, _⟩, _⟩ => exact h.elim
  obtain ⟨g1, g2, g3, g4, g5, rfl⟩ := hgs
  clear hA0 hV0 hval0
  have hfn : ((OpenSpec.ofChange Rows.lawS0694BSumsSpec).at F.told).fn H ([d1, .lit (.int .u8 cd), .lit (.int .i16 d)] ++ [g1, g2, g3, g4, g5]) = { results := [.lit (.bool true)], args := [d1, .lit (.int .u8 cd), .lit (.int .i16 d)], vars := [g1, g2, g3, g4, g5] } := rfl
  refine wk.mono fun e W' ⟨he, bel⟩ => ?_
  subst he
  refine ⟨_, rfl, _, _, _, [], p1 ++ ([] ++ ([] ++ [])), q, hW', ?_, ?_, ?_, bel.frame _, fun h => by cases h⟩
  · rw [hfn]; exact trodAll_mk1 (shut_bool Ybaf.underlying4 _)
  · rw [hfn]; exact trodAll_cons_mk (Below.trod laidOut (by kernel_rfl) (of_decide_eq_true (by kernel_rfl)) k1 bel lt1) (trodAll_cons_mk (shut_int Ybaf.underlying5 wcd) (trodAll_cons_mk (shut_int Ybaf.underlying38 wd) trodAll_mk0))
  · rw [hfn]; exact Below.trodVars laidOut bel (by kernel_rfl) hV

theorem card_holds : Rows.LawS0694BSumsToldSaid :=
  Claim7.holds_of_told_tied_any_at .later 5 Ybaf.f5 "fmt.errorf" ["fmt.Sprintf"] [] _ _ _ _ _ (by kernel_rfl) rfl rfl rfl laidOut7 (by kernel_rfl) rfl ⟨rfl, rfl, rfl, rfl, rfl, rfl, rfl⟩ rfl rfl (by kernel_rfl) (by kernel_rfl) Ybaf.func5 (by kernel_rfl)
    (of_decide_eq_true (by kernel_rfl)) (by unfold Func.isWrapper; first | (rw [if_pos (by decide +kernel)]; kernel_rfl) | (rw [if_neg (by decide +kernel)]; exact ⟨rfl, rfl⟩)) stops.symm rfl stopKnobs.symm (by kernel_rfl)
    (by kernel_rfl) (by kernel_rfl) (by kernel_rfl) (by kernel_rfl) (by kernel_rfl) (by kernel_rfl) (by kernel_rfl) (by kernel_rfl) (by kernel_rfl) rfl (by kernel_rfl) rfl rfl
    rfl rfl
    rfl (by kernel_rfl) (by kernel_rfl) (by kernel_rfl) (by decide) (by kernel_rfl) lawS0694BSums_row_tie
    (OpenClaim.moreEntering_of (by kernel_rfl) (by kernel_rfl) (by kernel_rfl) (by kernel_rfl) (by kernel_rfl) (by kernel_rfl) (by kernel_rfl) (by kernel_rfl) (by kernel_rfl) (by kernel_rfl))
    ⟨_, WideRow.started_initial, quiet _⟩
    (fun os started _ H enc _ => lifted os started H enc)
end Go.Proofs.YbulknisFmt.bsums
namespace Go.Proofs.YbulknisFmt
/-- THE STATEMENT. -/
theorem lawS0694BSums_told : Rows.LawS0694BSumsToldSaid := bsums.card_holds
end Go.Proofs.YbulknisFmt
