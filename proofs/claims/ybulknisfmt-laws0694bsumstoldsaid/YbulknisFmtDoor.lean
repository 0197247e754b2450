import Derived.Test.YbulknisFmtRows
import Derived.Test.YbulknisFmtOpen
import Derived.LaidMore
import Derived.MakeChecks
import Derived.ProofKit
import Derived.Stop.LaidErr
import Derived.Deep.DeepWitnessRef
import Derived.Stop.JoinedTold
import Derived.OpenVars
namespace Go.Proofs.YbulknisFmt
open Go.ChangeShapes Go.WideShapes Go.ChangeAt Go.RowKit

theorem own : ownKnob Ybaf.prog.godebug = none := by kernel_rfl
theorem laidOut : laidOutB Ybaf.prog = true := by kernel_rfl
abbrev laidR : List (String × DataW Unit) := Rows.lawS0694BSumsRow.laid
theorem cells2 : Ybaf.prog.cellsOf 2 = 1 := by kernel_rfl

theorem list2 {α : Type} : ∀ (l : List α), l.length = 2 → ∃ a0 a1, l = [a0, a1]
  | [a0, a1], _ => ⟨a0, a1, rfl⟩
/-- A listed variable of the type Decimal. -/
theorem dec_of_laid {n : String} {a b : Int} {r : List (String × DataW Unit)} {W : World} {g : Nat} (h : laidMet Ybaf.prog ((n, .agg [.lit (.int .i64 a), .lit (.int .i32 b)]) :: r) W) (hg : Ybaf.prog.globalNamed n = some g) (ht : (Ybaf.prog.globals[g]?).map (·.type) = some 45) :
    W.cell? ⟨g, 0, none⟩ = some (.int .i64 a) ∧ W.cell? ⟨g, 1, none⟩ = some (.int .i32 b) := by
  obtain ⟨ps, ⟨g0, t0, cs0, f0, p0, q0, hg0, ht0, hv0, hd0, _, e0⟩, _, hrows⟩ := h
  obtain rfl := Option.some.inj (hg.symm.trans hg0)
  obtain rfl := Option.some.inj (ht.symm.trans ht0)
  obtain ⟨xs, k, hk, hxy, hcl, hxl, hf⟩ := DataW.trod_struct Ybaf.underlying45 hd0
  obtain ⟨y0, y1, rfl⟩ := list2 xs hxl
  have hc45 : Ybaf.prog.cellsOf 45 = 2 := by kernel_rfl
  rw [hc45] at hcl
  obtain ⟨v0, v1, hcs⟩ := list2 cs0.toList hcl
  have g0 := hf 0 _ rfl
  have g1 := hf 1 _ rfl
  rw [hcs] at g0 g1
  simp [cells2, cells21] at g0 g1
  obtain ⟨z0, e0, k0, w0⟩ := DataW.trod_int Ybaf.underlying2 g0
  obtain ⟨z1, e1, k1, w1⟩ := DataW.trod_int Ybaf.underlying21 g1
  cases e0; cases e1
  subst k0; subst k1
  simp at hxy
  obtain ⟨⟨rfl, rfl⟩, _⟩ := hxy
  have hcs' : cs0 = #[.int .i64 a, .int .i32 b] := by rw [← hcs]
  subst hcs'
  exact ⟨World.var?_cell hg0 hv0 0, World.var?_cell hg0 hv0 1⟩

/-- The two variables that the road reads. -/
theorem cells_of_laid {W : World} (h : laidMetH Ybaf.prog laidR W) : (W.cell? ⟨0, 0, none⟩ = some (.int .i64 0) ∧ W.cell? ⟨0, 1, none⟩ = some (.int .i32 2)) ∧ W.cell? ⟨4, 0, none⟩ = some (.int .i64 99999999999999) ∧ W.cell? ⟨4, 1, none⟩ = some (.int .i32 2) := by
  rw [MakeChecks.laidMetH_plain _ _ _ (by kernel_rfl)] at h
  have h2 := h.tail.tail
  have h4 := h2.tail.tail
  exact ⟨dec_of_laid h4 (by kernel_rfl) (by kernel_rfl), dec_of_laid h2 (by kernel_rfl) (by kernel_rfl)⟩

set_option maxRecDepth 100000 in
/-- The door's own heap meets the condition. -/
theorem door_met (os : Os) (args : Array Value) : laidMetH Ybaf.prog laidR ((World.doorLaid Ybaf.prog 800 os).forCall (fun _ _ => 0) ⟨#[], args, []⟩).memory :=
  laidMetH_of_parts3 (fuel := 8) (laidMet_of_run' 8 (by kernel_rfl) (by kernel_rfl)) (by kernel_rfl) (by kernel_rfl)

set_option maxRecDepth 100000 in
theorem witness (os : Os) {H : Type} (enc : TypeId × Value → H) (F : Stop.Interp) :
    ∃ (w : World) (tape : Tape) (i : Input), w.os = os ∧ (w.forCall tape i).Shaped Ybaf.checked.prog ∧ i.vars = [] ∧ Input.okWide Ybaf.checked.prog (w.forCall tape i) .any w.heap.size 5 i ∧
      (OpenSpec.ofChange Rows.lawS0694BSumsSpec).preRow enc Ybaf.checked.prog Ybaf.f5 [] false laidR (w.forCall tape i).memory i.args ∧ ({ modest := false } : Assume).holds Ybaf.checked.prog (lone (Frame.enter Ybaf.checked.prog 5 i.args .normal) [] (w.forCall tape i)) ∧ F.answers tape :=
  OpenSpec.witness_stopped_atRef (enc := enc) (C := Ybaf.checked) false (World.doorLaid Ybaf.prog 800 os) #[.slice none 0 0, .int .u8 0, .int .i16 0] rfl (by kernel_rfl) (by kernel_rfl) (by kernel_rfl)
    (OpenSpec.preRow_of_B rfl 8 (by kernel_rfl) (by kernel_rfl) (door_met os _)) F
end Go.Proofs.YbulknisFmt
