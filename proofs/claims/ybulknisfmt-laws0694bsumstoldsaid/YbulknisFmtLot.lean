import Derived.Test.YbulknisFmtCmpB
namespace Go.Proofs.YbulknisFmt
open Go.RowKit

/-- A lot: names and fund by their rank. -/
structure Lot where
  acc : Fin 4
  ag : Fin 4
  fd : Fin 3
  reg : Int
  id : Fin 4
  sh : Int
/-- The lot at a place. -/
def lotAt (L : List Lot) (k : Nat) : Lot := L.getD k ⟨0, 0, 0, 0, 0, 0⟩
theorem lotAt_pos (L : List Lot) (k : Nat) (h : k < L.length) : lotAt L k = L[k] := by unfold lotAt; rw [List.getD_eq_getElem?_getD, List.getElem?_eq_getElem h]; rfl

def enc (x : Lot) : List Value := [.string (nm x.acc), .string (nm x.ag), .string (fdn x.fd), .int .i32 x.reg, .string (nm x.id), .int .i64 x.sh, .int .i32 2]
def agg (x : Lot) : Value := .agg #[.string (nm x.acc), .string (nm x.ag), .string (fdn x.fd), .int .i32 x.reg, .string (nm x.id), .int .i64 x.sh, .int .i32 2]
def cf (x y : Lot) : Int := or3 (or3 (cI x.acc.val y.acc.val) (cI x.ag.val y.ag.val) (cI x.fd.val y.fd.val)) (cI x.reg y.reg) (cI x.id.val y.id.val)

theorem cf_any (x y : Lot) (w : World) : Calls Ybaf.prog 33 #[agg x, agg y] w fun e w' => e = .returned (.int .i64 (cf x y)) ∧ Lays w w' := by
  have := cmpL_any (nm x.acc) (nm x.ag) (fdn x.fd) (nm x.id) (nm y.acc) (nm y.ag) (fdn y.fd) (nm y.id) x.reg x.sh 2 y.reg y.sh 2 w
  rw [cS_nm, cS_nm, cS_nm, cS_fdn] at this
  exact this

/-- Lot order. -/
def lx (x y : Lot) : Prop := x.acc.val < y.acc.val ∨ x.acc.val = y.acc.val ∧ (x.ag.val < y.ag.val ∨ x.ag.val = y.ag.val ∧ (x.fd.val < y.fd.val ∨ x.fd.val = y.fd.val ∧ (x.reg < y.reg ∨ x.reg = y.reg ∧ x.id.val < y.id.val)))
theorem cI_cases (a b : Int) : (a < b ∧ cI a b = -1) ∨ (b < a ∧ cI a b = 1) ∨ (a = b ∧ cI a b = 0) := by
  unfold cI
  by_cases h1 : a < b
  · left; simp [h1]
  · by_cases h2 : b < a
    · right; left; simp [h1, h2]
    · right; right; simp [h1, h2]; omega
theorem or3_cases (a b c : Int) : (a ≠ 0 ∧ or3 a b c = a) ∨ (a = 0 ∧ b ≠ 0 ∧ or3 a b c = b) ∨ (a = 0 ∧ b = 0 ∧ or3 a b c = c) := by
  unfold or3
  by_cases h1 : a = 0
  · by_cases h2 : b = 0
    · right; right; simp [h1, h2]
    · right; left; simp [h1, h2]
  · left; simp [h1]
theorem cf_lt (x y : Lot) : cf x y < 0 ↔ lx x y := by
  unfold cf lx
  have h1 := cI_cases x.acc.val y.acc.val
  have h2 := cI_cases x.ag.val y.ag.val
  have h3 := cI_cases x.fd.val y.fd.val
  have h4 := cI_cases x.reg y.reg
  have h5 := cI_cases x.id.val y.id.val
  have h6 := or3_cases (cI x.acc.val y.acc.val) (cI x.ag.val y.ag.val) (cI x.fd.val y.fd.val)
  have h7 := or3_cases (or3 (cI x.acc.val y.acc.val) (cI x.ag.val y.ag.val) (cI x.fd.val y.fd.val)) (cI x.reg y.reg) (cI x.id.val y.id.val)
  generalize or3 (or3 (cI x.acc.val y.acc.val) (cI x.ag.val y.ag.val) (cI x.fd.val y.fd.val)) (cI x.reg y.reg) (cI x.id.val y.id.val) = o2 at *
  generalize or3 (cI x.acc.val y.acc.val) (cI x.ag.val y.ag.val) (cI x.fd.val y.fd.val) = o1 at *
  generalize cI x.acc.val y.acc.val = e1 at *
  generalize cI x.ag.val y.ag.val = e2 at *
  generalize cI x.fd.val y.fd.val = e3 at *
  generalize cI x.reg y.reg = e4 at *
  generalize cI x.id.val y.id.val = e5 at *
  omega
theorem lx_irrefl (x : Lot) : ¬ lx x x := by unfold lx; omega
theorem lx_trans {x y z : Lot} (h1 : lx x y) (h2 : lx y z) : lx x z := by unfold lx at *; omega
theorem lx_ntrans {x y z : Lot} (h1 : ¬ lx x y) (h2 : ¬ lx y z) : ¬ lx x z := by unfold lx at *; omega
end Go.Proofs.YbulknisFmt
