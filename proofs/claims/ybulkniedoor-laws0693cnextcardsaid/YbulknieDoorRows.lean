/-
  NARROWER THAN 'FOR EVERY INPUT', by the rows' own cells (each row's printed sentence says how): LawS0693CDayNumber: laid · LawS0693CNext: laid.
  DERIVED. THE GIVEN ROWS OF THIS SEAT. 2 by the template 'for every input the law returns true; each argument reads behind the call as it read before'; 0 by the template 'total and deterministic' (their statements: YbulknieDoorTotals.lean).
  GIVEN WITH THE SEED: the statements are not yours to turn. If you find one false, say at which input.
  Laid BY PROGRAM, IN A SANDBOX (cutbox-rows.mjs): the forced cells as the released guide's own fill.sh prints them over the translation 1b155c80044ecd8f… (all of the seat's roots in one cut). By AI agents, Wed Nov 11 2026. No macro, syntax, notation, axiom, sorry.
-/
import Derived.Test.YbulknieDoorChecked
import GoSem.Claim
import GoSem.ClaimJoined
import GoSem.ClaimMapViews
import Derived.JoinedTies
import Derived.KernelRfl
namespace Go.Proofs.YbulknieDoor
/- THE CELL 'sum', in the pinned program and in every row, IS THE sha256 OF THE DUMP (.gsa) THAT YbulknieDoorProg.lean LOADS. Nothing in Lean hashes anything: it is a label: what it is worth is what the hold of that sum in a sandbox is worth. -/
noncomputable def Ybad.pinned : Pinned := { name := "ybulkniedoor", sum := "1b155c80044ecd8fb8dfdd88f9f534d01a0228ce20b1568ddffc80048da9fae7", checked := Ybad.checked }
namespace Rows
def none {H : Type} : Left H := { results := [], args := [] }

/- WHAT THE LISTED PACKAGE-LEVEL VARIABLES READ AS WHEN THE CALL BEGINS. Each datum BY PROGRAM (the guide's laid-datum.mjs) off the statement by which the dump's own 'gosem.cut.vars' lays the variable. In a bare row this is a premise. The card (YbulknieDoorCards.lean) ties it to the program's text. -/
def laid_example_com_valkind_valkind_daysBeforeMonth {H : Type} : DataW H := .agg [.lit (.int .i64 0), .lit (.int .i64 31), .lit (.int .i64 59), .lit (.int .i64 90), .lit (.int .i64 120), .lit (.int .i64 151), .lit (.int .i64 181), .lit (.int .i64 212), .lit (.int .i64 243), .lit (.int .i64 273), .lit (.int .i64 304), .lit (.int .i64 334)]

/-- 'valkind.LawS0693CDayNumber': WHATEVER THE INPUT: true; the input reads as it did. -/
def lawS0693CDayNumberSpec : ChangeSpec := { name := "lawS0693CDayNumber", vars := ["example.com/valkind/valkind.daysBeforeMonth"], fn := fun _ => fun
  | [d, g1] => { results := [.lit (.bool true)], args := [d], vars := [g1] }
  | _ => none }
def lawS0693CDayNumberRow : OpenClaim := { program := "ybulkniedoor", sum := "1b155c80044ecd8fb8dfdd88f9f534d01a0228ce20b1568ddffc80048da9fae7", func := "example.com/valkind/valkind.LawS0693CDayNumber", spec := "lawS0693CDayNumber", named := ["example.com/valkind/valkind.daysBeforeMonth"], apart := false, laid := [("example.com/valkind/valkind.daysBeforeMonth", laid_example_com_valkind_valkind_daysBeforeMonth)] }
def LawS0693CDayNumberSaid : Prop := lawS0693CDayNumberRow.holds Ybad.pinned (OpenSpec.ofChange lawS0693CDayNumberSpec)

/-- ITS FALSE NEIGHBOUR: 'it returns false'. Refute it at one input. -/
def lawS0693CDayNumberWrong : ChangeSpec := { name := "lawS0693CDayNumber", vars := ["example.com/valkind/valkind.daysBeforeMonth"], fn := fun _ => fun
  | [d, g1] => { results := [.lit (.bool false)], args := [d], vars := [g1] }
  | _ => none }
def LawS0693CDayNumberWrongFalsely : Prop := lawS0693CDayNumberRow.holds Ybad.pinned (OpenSpec.ofChange lawS0693CDayNumberWrong)

/-- 'valkind.LawS0693CNext': WHATEVER THE INPUT: true; the input reads as it did. -/
def lawS0693CNextSpec : ChangeSpec := { name := "lawS0693CNext", vars := ["example.com/valkind/valkind.daysBeforeMonth"], fn := fun _ => fun
  | [d, g1] => { results := [.lit (.bool true)], args := [d], vars := [g1] }
  | _ => none }
def lawS0693CNextRow : OpenClaim := { program := "ybulkniedoor", sum := "1b155c80044ecd8fb8dfdd88f9f534d01a0228ce20b1568ddffc80048da9fae7", func := "example.com/valkind/valkind.LawS0693CNext", spec := "lawS0693CNext", named := ["example.com/valkind/valkind.daysBeforeMonth"], apart := false, laid := [("example.com/valkind/valkind.daysBeforeMonth", laid_example_com_valkind_valkind_daysBeforeMonth)] }
def LawS0693CNextSaid : Prop := lawS0693CNextRow.holds Ybad.pinned (OpenSpec.ofChange lawS0693CNextSpec)

/-- ITS FALSE NEIGHBOUR: 'it returns false'. Refute it at one input. -/
def lawS0693CNextWrong : ChangeSpec := { name := "lawS0693CNext", vars := ["example.com/valkind/valkind.daysBeforeMonth"], fn := fun _ => fun
  | [d, g1] => { results := [.lit (.bool false)], args := [d], vars := [g1] }
  | _ => none }
def LawS0693CNextWrongFalsely : Prop := lawS0693CNextRow.holds Ybad.pinned (OpenSpec.ofChange lawS0693CNextWrong)

end Rows
end Go.Proofs.YbulknieDoor
