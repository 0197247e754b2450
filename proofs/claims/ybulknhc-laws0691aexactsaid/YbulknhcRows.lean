/-
  No cell of these rows narrows 'for every input' (looked for: loops, veiled, ifaces, maps, wideKeys, modest, calm, conditions, laid).
  DERIVED. THE GIVEN ROWS OF THIS SEAT. 1 by the template 'for every input the law returns true; each argument reads behind the call as it read before'; 0 by the template 'total and deterministic' (their statements: YbulknhcTotals.lean).
  GIVEN WITH THE SEED: the statements are not yours to turn. If you find one false, say at which input.
  Laid BY PROGRAM, IN A SANDBOX (cutbox-rows.mjs): the forced cells as the released guide's own fill.sh prints them over the translation 7ae4587c84e6bab7… (all of the seat's roots in one cut). By AI agents, Wed Nov 11 2026. No macro, syntax, notation, axiom, sorry.
-/
import Derived.Test.YbulknhcChecked
import GoSem.Claim
import GoSem.ClaimJoined
import GoSem.ClaimMapViews
import Derived.JoinedTies
import Derived.KernelRfl
namespace Go.Proofs.Ybulknhc
/- THE CELL 'sum', in the pinned program and in every row, IS THE sha256 OF THE DUMP (.gsa) THAT YbulknhcProg.lean LOADS. Nothing in Lean hashes anything: it is a label: what it is worth is what the hold of that sum in a sandbox is worth. -/
noncomputable def Yba.pinned : Pinned := { name := "ybulknhc", sum := "7ae4587c84e6bab7d35d0ea43b7f20a6678f0f9ac79d566fa2ca581553beee54", checked := Yba.checked }
namespace Rows
def none {H : Type} : Left H := { results := [], args := [] }

/-- 'rookery.LawS0691AExact': WHATEVER THE INPUT: true; the input reads as it did. -/
def lawS0691AExactSpec : ChangeSpec := { name := "lawS0691AExact", fn := fun _ => fun
  | [d1, d2, d3] => { results := [.lit (.bool true)], args := [d1, d2, d3] }
  | _ => none }
def lawS0691AExactRow : OpenClaim := { program := "ybulknhc", sum := "7ae4587c84e6bab7d35d0ea43b7f20a6678f0f9ac79d566fa2ca581553beee54", func := "example.com/rookery/rookery.LawS0691AExact", spec := "lawS0691AExact", plainKeys := false, apart := false }
def LawS0691AExactSaid : Prop := lawS0691AExactRow.holds Yba.pinned (OpenSpec.ofChange lawS0691AExactSpec)

/-- ITS FALSE NEIGHBOUR: 'it returns false'. Refute it at one input. -/
def lawS0691AExactWrong : ChangeSpec := { name := "lawS0691AExact", fn := fun _ => fun
  | [d1, d2, d3] => { results := [.lit (.bool false)], args := [d1, d2, d3] }
  | _ => none }
def LawS0691AExactWrongFalsely : Prop := lawS0691AExactRow.holds Yba.pinned (OpenSpec.ofChange lawS0691AExactWrong)

end Rows
end Go.Proofs.Ybulknhc
