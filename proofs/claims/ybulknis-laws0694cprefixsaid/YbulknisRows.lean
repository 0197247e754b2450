/-
  No cell of these rows narrows 'for every input' (looked for: loops, veiled, ifaces, maps, wideKeys, modest, calm, conditions, laid).
  DERIVED. THE GIVEN ROWS OF THIS SEAT. 1 by the template 'for every input the law returns true; each argument reads behind the call as it read before'; 0 by the template 'total and deterministic' (their statements: YbulknisTotals.lean).
  GIVEN WITH THE SEED: the statements are not yours to turn. If you find one false, say at which input.
  Laid BY PROGRAM, IN A SANDBOX (cutbox-rows.mjs): the forced cells as the released guide's own fill.sh prints them over the translation e3a0d56a889ee664… (all of the seat's roots in one cut). By AI agents, Wed Nov 11 2026. No macro, syntax, notation, axiom, sorry.
-/
import Derived.Test.YbulknisChecked
import GoSem.Claim
import GoSem.ClaimJoined
import GoSem.ClaimMapViews
import Derived.JoinedTies
import Derived.KernelRfl
namespace Go.Proofs.Ybulknis
/- THE CELL 'sum', in the pinned program and in every row, IS THE sha256 OF THE DUMP (.gsa) THAT YbulknisProg.lean LOADS. Nothing in Lean hashes anything: it is a label: what it is worth is what the hold of that sum in a sandbox is worth. -/
noncomputable def Yba.pinned : Pinned := { name := "ybulknis", sum := "e3a0d56a889ee664e0767c251eab01726f3f3da87665d74bd86564241f52e95d", checked := Yba.checked }
namespace Rows
def none {H : Type} : Left H := { results := [], args := [] }

/-- 'confirm.LawS0694CPrefix': WHATEVER THE INPUT: true; the input reads as it did. -/
def lawS0694CPrefixSpec : ChangeSpec := { name := "lawS0694CPrefix", fn := fun _ => fun
  | [d1, d2, d3] => { results := [.lit (.bool true)], args := [d1, d2, d3] }
  | _ => none }
def lawS0694CPrefixRow : OpenClaim := { program := "ybulknis", sum := "e3a0d56a889ee664e0767c251eab01726f3f3da87665d74bd86564241f52e95d", func := "example.com/shenshu/shenshu/internal/confirm.LawS0694CPrefix", spec := "lawS0694CPrefix", unfollowed := true, recurses := true, apart := false }
def LawS0694CPrefixSaid : Prop := lawS0694CPrefixRow.holds Yba.pinned (OpenSpec.ofChange lawS0694CPrefixSpec)

/-- ITS FALSE NEIGHBOUR: 'it returns false'. Refute it at one input. -/
def lawS0694CPrefixWrong : ChangeSpec := { name := "lawS0694CPrefix", fn := fun _ => fun
  | [d1, d2, d3] => { results := [.lit (.bool false)], args := [d1, d2, d3] }
  | _ => none }
def LawS0694CPrefixWrongFalsely : Prop := lawS0694CPrefixRow.holds Yba.pinned (OpenSpec.ofChange lawS0694CPrefixWrong)

end Rows
end Go.Proofs.Ybulknis
