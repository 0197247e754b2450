/-
  No cell of these rows narrows 'for every input' (looked for: loops, veiled, ifaces, maps, wideKeys, modest, calm, conditions, laid).
  DERIVED. THE GIVEN ROWS OF THIS SEAT. 3 by the template 'for every input the law returns true; each argument reads behind the call as it read before'; 0 by the template 'total and deterministic' (their statements: YbulknjuTotals.lean).
  GIVEN WITH THE SEED: the statements are not yours to turn. If you find one false, say at which input.
  Laid BY PROGRAM, IN A SANDBOX (cutbox-rows.mjs): the forced cells as the released guide's own fill.sh prints them over the translation 9400c54e16b34c19… (all of the seat's roots in one cut). By AI agents, Wed Nov 11 2026. No macro, syntax, notation, axiom, sorry.
-/
import Derived.Test.YbulknjuChecked
import GoSem.Claim
import GoSem.ClaimJoined
import GoSem.ClaimMapViews
import Derived.JoinedTies
import Derived.KernelRfl
namespace Go.Proofs.Ybulknju
/- THE CELL 'sum', in the pinned program and in every row, IS THE sha256 OF THE DUMP (.gsa) THAT YbulknjuProg.lean LOADS. Nothing in Lean hashes anything: it is a label: what it is worth is what the hold of that sum in a sandbox is worth. -/
noncomputable def Yba.pinned : Pinned := { name := "ybulknju", sum := "9400c54e16b34c1935967300e9c57c4884b4250a31dcc7c05e46f6240c12e983", checked := Yba.checked }
namespace Rows
def none {H : Type} : Left H := { results := [], args := [] }

/-- 'consistency.LawS0696ASound': WHATEVER THE INPUT: true; the input reads as it did. -/
def lawS0696ASoundSpec : ChangeSpec := { name := "lawS0696ASound", fn := fun _ => fun
  | [d] => { results := [.lit (.bool true)], args := [d] }
  | _ => none }
def lawS0696ASoundRow : OpenClaim := { program := "ybulknju", sum := "9400c54e16b34c1935967300e9c57c4884b4250a31dcc7c05e46f6240c12e983", func := "example.com/antecedo/antecedo/consistency.LawS0696ASound", spec := "lawS0696ASound", inPlace := ["internal/reflectlite.ValueOf", "internal/reflectlite.Swapper", "(internal/reflectlite.Value).Len"], unfollowed := true, recurses := true, apart := false }
def LawS0696ASoundSaid : Prop := lawS0696ASoundRow.holds Yba.pinned (OpenSpec.ofChange lawS0696ASoundSpec)

/-- ITS FALSE NEIGHBOUR: 'it returns false'. Refute it at one input. -/
def lawS0696ASoundWrong : ChangeSpec := { name := "lawS0696ASound", fn := fun _ => fun
  | [d] => { results := [.lit (.bool false)], args := [d] }
  | _ => none }
def LawS0696ASoundWrongFalsely : Prop := lawS0696ASoundRow.holds Yba.pinned (OpenSpec.ofChange lawS0696ASoundWrong)

/-- 'consistency.LawS0696AStale': WHATEVER THE INPUT: true; the input reads as it did. -/
def lawS0696AStaleSpec : ChangeSpec := { name := "lawS0696AStale", fn := fun _ => fun
  | [d] => { results := [.lit (.bool true)], args := [d] }
  | _ => none }
def lawS0696AStaleRow : OpenClaim := { program := "ybulknju", sum := "9400c54e16b34c1935967300e9c57c4884b4250a31dcc7c05e46f6240c12e983", func := "example.com/antecedo/antecedo/consistency.LawS0696AStale", spec := "lawS0696AStale", inPlace := ["internal/reflectlite.ValueOf", "internal/reflectlite.Swapper", "(internal/reflectlite.Value).Len"], unfollowed := true, recurses := true, apart := false }
def LawS0696AStaleSaid : Prop := lawS0696AStaleRow.holds Yba.pinned (OpenSpec.ofChange lawS0696AStaleSpec)

/-- ITS FALSE NEIGHBOUR: 'it returns false'. Refute it at one input. -/
def lawS0696AStaleWrong : ChangeSpec := { name := "lawS0696AStale", fn := fun _ => fun
  | [d] => { results := [.lit (.bool false)], args := [d] }
  | _ => none }
def LawS0696AStaleWrongFalsely : Prop := lawS0696AStaleRow.holds Yba.pinned (OpenSpec.ofChange lawS0696AStaleWrong)

/-- 'vclog.LawS0696CMatchesPairs': WHATEVER THE INPUT: true; the input reads as it did. -/
def lawS0696CMatchesPairsSpec : ChangeSpec := { name := "lawS0696CMatchesPairs", fn := fun _ => fun
  | [d1, d2] => { results := [.lit (.bool true)], args := [d1, d2] }
  | _ => none }
def lawS0696CMatchesPairsRow : OpenClaim := { program := "ybulknju", sum := "9400c54e16b34c1935967300e9c57c4884b4250a31dcc7c05e46f6240c12e983", func := "example.com/antecedo/antecedo/vclog.LawS0696CMatchesPairs", spec := "lawS0696CMatchesPairs", apart := false }
def LawS0696CMatchesPairsSaid : Prop := lawS0696CMatchesPairsRow.holds Yba.pinned (OpenSpec.ofChange lawS0696CMatchesPairsSpec)

/-- ITS FALSE NEIGHBOUR: 'it returns false'. Refute it at one input. -/
def lawS0696CMatchesPairsWrong : ChangeSpec := { name := "lawS0696CMatchesPairs", fn := fun _ => fun
  | [d1, d2] => { results := [.lit (.bool false)], args := [d1, d2] }
  | _ => none }
def LawS0696CMatchesPairsWrongFalsely : Prop := lawS0696CMatchesPairsRow.holds Yba.pinned (OpenSpec.ofChange lawS0696CMatchesPairsWrong)

end Rows
end Go.Proofs.Ybulknju
