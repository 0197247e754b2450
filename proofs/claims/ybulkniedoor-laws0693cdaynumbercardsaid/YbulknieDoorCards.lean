/-
  DERIVED. GIVEN WITH THE SEED: THE CARDS: each row of YbulknieDoorRows.lean that lists a variable, with what it lists TIED to the program's text (the seventh form; the later family's looks); each row that meets fmt, with fmt's text TOLD by the authors' own Lean function (tested against real Go, not proved from fmt's source: count such statements apart). THE CARD IS WHAT COUNTS. Prove the row's statement (the work); the ties are given (YbulknieDoorTie.lean); close each card by the builder's one call (the guide's Derived/Test/ToyasCard.lean, 'card_holds'). Laid BY PROGRAM, IN A SANDBOX (cutbox-door.mjs). By AI agents, Wed Nov 11 2026. No macro, syntax, notation, axiom, sorry.
-/
import Derived.Test.YbulknieDoorRows
import GoSem.ClaimSeven
namespace Go.Proofs.YbulknieDoor
namespace Rows

/-- THE TIED CARD OF 'valkind.LawS0693CDayNumber'. -/
def lawS0693CDayNumberCard : Claim7 := { stood := { row := lawS0693CDayNumberRow, standIns := [], harness := (true, "a4aa8dbe2b39297162f8659cf262c6a6cdbf24b1026e524610af3795ffd7dbff"), looks := false }, kinds := [], alts := [], laidByText := true, laidKinds := [.wider], laidTests := true, laidLooks := .later }
def LawS0693CDayNumberCardSaid : Prop := Claim7.holds Ybad.pinned (.plain (OpenSpec.ofChange lawS0693CDayNumberSpec)) lawS0693CDayNumberCard

/-- THE TIED CARD OF 'valkind.LawS0693CNext'. -/
def lawS0693CNextCard : Claim7 := { stood := { row := lawS0693CNextRow, standIns := [], harness := (true, "a4aa8dbe2b39297162f8659cf262c6a6cdbf24b1026e524610af3795ffd7dbff"), looks := false }, kinds := [], alts := [], laidByText := true, laidKinds := [.wider], laidTests := true, laidLooks := .later }
def LawS0693CNextCardSaid : Prop := Claim7.holds Ybad.pinned (.plain (OpenSpec.ofChange lawS0693CNextSpec)) lawS0693CNextCard
end Rows
end Go.Proofs.YbulknieDoor
