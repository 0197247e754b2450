/-
  DERIVED. GIVEN WITH THE SEED: THE CARDS: each row of YbulknisFmtRows.lean that lists a variable, with what it lists TIED to the program's text (the seventh form; the later family's looks); each row that meets fmt, with fmt's text TOLD by the authors' own Lean function (tested against real Go, not proved from fmt's source: count such statements apart). THE CARD IS WHAT COUNTS. Prove the row's statement (the work); the ties are given (YbulknisFmtTie.lean); close each card by the builder's one call (the guide's Derived/Test/ToyasCard.lean, 'card_holds'). Laid BY PROGRAM, IN A SANDBOX (cutbox-door.mjs). By AI agents, Wed Nov 11 2026. No macro, syntax, notation, axiom, sorry.
-/
import Derived.Test.YbulknisFmtRows
import GoSem.ClaimSeven
namespace Go.Proofs.YbulknisFmt
namespace Rows

/-- THE TOLD AND TIED CARD OF 'intake.LawS0694AMatchesSpec'. -/
def lawS0694AMatchesSpecCard : Claim7 := { stood := { row := lawS0694AMatchesSpecRow, standIns := [], harness := (true, "6a9b33541c8960605be1f53d042fb3e76d115a5ea45fb7a8e24eb100cb6b6608"), looks := false }, told := true, laidByText := true, laidKinds := [.data, .listed, .data, .pinned], laidTests := true, laidLooks := .later, goes := false }
def LawS0694AMatchesSpecToldSaid : Prop := Claim7.holds Ybaf.pinned (.plain (OpenSpec.ofChange lawS0694AMatchesSpecSpec)) lawS0694AMatchesSpecCard
/-- ITS FALSE NEIGHBOUR. Refute it at one input. -/
def LawS0694AMatchesSpecToldWrongFalsely : Prop := Claim7.holds Ybaf.pinned (.plain (OpenSpec.ofChange lawS0694AMatchesSpecWrong)) lawS0694AMatchesSpecCard

/-- THE TOLD AND TIED CARD OF 'intake.LawS0694AAcceptedIsClean'. -/
def lawS0694AAcceptedIsCleanCard : Claim7 := { stood := { row := lawS0694AAcceptedIsCleanRow, standIns := [], harness := (true, "6a9b33541c8960605be1f53d042fb3e76d115a5ea45fb7a8e24eb100cb6b6608"), looks := false }, told := true, laidByText := true, laidKinds := [.data, .listed, .data, .pinned], laidTests := true, laidLooks := .later, goes := false }
def LawS0694AAcceptedIsCleanToldSaid : Prop := Claim7.holds Ybaf.pinned (.plain (OpenSpec.ofChange lawS0694AAcceptedIsCleanSpec)) lawS0694AAcceptedIsCleanCard
/-- ITS FALSE NEIGHBOUR. Refute it at one input. -/
def LawS0694AAcceptedIsCleanToldWrongFalsely : Prop := Claim7.holds Ybaf.pinned (.plain (OpenSpec.ofChange lawS0694AAcceptedIsCleanWrong)) lawS0694AAcceptedIsCleanCard

/-- THE TOLD AND TIED CARD OF 'register.LawS0694BSums'. -/
def lawS0694BSumsCard : Claim7 := { stood := { row := lawS0694BSumsRow, standIns := [], harness := (true, "6a9b33541c8960605be1f53d042fb3e76d115a5ea45fb7a8e24eb100cb6b6608"), looks := false }, told := true, laidByText := true, laidKinds := [.called, .called, .called, .called, .called], laidTests := true, laidLooks := .later, goes := false }
def LawS0694BSumsToldSaid : Prop := Claim7.holds Ybaf.pinned (.plain (OpenSpec.ofChange lawS0694BSumsSpec)) lawS0694BSumsCard
/-- ITS FALSE NEIGHBOUR. Refute it at one input. -/
def LawS0694BSumsToldWrongFalsely : Prop := Claim7.holds Ybaf.pinned (.plain (OpenSpec.ofChange lawS0694BSumsWrong)) lawS0694BSumsCard
end Rows
end Go.Proofs.YbulknisFmt
