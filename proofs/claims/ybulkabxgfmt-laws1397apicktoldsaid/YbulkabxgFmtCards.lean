/-
  DERIVED. GIVEN WITH THE SEED: THE CARDS: each row of YbulkabxgFmtRows.lean that lists a variable, with what it lists TIED to the program's text (the seventh form; the later family's looks); each row that meets fmt, with fmt's text TOLD by the authors' own Lean function (tested against real Go, not proved from fmt's source: count such statements apart). THE CARD IS WHAT COUNTS. Prove the row's statement (the work); the ties are given (YbulkabxgFmtTie.lean); close each card by the builder's one call (the guide's Derived/Test/ToyasCard.lean, 'card_holds'). Laid BY PROGRAM, IN A SANDBOX (cutbox-door.mjs). By AI agents, Wed Nov 11 2026. No macro, syntax, notation, axiom, sorry.
-/
import Derived.Test.YbulkabxgFmtRows
import GoSem.ClaimSeven
namespace Go.Proofs.YbulkabxgFmt
namespace Rows

/-- THE TOLD AND TIED CARD OF 'streamsign.LawS1397AExact'. -/
def lawS1397AExactCard : Claim7 := { stood := { row := lawS1397AExactRow, standIns := [], harness := (true, "863ea3943d7a490141059b14a2499a79b5132bddf7fc30d7b45ac261b1a3a619"), looks := false }, told := true, laidByText := true, laidKinds := [.mapped], laidTests := true, laidLooks := .later, goes := false }
def LawS1397AExactToldSaid : Prop := Claim7.holds Ybaf.pinned (.plain (OpenSpec.ofChange lawS1397AExactSpec)) lawS1397AExactCard
/-- ITS FALSE NEIGHBOUR. Refute it at one input. -/
def LawS1397AExactToldWrongFalsely : Prop := Claim7.holds Ybaf.pinned (.plain (OpenSpec.ofChange lawS1397AExactWrong)) lawS1397AExactCard

/-- THE TOLD AND TIED CARD OF 'streamsign.LawS1397APick'. -/
def lawS1397APickCard : Claim7 := { stood := { row := lawS1397APickRow, standIns := [], harness := (true, "863ea3943d7a490141059b14a2499a79b5132bddf7fc30d7b45ac261b1a3a619"), looks := false }, told := true, laidByText := true, laidKinds := [.mapped], laidTests := true, laidLooks := .later, goes := false }
def LawS1397APickToldSaid : Prop := Claim7.holds Ybaf.pinned (.plain (OpenSpec.ofChange lawS1397APickSpec)) lawS1397APickCard
/-- ITS FALSE NEIGHBOUR. Refute it at one input. -/
def LawS1397APickToldWrongFalsely : Prop := Claim7.holds Ybaf.pinned (.plain (OpenSpec.ofChange lawS1397APickWrong)) lawS1397APickCard
end Rows
end Go.Proofs.YbulkabxgFmt
