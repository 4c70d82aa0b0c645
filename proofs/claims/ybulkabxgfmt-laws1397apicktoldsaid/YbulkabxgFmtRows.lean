/-
  NARROWER THAN 'FOR EVERY INPUT', by the rows' own cells (each row's printed sentence says how): LawS1397AExact: maps, laid · LawS1397APick: maps, laid.
  DERIVED. THE GIVEN ROWS OF THIS SEAT. 2 by the template 'for every input the law returns true; each argument reads behind the call as it read before'; 0 by the template 'total and deterministic' (their statements: YbulkabxgFmtTotals.lean).
  GIVEN WITH THE SEED: the statements are not yours to turn. If you find one false, say at which input.
  Laid BY PROGRAM, IN A SANDBOX (cutbox-rows.mjs): the forced cells as the released guide's own fill.sh prints them over the translation ad3c8ae31912cc8d… (all of the seat's roots in one cut). By AI agents, Wed Nov 11 2026. No macro, syntax, notation, axiom, sorry.
-/
import Derived.Test.YbulkabxgFmtChecked
import GoSem.Claim
import GoSem.ClaimJoined
import GoSem.ClaimMapViews
import Derived.JoinedTies
import Derived.KernelRfl
namespace Go.Proofs.YbulkabxgFmt
/- THE CELL 'sum', in the pinned program and in every row, IS THE sha256 OF THE DUMP (.gsa) THAT YbulkabxgFmtProg.lean LOADS. Nothing in Lean hashes anything: it is a label: what it is worth is what the hold of that sum in a sandbox is worth. -/
noncomputable def Ybaf.pinned : Pinned := { name := "ybulkabxgfmt", sum := "ad3c8ae31912cc8d2dd4b787618a14f90823212527f341d2edf2f7dcf5e443b1", checked := Ybaf.checked }
namespace Rows
def none {H : Type} : Left H := { results := [], args := [] }

/- WHAT THE LISTED PACKAGE-LEVEL VARIABLES READ AS WHEN THE CALL BEGINS. Each datum BY PROGRAM (the guide's laid-datum.mjs) off the statement by which the dump's own 'gosem.cut.vars' lays the variable. In a bare row this is a premise. The card (YbulkabxgFmtCards.lean) ties it to the program's text. -/
def laid_example_com_streamsign_streamsign_timeFormatNames {H : Type} : DataW H := .map [(.int .i64 1, .lit (.string [100, 101, 99])), (.int .i64 2, .lit (.string [104, 101, 120])), (.int .i64 3, .lit (.string [72, 69, 88]))]

/-- 'streamsign.LawS1397AExact': WHATEVER THE INPUT: true; the input reads as it did. -/
def lawS1397AExactSpec : ChangeSpec := { name := "lawS1397AExact", vars := ["example.com/streamsign/streamsign.timeFormatNames"], fn := fun _ => fun
  | [d, g1] => { results := [.lit (.bool true)], args := [d], vars := [g1] }
  | _ => none }
def lawS1397AExactRow : OpenClaim := { program := "ybulkabxgfmt", sum := "ad3c8ae31912cc8d2dd4b787618a14f90823212527f341d2edf2f7dcf5e443b1", func := "example.com/streamsign/streamsign.LawS1397AExact", spec := "lawS1397AExact", stops := ["fmt.errorf"], inPlace := ["fmt.errorf"], named := ["example.com/streamsign/streamsign.timeFormatNames"], maps := true, apart := false, laid := [("example.com/streamsign/streamsign.timeFormatNames", laid_example_com_streamsign_streamsign_timeFormatNames)] }
/-- NO THEOREM (fmt's text is open here; it may be false): for the released tool's asking of the row's closed facts alone. THE STATEMENT IS 'LawS1397AExactToldSaid' (YbulkabxgFmtCards.lean). -/
def LawS1397AExactFormAsk : Prop := lawS1397AExactRow.holds Ybaf.pinned (OpenSpec.ofChange lawS1397AExactSpec)

/-- ITS FALSE NEIGHBOUR: 'it returns false'. Refute it at one input. -/
def lawS1397AExactWrong : ChangeSpec := { name := "lawS1397AExact", vars := ["example.com/streamsign/streamsign.timeFormatNames"], fn := fun _ => fun
  | [d, g1] => { results := [.lit (.bool false)], args := [d], vars := [g1] }
  | _ => none }
def LawS1397AExactWrongFormAsk : Prop := lawS1397AExactRow.holds Ybaf.pinned (OpenSpec.ofChange lawS1397AExactWrong)

/-- 'streamsign.LawS1397APick': WHATEVER THE INPUT: true; the input reads as it did. -/
def lawS1397APickSpec : ChangeSpec := { name := "lawS1397APick", vars := ["example.com/streamsign/streamsign.timeFormatNames"], fn := fun _ => fun
  | [d1, d2, d3, g1] => { results := [.lit (.bool true)], args := [d1, d2, d3], vars := [g1] }
  | _ => none }
def lawS1397APickRow : OpenClaim := { program := "ybulkabxgfmt", sum := "ad3c8ae31912cc8d2dd4b787618a14f90823212527f341d2edf2f7dcf5e443b1", func := "example.com/streamsign/streamsign.LawS1397APick", spec := "lawS1397APick", stops := ["fmt.errorf"], inPlace := ["fmt.errorf"], named := ["example.com/streamsign/streamsign.timeFormatNames"], maps := true, apart := false, laid := [("example.com/streamsign/streamsign.timeFormatNames", laid_example_com_streamsign_streamsign_timeFormatNames)] }
/-- NO THEOREM (fmt's text is open here; it may be false): for the released tool's asking of the row's closed facts alone. THE STATEMENT IS 'LawS1397APickToldSaid' (YbulkabxgFmtCards.lean). -/
def LawS1397APickFormAsk : Prop := lawS1397APickRow.holds Ybaf.pinned (OpenSpec.ofChange lawS1397APickSpec)

/-- ITS FALSE NEIGHBOUR: 'it returns false'. Refute it at one input. -/
def lawS1397APickWrong : ChangeSpec := { name := "lawS1397APick", vars := ["example.com/streamsign/streamsign.timeFormatNames"], fn := fun _ => fun
  | [d1, d2, d3, g1] => { results := [.lit (.bool false)], args := [d1, d2, d3], vars := [g1] }
  | _ => none }
def LawS1397APickWrongFormAsk : Prop := lawS1397APickRow.holds Ybaf.pinned (OpenSpec.ofChange lawS1397APickWrong)

end Rows
end Go.Proofs.YbulkabxgFmt
