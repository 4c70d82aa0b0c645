/-
  No cell of these rows narrows 'for every input' (looked for: loops, veiled, ifaces, maps, wideKeys, modest, calm, conditions, laid).
  DERIVED. THE GIVEN ROWS OF THIS SEAT. 3 by the template 'for every input the law returns true; each argument reads behind the call as it read before'; 0 by the template 'total and deterministic' (their statements: YbulkabxgTotals.lean).
  GIVEN WITH THE SEED: the statements are not yours to turn. If you find one false, say at which input.
  Laid BY PROGRAM, IN A SANDBOX (cutbox-rows.mjs): the forced cells as the released guide's own fill.sh prints them over the translation 94f2327e46f7797d… (all of the seat's roots in one cut). By AI agents, Wed Nov 11 2026. No macro, syntax, notation, axiom, sorry.
-/
import Derived.Test.YbulkabxgChecked
import GoSem.Claim
import GoSem.ClaimJoined
import GoSem.ClaimMapViews
import Derived.JoinedTies
import Derived.KernelRfl
namespace Go.Proofs.Ybulkabxg
/- THE CELL 'sum', in the pinned program and in every row, IS THE sha256 OF THE DUMP (.gsa) THAT YbulkabxgProg.lean LOADS. Nothing in Lean hashes anything: it is a label: what it is worth is what the hold of that sum in a sandbox is worth. -/
noncomputable def Yba.pinned : Pinned := { name := "ybulkabxg", sum := "94f2327e46f7797d0b1e4b7e47fb7ba397a84d867464d4b3e35a414bb52a296e", checked := Yba.checked }
namespace Rows
def none {H : Type} : Left H := { results := [], args := [] }

/-- 'hls.LawS1397CModel': WHATEVER THE INPUT: true; the input reads as it did. -/
def lawS1397CModelSpec : ChangeSpec := { name := "lawS1397CModel", fn := fun _ => fun
  | [d] => { results := [.lit (.bool true)], args := [d] }
  | _ => none }
def lawS1397CModelRow : OpenClaim := { program := "ybulkabxg", sum := "94f2327e46f7797d0b1e4b7e47fb7ba397a84d867464d4b3e35a414bb52a296e", func := "example.com/streamsign/streamsign/internal/hls.LawS1397CModel", spec := "lawS1397CModel", apart := false }
def LawS1397CModelSaid : Prop := lawS1397CModelRow.holds Yba.pinned (OpenSpec.ofChange lawS1397CModelSpec)

/-- ITS FALSE NEIGHBOUR: 'it returns false'. Refute it at one input. -/
def lawS1397CModelWrong : ChangeSpec := { name := "lawS1397CModel", fn := fun _ => fun
  | [d] => { results := [.lit (.bool false)], args := [d] }
  | _ => none }
def LawS1397CModelWrongFalsely : Prop := lawS1397CModelRow.holds Yba.pinned (OpenSpec.ofChange lawS1397CModelWrong)

/-- 'hls.LawS1397CBuilt': WHATEVER THE INPUT: true; the input reads as it did. -/
def lawS1397CBuiltSpec : ChangeSpec := { name := "lawS1397CBuilt", fn := fun _ => fun
  | [d] => { results := [.lit (.bool true)], args := [d] }
  | _ => none }
def lawS1397CBuiltRow : OpenClaim := { program := "ybulkabxg", sum := "94f2327e46f7797d0b1e4b7e47fb7ba397a84d867464d4b3e35a414bb52a296e", func := "example.com/streamsign/streamsign/internal/hls.LawS1397CBuilt", spec := "lawS1397CBuilt", apart := false }
def LawS1397CBuiltSaid : Prop := lawS1397CBuiltRow.holds Yba.pinned (OpenSpec.ofChange lawS1397CBuiltSpec)

/-- ITS FALSE NEIGHBOUR: 'it returns false'. Refute it at one input. -/
def lawS1397CBuiltWrong : ChangeSpec := { name := "lawS1397CBuilt", fn := fun _ => fun
  | [d] => { results := [.lit (.bool false)], args := [d] }
  | _ => none }
def LawS1397CBuiltWrongFalsely : Prop := lawS1397CBuiltRow.holds Yba.pinned (OpenSpec.ofChange lawS1397CBuiltWrong)

/-- 'hls.LawS1397CPrefix': WHATEVER THE INPUT: true; the input reads as it did. -/
def lawS1397CPrefixSpec : ChangeSpec := { name := "lawS1397CPrefix", fn := fun _ => fun
  | [d1, d2] => { results := [.lit (.bool true)], args := [d1, d2] }
  | _ => none }
def lawS1397CPrefixRow : OpenClaim := { program := "ybulkabxg", sum := "94f2327e46f7797d0b1e4b7e47fb7ba397a84d867464d4b3e35a414bb52a296e", func := "example.com/streamsign/streamsign/internal/hls.LawS1397CPrefix", spec := "lawS1397CPrefix", apart := false }
def LawS1397CPrefixSaid : Prop := lawS1397CPrefixRow.holds Yba.pinned (OpenSpec.ofChange lawS1397CPrefixSpec)

/-- ITS FALSE NEIGHBOUR: 'it returns false'. Refute it at one input. -/
def lawS1397CPrefixWrong : ChangeSpec := { name := "lawS1397CPrefix", fn := fun _ => fun
  | [d1, d2] => { results := [.lit (.bool false)], args := [d1, d2] }
  | _ => none }
def LawS1397CPrefixWrongFalsely : Prop := lawS1397CPrefixRow.holds Yba.pinned (OpenSpec.ofChange lawS1397CPrefixWrong)

end Rows
end Go.Proofs.Ybulkabxg
