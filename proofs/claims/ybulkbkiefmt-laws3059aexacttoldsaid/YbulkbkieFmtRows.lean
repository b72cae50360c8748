/-
  No cell of these rows narrows 'for every input' (looked for: loops, veiled, ifaces, maps, wideKeys, modest, calm, conditions, laid).
  DERIVED. THE GIVEN ROWS OF THIS SEAT. 2 by the template 'for every input the law returns true; each argument reads behind the call as it read before'; 0 by the template 'total and deterministic' (their statements: YbulkbkieFmtTotals.lean).
  GIVEN WITH THE SEED: the statements are not yours to turn. If you find one false, say at which input.
  Laid BY PROGRAM, IN A SANDBOX (cutbox-rows.mjs): the forced cells as the released guide's own fill.sh prints them over the translation 53d4ed94c65bf892… (all of the seat's roots in one cut). By AI agents, Wed Nov 11 2026. No macro, syntax, notation, axiom, sorry.
-/
import Derived.Test.YbulkbkieFmtChecked
import GoSem.Claim
import GoSem.ClaimJoined
import GoSem.ClaimMapViews
import Derived.JoinedTies
import Derived.KernelRfl
namespace Go.Proofs.YbulkbkieFmt
/- THE CELL 'sum', in the pinned program and in every row, IS THE sha256 OF THE DUMP (.gsa) THAT YbulkbkieFmtProg.lean LOADS. Nothing in Lean hashes anything: it is a label: what it is worth is what the hold of that sum in a sandbox is worth. -/
noncomputable def Ybaf.pinned : Pinned := { name := "ybulkbkiefmt", sum := "53d4ed94c65bf892133a526292aba832b4e8bd8133e27fe2ea949abb42900ed8", checked := Ybaf.checked }
namespace Rows
def none {H : Type} : Left H := { results := [], args := [] }

/-- 'parser.LawS3059AExact': WHATEVER THE INPUT: true; the input reads as it did. -/
def lawS3059AExactSpec : ChangeSpec := { name := "lawS3059AExact", fn := fun _ => fun
  | [d1, d2, d3] => { results := [.lit (.bool true)], args := [d1, d2, d3] }
  | _ => none }
def lawS3059AExactRow : OpenClaim := { program := "ybulkbkiefmt", sum := "53d4ed94c65bf892133a526292aba832b4e8bd8133e27fe2ea949abb42900ed8", func := "example.com/langur/langur/pkg/parser.LawS3059AExact", spec := "lawS3059AExact", stops := ["fmt.Sprintf, its operands' methods called"], inPlace := ["fmt.Sprintf"], unfollowed := true, recurses := true, apart := false }
/-- NO THEOREM (fmt's text is open here; it may be false): for the released tool's asking of the row's closed facts alone. THE STATEMENT IS 'LawS3059AExactToldSaid' (YbulkbkieFmtCards.lean). -/
def LawS3059AExactFormAsk : Prop := lawS3059AExactRow.holds Ybaf.pinned (OpenSpec.ofChange lawS3059AExactSpec)

/-- ITS FALSE NEIGHBOUR: 'it returns false'. Refute it at one input. -/
def lawS3059AExactWrong : ChangeSpec := { name := "lawS3059AExact", fn := fun _ => fun
  | [d1, d2, d3] => { results := [.lit (.bool false)], args := [d1, d2, d3] }
  | _ => none }
def LawS3059AExactWrongFormAsk : Prop := lawS3059AExactRow.holds Ybaf.pinned (OpenSpec.ofChange lawS3059AExactWrong)

/-- 'parser.LawS3059ABoundary': WHATEVER THE INPUT: true; the input reads as it did. -/
def lawS3059ABoundarySpec : ChangeSpec := { name := "lawS3059ABoundary", fn := fun _ => fun
  | [d1, d2, d3] => { results := [.lit (.bool true)], args := [d1, d2, d3] }
  | _ => none }
def lawS3059ABoundaryRow : OpenClaim := { program := "ybulkbkiefmt", sum := "53d4ed94c65bf892133a526292aba832b4e8bd8133e27fe2ea949abb42900ed8", func := "example.com/langur/langur/pkg/parser.LawS3059ABoundary", spec := "lawS3059ABoundary", stops := ["fmt.Sprintf, its operands' methods called"], inPlace := ["fmt.Sprintf"], unfollowed := true, recurses := true, apart := false }
/-- NO THEOREM (fmt's text is open here; it may be false): for the released tool's asking of the row's closed facts alone. THE STATEMENT IS 'LawS3059ABoundaryToldSaid' (YbulkbkieFmtCards.lean). -/
def LawS3059ABoundaryFormAsk : Prop := lawS3059ABoundaryRow.holds Ybaf.pinned (OpenSpec.ofChange lawS3059ABoundarySpec)

/-- ITS FALSE NEIGHBOUR: 'it returns false'. Refute it at one input. -/
def lawS3059ABoundaryWrong : ChangeSpec := { name := "lawS3059ABoundary", fn := fun _ => fun
  | [d1, d2, d3] => { results := [.lit (.bool false)], args := [d1, d2, d3] }
  | _ => none }
def LawS3059ABoundaryWrongFormAsk : Prop := lawS3059ABoundaryRow.holds Ybaf.pinned (OpenSpec.ofChange lawS3059ABoundaryWrong)

end Rows
end Go.Proofs.YbulkbkieFmt
