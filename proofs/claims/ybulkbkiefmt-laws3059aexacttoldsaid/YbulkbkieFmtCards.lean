/-
  DERIVED. GIVEN WITH THE SEED: THE CARDS: each row of YbulkbkieFmtRows.lean that lists a variable, with what it lists TIED to the program's text (the seventh form; the later family's looks); each row that meets fmt, with fmt's text TOLD by the authors' own Lean function (tested against real Go, not proved from fmt's source: count such statements apart). THE CARD IS WHAT COUNTS. Prove the row's statement (the work); the ties are given (YbulkbkieFmtTie.lean); close each card by the builder's one call (the guide's Derived/Test/ToyasCard.lean, 'card_holds'). Laid BY PROGRAM, IN A SANDBOX (cutbox-door.mjs). By AI agents, Wed Nov 11 2026. No macro, syntax, notation, axiom, sorry.
-/
import Derived.Test.YbulkbkieFmtRows
import GoSem.ClaimSeven
namespace Go.Proofs.YbulkbkieFmt
namespace Rows

/-- THE TOLD CARD OF 'parser.LawS3059AExact'. -/
def lawS3059AExactCard : Claim7 := { stood := { row := lawS3059AExactRow, standIns := [], harness := (true, "331e526d33a17de341f17a3b7c0951e70223eb181e5093f167c89d141275b7a2"), looks := true }, told := true, goes := false }
def LawS3059AExactToldSaid : Prop := Claim7.holds Ybaf.pinned (.plain (OpenSpec.ofChange lawS3059AExactSpec)) lawS3059AExactCard
/-- ITS FALSE NEIGHBOUR. Refute it at one input. -/
def LawS3059AExactToldWrongFalsely : Prop := Claim7.holds Ybaf.pinned (.plain (OpenSpec.ofChange lawS3059AExactWrong)) lawS3059AExactCard

/-- THE TOLD CARD OF 'parser.LawS3059ABoundary'. -/
def lawS3059ABoundaryCard : Claim7 := { stood := { row := lawS3059ABoundaryRow, standIns := [], harness := (true, "331e526d33a17de341f17a3b7c0951e70223eb181e5093f167c89d141275b7a2"), looks := true }, told := true, goes := false }
def LawS3059ABoundaryToldSaid : Prop := Claim7.holds Ybaf.pinned (.plain (OpenSpec.ofChange lawS3059ABoundarySpec)) lawS3059ABoundaryCard
/-- ITS FALSE NEIGHBOUR. Refute it at one input. -/
def LawS3059ABoundaryToldWrongFalsely : Prop := Claim7.holds Ybaf.pinned (.plain (OpenSpec.ofChange lawS3059ABoundaryWrong)) lawS3059ABoundaryCard
end Rows
end Go.Proofs.YbulkbkieFmt
