/-
  No cell of these rows narrows 'for every input' (looked for: loops, veiled, ifaces, maps, wideKeys, modest, calm, conditions, laid).
  DERIVED. THE GIVEN ROWS OF THIS SEAT. 2 by the template 'for every input the law returns true; each argument reads behind the call as it read before'; 0 by the template 'total and deterministic' (their statements: YbulkbkdiTotals.lean).
  GIVEN WITH THE SEED: the statements are not yours to turn. If you find one false, say at which input.
  Laid BY PROGRAM, IN A SANDBOX (cutbox-rows.mjs): the forced cells as the released guide's own fill.sh prints them over the translation 72d578b05e1a1f6d… (all of the seat's roots in one cut). By AI agents, Wed Nov 11 2026. No macro, syntax, notation, axiom, sorry.
-/
import Derived.Test.YbulkbkdiChecked
import GoSem.Claim
import GoSem.ClaimJoined
import GoSem.ClaimMapViews
import Derived.JoinedTies
import Derived.KernelRfl
namespace Go.Proofs.Ybulkbkdi
/- THE CELL 'sum', in the pinned program and in every row, IS THE sha256 OF THE DUMP (.gsa) THAT YbulkbkdiProg.lean LOADS. Nothing in Lean hashes anything: it is a label: what it is worth is what the hold of that sum in a sandbox is worth. -/
noncomputable def Yba.pinned : Pinned := { name := "ybulkbkdi", sum := "72d578b05e1a1f6d21134bf6a939e2c9348e705b1d3787909c107f545b877314", checked := Yba.checked }
namespace Rows
def none {H : Type} : Left H := { results := [], args := [] }

/-- 'spill.LawS3050CMerge': WHATEVER THE INPUT: true; the input reads as it did. -/
def lawS3050CMergeSpec : ChangeSpec := { name := "lawS3050CMerge", fn := fun _ => fun
  | [d1, d2] => { results := [.lit (.bool true)], args := [d1, d2] }
  | _ => none }
def lawS3050CMergeRow : OpenClaim := { program := "ybulkbkdi", sum := "72d578b05e1a1f6d21134bf6a939e2c9348e705b1d3787909c107f545b877314", func := "example.com/findingpath/findingpath/internal/spill.LawS3050CMerge", spec := "lawS3050CMerge", inPlace := ["internal/bytealg.Compare"], unfollowed := true, recurses := true, apart := false }
def LawS3050CMergeSaid : Prop := lawS3050CMergeRow.holds Yba.pinned (OpenSpec.ofChange lawS3050CMergeSpec)

/-- ITS FALSE NEIGHBOUR: 'it returns false'. Refute it at one input. -/
def lawS3050CMergeWrong : ChangeSpec := { name := "lawS3050CMerge", fn := fun _ => fun
  | [d1, d2] => { results := [.lit (.bool false)], args := [d1, d2] }
  | _ => none }
def LawS3050CMergeWrongFalsely : Prop := lawS3050CMergeRow.holds Yba.pinned (OpenSpec.ofChange lawS3050CMergeWrong)

/-- 'spill.LawS3050CFail': WHATEVER THE INPUT: true; the input reads as it did. -/
def lawS3050CFailSpec : ChangeSpec := { name := "lawS3050CFail", fn := fun _ => fun
  | [d1, d2, d3] => { results := [.lit (.bool true)], args := [d1, d2, d3] }
  | _ => none }
def lawS3050CFailRow : OpenClaim := { program := "ybulkbkdi", sum := "72d578b05e1a1f6d21134bf6a939e2c9348e705b1d3787909c107f545b877314", func := "example.com/findingpath/findingpath/internal/spill.LawS3050CFail", spec := "lawS3050CFail", inPlace := ["internal/bytealg.Compare"], unfollowed := true, recurses := true, apart := false }
def LawS3050CFailSaid : Prop := lawS3050CFailRow.holds Yba.pinned (OpenSpec.ofChange lawS3050CFailSpec)

/-- ITS FALSE NEIGHBOUR: 'it returns false'. Refute it at one input. -/
def lawS3050CFailWrong : ChangeSpec := { name := "lawS3050CFail", fn := fun _ => fun
  | [d1, d2, d3] => { results := [.lit (.bool false)], args := [d1, d2, d3] }
  | _ => none }
def LawS3050CFailWrongFalsely : Prop := lawS3050CFailRow.holds Yba.pinned (OpenSpec.ofChange lawS3050CFailWrong)

end Rows
end Go.Proofs.Ybulkbkdi
