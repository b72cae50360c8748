/-
  No cell of these rows narrows 'for every input' (looked for: loops, veiled, ifaces, maps, wideKeys, modest, calm, conditions, laid).
  DERIVED. THE GIVEN ROWS OF THIS SEAT. 2 by the template 'for every input the law returns true; each argument reads behind the call as it read before'; 0 by the template 'total and deterministic' (their statements: YbulkbkfmTotals.lean).
  GIVEN WITH THE SEED: the statements are not yours to turn. If you find one false, say at which input.
  Laid BY PROGRAM, IN A SANDBOX (cutbox-rows.mjs): the forced cells as the released guide's own fill.sh prints them over the translation 8283e93ae5e506fb… (all of the seat's roots in one cut). By AI agents, Wed Nov 11 2026. No macro, syntax, notation, axiom, sorry.
-/
import Derived.Test.YbulkbkfmChecked
import GoSem.Claim
import GoSem.ClaimJoined
import GoSem.ClaimMapViews
import Derived.JoinedTies
import Derived.KernelRfl
namespace Go.Proofs.Ybulkbkfm
/- THE CELL 'sum', in the pinned program and in every row, IS THE sha256 OF THE DUMP (.gsa) THAT YbulkbkfmProg.lean LOADS. Nothing in Lean hashes anything: it is a label: what it is worth is what the hold of that sum in a sandbox is worth. -/
noncomputable def Yba.pinned : Pinned := { name := "ybulkbkfm", sum := "8283e93ae5e506fbaab74bbf109cf2e84b2e996002908320bfa96e4d6abdf51f", checked := Yba.checked }
namespace Rows
def none {H : Type} : Left H := { results := [], args := [] }

/-- 'engine.LawS3054BEach': WHATEVER THE INPUT: true; the input reads as it did. -/
def lawS3054BEachSpec : ChangeSpec := { name := "lawS3054BEach", fn := fun _ => fun
  | [d] => { results := [.lit (.bool true)], args := [d] }
  | _ => none }
def lawS3054BEachRow : OpenClaim := { program := "ybulkbkfm", sum := "8283e93ae5e506fbaab74bbf109cf2e84b2e996002908320bfa96e4d6abdf51f", func := "example.com/bindery/bindery/internal/engine.LawS3054BEach", spec := "lawS3054BEach", unfollowed := true, recurses := true, apart := false }
def LawS3054BEachSaid : Prop := lawS3054BEachRow.holds Yba.pinned (OpenSpec.ofChange lawS3054BEachSpec)

/-- ITS FALSE NEIGHBOUR: 'it returns false'. Refute it at one input. -/
def lawS3054BEachWrong : ChangeSpec := { name := "lawS3054BEach", fn := fun _ => fun
  | [d] => { results := [.lit (.bool false)], args := [d] }
  | _ => none }
def LawS3054BEachWrongFalsely : Prop := lawS3054BEachRow.holds Yba.pinned (OpenSpec.ofChange lawS3054BEachWrong)

/-- 'engine.LawS3054BStop': WHATEVER THE INPUT: true; the input reads as it did. -/
def lawS3054BStopSpec : ChangeSpec := { name := "lawS3054BStop", fn := fun _ => fun
  | [d1, d2] => { results := [.lit (.bool true)], args := [d1, d2] }
  | _ => none }
def lawS3054BStopRow : OpenClaim := { program := "ybulkbkfm", sum := "8283e93ae5e506fbaab74bbf109cf2e84b2e996002908320bfa96e4d6abdf51f", func := "example.com/bindery/bindery/internal/engine.LawS3054BStop", spec := "lawS3054BStop", unfollowed := true, recurses := true, apart := false }
def LawS3054BStopSaid : Prop := lawS3054BStopRow.holds Yba.pinned (OpenSpec.ofChange lawS3054BStopSpec)

/-- ITS FALSE NEIGHBOUR: 'it returns false'. Refute it at one input. -/
def lawS3054BStopWrong : ChangeSpec := { name := "lawS3054BStop", fn := fun _ => fun
  | [d1, d2] => { results := [.lit (.bool false)], args := [d1, d2] }
  | _ => none }
def LawS3054BStopWrongFalsely : Prop := lawS3054BStopRow.holds Yba.pinned (OpenSpec.ofChange lawS3054BStopWrong)

end Rows
end Go.Proofs.Ybulkbkfm
