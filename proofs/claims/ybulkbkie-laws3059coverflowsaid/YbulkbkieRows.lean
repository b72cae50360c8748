/-
  No cell of these rows narrows 'for every input' (looked for: loops, veiled, ifaces, maps, wideKeys, modest, calm, conditions, laid).
  DERIVED. THE GIVEN ROWS OF THIS SEAT. 2 by the template 'for every input the law returns true; each argument reads behind the call as it read before'; 0 by the template 'total and deterministic' (their statements: YbulkbkieTotals.lean).
  GIVEN WITH THE SEED: the statements are not yours to turn. If you find one false, say at which input.
  Laid BY PROGRAM, IN A SANDBOX (cutbox-rows.mjs): the forced cells as the released guide's own fill.sh prints them over the translation aa645ff49b79afe5… (all of the seat's roots in one cut). By AI agents, Wed Nov 11 2026. No macro, syntax, notation, axiom, sorry.
-/
import Derived.Test.YbulkbkieChecked
import GoSem.Claim
import GoSem.ClaimJoined
import GoSem.ClaimMapViews
import Derived.JoinedTies
import Derived.KernelRfl
namespace Go.Proofs.Ybulkbkie
/- THE CELL 'sum', in the pinned program and in every row, IS THE sha256 OF THE DUMP (.gsa) THAT YbulkbkieProg.lean LOADS. Nothing in Lean hashes anything: it is a label: what it is worth is what the hold of that sum in a sandbox is worth. -/
noncomputable def Yba.pinned : Pinned := { name := "ybulkbkie", sum := "aa645ff49b79afe5a9d94d228307154a6d4aad3363ec67b8d18ab1dee1770a72", checked := Yba.checked }
namespace Rows
def none {H : Type} : Left H := { results := [], args := [] }

/-- 'vm.LawS3059CMakes': WHATEVER THE INPUT: true; the input reads as it did. -/
def lawS3059CMakesSpec : ChangeSpec := { name := "lawS3059CMakes", fn := fun _ => fun
  | [d1, d2, d3, d4] => { results := [.lit (.bool true)], args := [d1, d2, d3, d4] }
  | _ => none }
def lawS3059CMakesRow : OpenClaim := { program := "ybulkbkie", sum := "aa645ff49b79afe5a9d94d228307154a6d4aad3363ec67b8d18ab1dee1770a72", func := "example.com/langur/langur/pkg/vm.LawS3059CMakes", spec := "lawS3059CMakes", inPlace := ["runtime/metrics.Read", "(runtime/metrics.Value).Uint64", "runtime.GC"], unfollowed := true, recurses := true, plainKeys := false, apart := false }
def LawS3059CMakesSaid : Prop := lawS3059CMakesRow.holds Yba.pinned (OpenSpec.ofChange lawS3059CMakesSpec)

/-- ITS FALSE NEIGHBOUR: 'it returns false'. Refute it at one input. -/
def lawS3059CMakesWrong : ChangeSpec := { name := "lawS3059CMakes", fn := fun _ => fun
  | [d1, d2, d3, d4] => { results := [.lit (.bool false)], args := [d1, d2, d3, d4] }
  | _ => none }
def LawS3059CMakesWrongFalsely : Prop := lawS3059CMakesRow.holds Yba.pinned (OpenSpec.ofChange lawS3059CMakesWrong)

/-- 'vm.LawS3059COverflow': WHATEVER THE INPUT: true; the input reads as it did. -/
def lawS3059COverflowSpec : ChangeSpec := { name := "lawS3059COverflow", fn := fun _ => fun
  | [d1, d2, d3, d4] => { results := [.lit (.bool true)], args := [d1, d2, d3, d4] }
  | _ => none }
def lawS3059COverflowRow : OpenClaim := { program := "ybulkbkie", sum := "aa645ff49b79afe5a9d94d228307154a6d4aad3363ec67b8d18ab1dee1770a72", func := "example.com/langur/langur/pkg/vm.LawS3059COverflow", spec := "lawS3059COverflow", inPlace := ["runtime/metrics.Read", "(runtime/metrics.Value).Uint64", "runtime.GC"], unfollowed := true, recurses := true, plainKeys := false, apart := false }
def LawS3059COverflowSaid : Prop := lawS3059COverflowRow.holds Yba.pinned (OpenSpec.ofChange lawS3059COverflowSpec)

/-- ITS FALSE NEIGHBOUR: 'it returns false'. Refute it at one input. -/
def lawS3059COverflowWrong : ChangeSpec := { name := "lawS3059COverflow", fn := fun _ => fun
  | [d1, d2, d3, d4] => { results := [.lit (.bool false)], args := [d1, d2, d3, d4] }
  | _ => none }
def LawS3059COverflowWrongFalsely : Prop := lawS3059COverflowRow.holds Yba.pinned (OpenSpec.ofChange lawS3059COverflowWrong)

end Rows
end Go.Proofs.Ybulkbkie
