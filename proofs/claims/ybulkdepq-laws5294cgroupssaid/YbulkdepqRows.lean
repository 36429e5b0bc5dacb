/-
  No cell of these rows narrows 'for every input' (looked for: loops, veiled, ifaces, maps, wideKeys, modest, calm, conditions, laid).
  DERIVED. THE GIVEN ROWS OF THIS SEAT. 3 by the template 'for every input the law returns true; each argument reads behind the call as it read before'; 0 by the template 'total and deterministic' (their statements: YbulkdepqTotals.lean).
  GIVEN WITH THE SEED: the statements are not yours to turn. If you find one false, say at which input.
  Laid BY PROGRAM, IN A SANDBOX (cutbox-rows.mjs): the forced cells as the released guide's own fill.sh prints them over the translation 0a8c5c124f184ad9… (all of the seat's roots in one cut). By AI agents, Wed Nov 11 2026. No macro, syntax, notation, axiom, sorry.
-/
import Derived.Test.YbulkdepqChecked
import GoSem.Claim
import GoSem.ClaimJoined
import GoSem.ClaimMapViews
import Derived.JoinedTies
import Derived.KernelRfl
namespace Go.Proofs.Ybulkdepq
/- THE CELL 'sum', in the pinned program and in every row, IS THE sha256 OF THE DUMP (.gsa) THAT YbulkdepqProg.lean LOADS. Nothing in Lean hashes anything: it is a label: what it is worth is what the hold of that sum in a sandbox is worth. -/
noncomputable def Yba.pinned : Pinned := { name := "ybulkdepq", sum := "0a8c5c124f184ad9610f272a9706a73362587b903625e908a9a1b233219dce06", checked := Yba.checked }
namespace Rows
def none {H : Type} : Left H := { results := [], args := [] }

/-- 'symbolfile.LawS5294AModel': WHATEVER THE INPUT: true; the input reads as it did. -/
def lawS5294AModelSpec : ChangeSpec := { name := "lawS5294AModel", fn := fun _ => fun
  | [d] => { results := [.lit (.bool true)], args := [d] }
  | _ => none }
def lawS5294AModelRow : OpenClaim := { program := "ybulkdepq", sum := "0a8c5c124f184ad9610f272a9706a73362587b903625e908a9a1b233219dce06", func := "example.com/libs-across-partitions/libs-across-partitions/pkg/symbolfile.LawS5294AModel", spec := "lawS5294AModel", apart := false }
def LawS5294AModelSaid : Prop := lawS5294AModelRow.holds Yba.pinned (OpenSpec.ofChange lawS5294AModelSpec)

/-- ITS FALSE NEIGHBOUR: 'it returns false'. Refute it at one input. -/
def lawS5294AModelWrong : ChangeSpec := { name := "lawS5294AModel", fn := fun _ => fun
  | [d] => { results := [.lit (.bool false)], args := [d] }
  | _ => none }
def LawS5294AModelWrongFalsely : Prop := lawS5294AModelRow.holds Yba.pinned (OpenSpec.ofChange lawS5294AModelWrong)

/-- 'symbolfile.LawS5294ABuilt': WHATEVER THE INPUT: true; the input reads as it did. -/
def lawS5294ABuiltSpec : ChangeSpec := { name := "lawS5294ABuilt", fn := fun _ => fun
  | [d1, d2, d3] => { results := [.lit (.bool true)], args := [d1, d2, d3] }
  | _ => none }
def lawS5294ABuiltRow : OpenClaim := { program := "ybulkdepq", sum := "0a8c5c124f184ad9610f272a9706a73362587b903625e908a9a1b233219dce06", func := "example.com/libs-across-partitions/libs-across-partitions/pkg/symbolfile.LawS5294ABuilt", spec := "lawS5294ABuilt", apart := false }
def LawS5294ABuiltSaid : Prop := lawS5294ABuiltRow.holds Yba.pinned (OpenSpec.ofChange lawS5294ABuiltSpec)

/-- ITS FALSE NEIGHBOUR: 'it returns false'. Refute it at one input. -/
def lawS5294ABuiltWrong : ChangeSpec := { name := "lawS5294ABuilt", fn := fun _ => fun
  | [d1, d2, d3] => { results := [.lit (.bool false)], args := [d1, d2, d3] }
  | _ => none }
def LawS5294ABuiltWrongFalsely : Prop := lawS5294ABuiltRow.holds Yba.pinned (OpenSpec.ofChange lawS5294ABuiltWrong)

/-- 'build.LawS5294CGroups': WHATEVER THE INPUT: true; the input reads as it did. -/
def lawS5294CGroupsSpec : ChangeSpec := { name := "lawS5294CGroups", fn := fun _ => fun
  | [d] => { results := [.lit (.bool true)], args := [d] }
  | _ => none }
def lawS5294CGroupsRow : OpenClaim := { program := "ybulkdepq", sum := "0a8c5c124f184ad9610f272a9706a73362587b903625e908a9a1b233219dce06", func := "example.com/libs-across-partitions/libs-across-partitions/internal/build.LawS5294CGroups", spec := "lawS5294CGroups", apart := false }
def LawS5294CGroupsSaid : Prop := lawS5294CGroupsRow.holds Yba.pinned (OpenSpec.ofChange lawS5294CGroupsSpec)

/-- ITS FALSE NEIGHBOUR: 'it returns false'. Refute it at one input. -/
def lawS5294CGroupsWrong : ChangeSpec := { name := "lawS5294CGroups", fn := fun _ => fun
  | [d] => { results := [.lit (.bool false)], args := [d] }
  | _ => none }
def LawS5294CGroupsWrongFalsely : Prop := lawS5294CGroupsRow.holds Yba.pinned (OpenSpec.ofChange lawS5294CGroupsWrong)

end Rows
end Go.Proofs.Ybulkdepq
