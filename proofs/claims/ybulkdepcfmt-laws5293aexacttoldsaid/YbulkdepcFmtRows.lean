/-
  No cell of these rows narrows 'for every input' (looked for: loops, veiled, ifaces, maps, wideKeys, modest, calm, conditions, laid).
  DERIVED. THE GIVEN ROWS OF THIS SEAT. 1 by the template 'for every input the law returns true; each argument reads behind the call as it read before'; 0 by the template 'total and deterministic' (their statements: YbulkdepcFmtTotals.lean).
  GIVEN WITH THE SEED: the statements are not yours to turn. If you find one false, say at which input.
  Laid BY PROGRAM, IN A SANDBOX (cutbox-rows.mjs): the forced cells as the released guide's own fill.sh prints them over the translation aa6e44f6bd428422… (all of the seat's roots in one cut). By AI agents, Wed Nov 11 2026. No macro, syntax, notation, axiom, sorry.
-/
import Derived.Test.YbulkdepcFmtChecked
import GoSem.Claim
import GoSem.ClaimJoined
import GoSem.ClaimMapViews
import Derived.JoinedTies
import Derived.KernelRfl
namespace Go.Proofs.YbulkdepcFmt
/- THE CELL 'sum', in the pinned program and in every row, IS THE sha256 OF THE DUMP (.gsa) THAT YbulkdepcFmtProg.lean LOADS. Nothing in Lean hashes anything: it is a label: what it is worth is what the hold of that sum in a sandbox is worth. -/
noncomputable def Ybaf.pinned : Pinned := { name := "ybulkdepcfmt", sum := "aa6e44f6bd4284225c88e79f52ea7ca538314d81670fc1c9d3c83422e4585f43", checked := Ybaf.checked }
namespace Rows
def none {H : Type} : Left H := { results := [], args := [] }

/-- 'passbook-accrual.LawS5293AExact': WHATEVER THE INPUT: true; the input reads as it did. -/
def lawS5293AExactSpec : ChangeSpec := { name := "lawS5293AExact", fn := fun _ => fun
  | [d1, d2, d3] => { results := [.lit (.bool true)], args := [d1, d2, d3] }
  | _ => none }
def lawS5293AExactRow : OpenClaim := { program := "ybulkdepcfmt", sum := "aa6e44f6bd4284225c88e79f52ea7ca538314d81670fc1c9d3c83422e4585f43", func := "example.com/passbook-accrual/passbook-accrual.LawS5293AExact", spec := "lawS5293AExact", stops := ["fmt.errorf"], inPlace := ["fmt.errorf"], apart := false }
/-- NO THEOREM (fmt's text is open here; it may be false): for the released tool's asking of the row's closed facts alone. THE STATEMENT IS 'LawS5293AExactToldSaid' (YbulkdepcFmtCards.lean). -/
def LawS5293AExactFormAsk : Prop := lawS5293AExactRow.holds Ybaf.pinned (OpenSpec.ofChange lawS5293AExactSpec)

/-- ITS FALSE NEIGHBOUR: 'it returns false'. Refute it at one input. -/
def lawS5293AExactWrong : ChangeSpec := { name := "lawS5293AExact", fn := fun _ => fun
  | [d1, d2, d3] => { results := [.lit (.bool false)], args := [d1, d2, d3] }
  | _ => none }
def LawS5293AExactWrongFormAsk : Prop := lawS5293AExactRow.holds Ybaf.pinned (OpenSpec.ofChange lawS5293AExactWrong)

end Rows
end Go.Proofs.YbulkdepcFmt
