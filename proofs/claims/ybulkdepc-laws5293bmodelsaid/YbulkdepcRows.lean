/-
  No cell of these rows narrows 'for every input' (looked for: loops, veiled, ifaces, maps, wideKeys, modest, calm, conditions, laid).
  DERIVED. THE GIVEN ROWS OF THIS SEAT. 3 by the template 'for every input the law returns true; each argument reads behind the call as it read before'; 0 by the template 'total and deterministic' (their statements: YbulkdepcTotals.lean).
  GIVEN WITH THE SEED: the statements are not yours to turn. If you find one false, say at which input.
  Laid BY PROGRAM, IN A SANDBOX (cutbox-rows.mjs): the forced cells as the released guide's own fill.sh prints them over the translation cc06d94f07e1a97a… (all of the seat's roots in one cut). By AI agents, Wed Nov 11 2026. No macro, syntax, notation, axiom, sorry.
-/
import Derived.Test.YbulkdepcChecked
import GoSem.Claim
import GoSem.ClaimJoined
import GoSem.ClaimMapViews
import Derived.JoinedTies
import Derived.KernelRfl
namespace Go.Proofs.Ybulkdepc
/- THE CELL 'sum', in the pinned program and in every row, IS THE sha256 OF THE DUMP (.gsa) THAT YbulkdepcProg.lean LOADS. Nothing in Lean hashes anything: it is a label: what it is worth is what the hold of that sum in a sandbox is worth. -/
noncomputable def Yba.pinned : Pinned := { name := "ybulkdepc", sum := "cc06d94f07e1a97aee3fce80b7e5260e2beaa1272d3f533513d00c0e1f5e4574", checked := Yba.checked }
namespace Rows
def none {H : Type} : Left H := { results := [], args := [] }

/-- 'passbook-accrual.LawS5293BModel': WHATEVER THE INPUT: true; the input reads as it did. -/
def lawS5293BModelSpec : ChangeSpec := { name := "lawS5293BModel", fn := fun _ => fun
  | [d1, d2] => { results := [.lit (.bool true)], args := [d1, d2] }
  | _ => none }
def lawS5293BModelRow : OpenClaim := { program := "ybulkdepc", sum := "cc06d94f07e1a97aee3fce80b7e5260e2beaa1272d3f533513d00c0e1f5e4574", func := "example.com/passbook-accrual/passbook-accrual.LawS5293BModel", spec := "lawS5293BModel", apart := false }
def LawS5293BModelSaid : Prop := lawS5293BModelRow.holds Yba.pinned (OpenSpec.ofChange lawS5293BModelSpec)

/-- ITS FALSE NEIGHBOUR: 'it returns false'. Refute it at one input. -/
def lawS5293BModelWrong : ChangeSpec := { name := "lawS5293BModel", fn := fun _ => fun
  | [d1, d2] => { results := [.lit (.bool false)], args := [d1, d2] }
  | _ => none }
def LawS5293BModelWrongFalsely : Prop := lawS5293BModelRow.holds Yba.pinned (OpenSpec.ofChange lawS5293BModelWrong)

/-- 'passbook-accrual.LawS5293BBracket': WHATEVER THE INPUT: true; the input reads as it did. -/
def lawS5293BBracketSpec : ChangeSpec := { name := "lawS5293BBracket", fn := fun _ => fun
  | [d1, d2] => { results := [.lit (.bool true)], args := [d1, d2] }
  | _ => none }
def lawS5293BBracketRow : OpenClaim := { program := "ybulkdepc", sum := "cc06d94f07e1a97aee3fce80b7e5260e2beaa1272d3f533513d00c0e1f5e4574", func := "example.com/passbook-accrual/passbook-accrual.LawS5293BBracket", spec := "lawS5293BBracket", apart := false }
def LawS5293BBracketSaid : Prop := lawS5293BBracketRow.holds Yba.pinned (OpenSpec.ofChange lawS5293BBracketSpec)

/-- ITS FALSE NEIGHBOUR: 'it returns false'. Refute it at one input. -/
def lawS5293BBracketWrong : ChangeSpec := { name := "lawS5293BBracket", fn := fun _ => fun
  | [d1, d2] => { results := [.lit (.bool false)], args := [d1, d2] }
  | _ => none }
def LawS5293BBracketWrongFalsely : Prop := lawS5293BBracketRow.holds Yba.pinned (OpenSpec.ofChange lawS5293BBracketWrong)

/-- 'passbook-accrual.LawS5293BCalendar': WHATEVER THE INPUT: true; the input reads as it did. -/
def lawS5293BCalendarSpec : ChangeSpec := { name := "lawS5293BCalendar", fn := fun _ => fun
  | [d1, d2] => { results := [.lit (.bool true)], args := [d1, d2] }
  | _ => none }
def lawS5293BCalendarRow : OpenClaim := { program := "ybulkdepc", sum := "cc06d94f07e1a97aee3fce80b7e5260e2beaa1272d3f533513d00c0e1f5e4574", func := "example.com/passbook-accrual/passbook-accrual.LawS5293BCalendar", spec := "lawS5293BCalendar", apart := false }
def LawS5293BCalendarSaid : Prop := lawS5293BCalendarRow.holds Yba.pinned (OpenSpec.ofChange lawS5293BCalendarSpec)

/-- ITS FALSE NEIGHBOUR: 'it returns false'. Refute it at one input. -/
def lawS5293BCalendarWrong : ChangeSpec := { name := "lawS5293BCalendar", fn := fun _ => fun
  | [d1, d2] => { results := [.lit (.bool false)], args := [d1, d2] }
  | _ => none }
def LawS5293BCalendarWrongFalsely : Prop := lawS5293BCalendarRow.holds Yba.pinned (OpenSpec.ofChange lawS5293BCalendarWrong)

end Rows
end Go.Proofs.Ybulkdepc
