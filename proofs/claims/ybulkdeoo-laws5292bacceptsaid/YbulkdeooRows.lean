/-
  No cell of these rows narrows 'for every input' (looked for: loops, veiled, ifaces, maps, wideKeys, modest, calm, conditions, laid).
  DERIVED. THE GIVEN ROWS OF THIS SEAT. 3 by the template 'for every input the law returns true; each argument reads behind the call as it read before'; 0 by the template 'total and deterministic' (their statements: YbulkdeooTotals.lean).
  GIVEN WITH THE SEED: the statements are not yours to turn. If you find one false, say at which input.
  Laid BY PROGRAM, IN A SANDBOX (cutbox-rows.mjs): the forced cells as the released guide's own fill.sh prints them over the translation 39651cf3f9c402e6… (all of the seat's roots in one cut). By AI agents, Wed Nov 11 2026. No macro, syntax, notation, axiom, sorry.
-/
import Derived.Test.YbulkdeooChecked
import GoSem.Claim
import GoSem.ClaimJoined
import GoSem.ClaimMapViews
import Derived.JoinedTies
import Derived.KernelRfl
namespace Go.Proofs.Ybulkdeoo
/- THE CELL 'sum', in the pinned program and in every row, IS THE sha256 OF THE DUMP (.gsa) THAT YbulkdeooProg.lean LOADS. Nothing in Lean hashes anything: it is a label: what it is worth is what the hold of that sum in a sandbox is worth. -/
noncomputable def Yba.pinned : Pinned := { name := "ybulkdeoo", sum := "39651cf3f9c402e605a4aabbf51552f9892466bdcbbbb566c033dbc5b8867b0e", checked := Yba.checked }
namespace Rows
def none {H : Type} : Left H := { results := [], args := [] }

/-- 'settings.LawS5292BAccept': WHATEVER THE INPUT: true; the input reads as it did. -/
def lawS5292BAcceptSpec : ChangeSpec := { name := "lawS5292BAccept", fn := fun _ => fun
  | [d1, d2, d3, d4, d5, d6] => { results := [.lit (.bool true)], args := [d1, d2, d3, d4, d5, d6] }
  | _ => none }
def lawS5292BAcceptRow : OpenClaim := { program := "ybulkdeoo", sum := "39651cf3f9c402e605a4aabbf51552f9892466bdcbbbb566c033dbc5b8867b0e", func := "example.com/addin-steward/addin-steward/settings.LawS5292BAccept", spec := "lawS5292BAccept", apart := false }
def LawS5292BAcceptSaid : Prop := lawS5292BAcceptRow.holds Yba.pinned (OpenSpec.ofChange lawS5292BAcceptSpec)

/-- ITS FALSE NEIGHBOUR: 'it returns false'. Refute it at one input. -/
def lawS5292BAcceptWrong : ChangeSpec := { name := "lawS5292BAccept", fn := fun _ => fun
  | [d1, d2, d3, d4, d5, d6] => { results := [.lit (.bool false)], args := [d1, d2, d3, d4, d5, d6] }
  | _ => none }
def LawS5292BAcceptWrongFalsely : Prop := lawS5292BAcceptRow.holds Yba.pinned (OpenSpec.ofChange lawS5292BAcceptWrong)

/-- 'settings.LawS5292CRaw': WHATEVER THE INPUT: true; the input reads as it did. -/
def lawS5292CRawSpec : ChangeSpec := { name := "lawS5292CRaw", fn := fun _ => fun
  | [d1, d2, d3, d4] => { results := [.lit (.bool true)], args := [d1, d2, d3, d4] }
  | _ => none }
def lawS5292CRawRow : OpenClaim := { program := "ybulkdeoo", sum := "39651cf3f9c402e605a4aabbf51552f9892466bdcbbbb566c033dbc5b8867b0e", func := "example.com/addin-steward/addin-steward/settings.LawS5292CRaw", spec := "lawS5292CRaw", inPlace := ["internal/bytealg.IndexByteString"], apart := false }
def LawS5292CRawSaid : Prop := lawS5292CRawRow.holds Yba.pinned (OpenSpec.ofChange lawS5292CRawSpec)

/-- ITS FALSE NEIGHBOUR: 'it returns false'. Refute it at one input. -/
def lawS5292CRawWrong : ChangeSpec := { name := "lawS5292CRaw", fn := fun _ => fun
  | [d1, d2, d3, d4] => { results := [.lit (.bool false)], args := [d1, d2, d3, d4] }
  | _ => none }
def LawS5292CRawWrongFalsely : Prop := lawS5292CRawRow.holds Yba.pinned (OpenSpec.ofChange lawS5292CRawWrong)

/-- 'settings.LawS5292CTable': WHATEVER THE INPUT: true; the input reads as it did. -/
def lawS5292CTableSpec : ChangeSpec := { name := "lawS5292CTable", fn := fun _ => fun
  | [d1, d2] => { results := [.lit (.bool true)], args := [d1, d2] }
  | _ => none }
def lawS5292CTableRow : OpenClaim := { program := "ybulkdeoo", sum := "39651cf3f9c402e605a4aabbf51552f9892466bdcbbbb566c033dbc5b8867b0e", func := "example.com/addin-steward/addin-steward/settings.LawS5292CTable", spec := "lawS5292CTable", inPlace := ["internal/bytealg.IndexByteString"], apart := false }
def LawS5292CTableSaid : Prop := lawS5292CTableRow.holds Yba.pinned (OpenSpec.ofChange lawS5292CTableSpec)

/-- ITS FALSE NEIGHBOUR: 'it returns false'. Refute it at one input. -/
def lawS5292CTableWrong : ChangeSpec := { name := "lawS5292CTable", fn := fun _ => fun
  | [d1, d2] => { results := [.lit (.bool false)], args := [d1, d2] }
  | _ => none }
def LawS5292CTableWrongFalsely : Prop := lawS5292CTableRow.holds Yba.pinned (OpenSpec.ofChange lawS5292CTableWrong)

end Rows
end Go.Proofs.Ybulkdeoo
