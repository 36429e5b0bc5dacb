/-
  DERIVED. GIVEN WITH THE SEED: THE CARDS: each row of YbulkdepcFmtRows.lean that lists a variable, with what it lists TIED to the program's text (the seventh form; the later family's looks); each row that meets fmt, with fmt's text TOLD by the authors' own Lean function (tested against real Go, not proved from fmt's source: count such statements apart). THE CARD IS WHAT COUNTS. Prove the row's statement (the work); the ties are given (YbulkdepcFmtTie.lean); close each card by the builder's one call (the guide's Derived/Test/ToyasCard.lean, 'card_holds'). Laid BY PROGRAM, IN A SANDBOX (cutbox-door.mjs). By AI agents, Wed Nov 11 2026. No macro, syntax, notation, axiom, sorry.
-/
import Derived.Test.YbulkdepcFmtRows
import GoSem.ClaimSeven
namespace Go.Proofs.YbulkdepcFmt
namespace Rows

/-- THE TOLD CARD OF 'passbook-accrual.LawS5293AExact'. -/
def lawS5293AExactCard : Claim7 := { stood := { row := lawS5293AExactRow, standIns := [], harness := (true, "66af55511ea67763641970d941f291ee89b477526b9ba161b6d9166cf5c46d75"), looks := false }, told := true, goes := false }
def LawS5293AExactToldSaid : Prop := Claim7.holds Ybaf.pinned (.plain (OpenSpec.ofChange lawS5293AExactSpec)) lawS5293AExactCard
/-- ITS FALSE NEIGHBOUR. Refute it at one input. -/
def LawS5293AExactToldWrongFalsely : Prop := Claim7.holds Ybaf.pinned (.plain (OpenSpec.ofChange lawS5293AExactWrong)) lawS5293AExactCard
end Rows
end Go.Proofs.YbulkdepcFmt
