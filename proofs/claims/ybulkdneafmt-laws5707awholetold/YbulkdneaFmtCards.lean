/-
  DERIVED. GIVEN WITH THE SEED: THE CARDS: each row of YbulkdneaFmtRows.lean that lists a variable, with what it lists TIED to the program's text (the seventh form; the later family's looks); each row that meets fmt, with fmt's text TOLD by the authors' own Lean function (tested against real Go, not proved from fmt's source: count such statements apart). THE CARD IS WHAT COUNTS. Prove the row's statement (the work); the ties are given (YbulkdneaFmtTie.lean); close each card by the builder's one call (the guide's Derived/Test/ToyasCard.lean, 'card_holds'). Laid BY PROGRAM, IN A SANDBOX (cutbox-door.mjs). By AI agents, Wed Nov 11 2026. No macro, syntax, notation, axiom, sorry.
-/
import Derived.Test.YbulkdneaFmtRows
import GoSem.ClaimSeven
namespace Go.Proofs.YbulkdneaFmt
namespace Rows

/-- THE TOLD AND TIED CARD OF 'lamina.LawS5707AWhole'. -/
def lawS5707AWholeCard : Claim7 := { stood := { row := lawS5707AWholeRow, standIns := [], harness := (true, "270e22f987b9d4a85e0ef2294fcd376747d8c79f540dd5a7f2a64bc9e7c9e888"), looks := false }, told := true, laidByText := true, laidKinds := [.data, .data, .data], laidTests := true, laidLooks := .later, goes := false }
def LawS5707AWholeToldSaid : Prop := Claim7.holds Ybaf.pinned (.plain (OpenSpec.ofChange lawS5707AWholeSpec)) lawS5707AWholeCard
/-- ITS FALSE NEIGHBOUR. Refute it at one input. -/
def LawS5707AWholeToldWrongFalsely : Prop := Claim7.holds Ybaf.pinned (.plain (OpenSpec.ofChange lawS5707AWholeWrong)) lawS5707AWholeCard
end Rows
end Go.Proofs.YbulkdneaFmt
