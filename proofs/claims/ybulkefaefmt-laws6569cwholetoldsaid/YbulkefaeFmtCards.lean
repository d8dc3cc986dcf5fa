/-
  DERIVED. GIVEN WITH THE SEED: THE CARDS: each row of YbulkefaeFmtRows.lean that lists a variable, with what it lists TIED to the program's text (the seventh form; the later family's looks); each row that meets fmt, with fmt's text TOLD by the authors' own Lean function (tested against real Go, not proved from fmt's source: count such statements apart). THE CARD IS WHAT COUNTS. Prove the row's statement (the work); the ties are given (YbulkefaeFmtTie.lean); close each card by the builder's one call (the guide's Derived/Test/ToyasCard.lean, 'card_holds'). Laid BY PROGRAM, IN A SANDBOX (cutbox-door.mjs). By AI agents, Wed Nov 11 2026. No macro, syntax, notation, axiom, sorry.
-/
import Derived.Test.YbulkefaeFmtRows
import GoSem.ClaimSeven
namespace Go.Proofs.YbulkefaeFmt
namespace Rows

/-- THE TOLD AND TIED CARD OF 'causeway.LawS6569CWhole'. -/
def lawS6569CWholeCard : Claim7 := { stood := { row := lawS6569CWholeRow, standIns := [], harness := (true, "c3213347d18030b46abf2ebca4d934ca74470a05b77995058c0cf9b5ea9b1c5d"), looks := true }, told := true, laidByText := true, laidKinds := [.listed, .sentinel, .sentinel], laidTests := true, laidLooks := .later, goes := false }
def LawS6569CWholeToldSaid : Prop := Claim7.holds Ybaf.pinned (.plain (OpenSpec.ofChange lawS6569CWholeSpec)) lawS6569CWholeCard
/-- ITS FALSE NEIGHBOUR. Refute it at one input. -/
def LawS6569CWholeToldWrongFalsely : Prop := Claim7.holds Ybaf.pinned (.plain (OpenSpec.ofChange lawS6569CWholeWrong)) lawS6569CWholeCard
end Rows
end Go.Proofs.YbulkefaeFmt
