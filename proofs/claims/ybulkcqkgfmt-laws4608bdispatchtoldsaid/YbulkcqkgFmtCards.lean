/-
  DERIVED. GIVEN WITH THE SEED: THE CARDS: each row of YbulkcqkgFmtRows.lean that lists a variable, with what it lists TIED to the program's text (the seventh form; the later family's looks); each row that meets fmt, with fmt's text TOLD by the authors' own Lean function (tested against real Go, not proved from fmt's source: count such statements apart). THE CARD IS WHAT COUNTS. Prove the row's statement (the work); the ties are given (YbulkcqkgFmtTie.lean); close each card by the builder's one call (the guide's Derived/Test/ToyasCard.lean, 'card_holds'). Laid BY PROGRAM, IN A SANDBOX (cutbox-door.mjs). By AI agents, Wed Nov 11 2026. No macro, syntax, notation, axiom, sorry.
-/
import Derived.Test.YbulkcqkgFmtRows
import GoSem.ClaimSeven
namespace Go.Proofs.YbulkcqkgFmt
namespace Rows

/-- THE TOLD AND TIED CARD OF 'records.LawS4608BDispatch'. -/
def lawS4608BDispatchCard : Claim7 := { stood := { row := lawS4608BDispatchRow, standIns := [], harness := (true, "ec56eae83f5949e7bc40105ec10847ba0354e795662ce2ac79900a8c078dc99f"), looks := true }, told := true, laidByText := true, laidKinds := [.sentinel], laidTests := true, laidLooks := .later, goes := false }
def LawS4608BDispatchToldSaid : Prop := Claim7.holds Ybaf.pinned (.plain (OpenSpec.ofChange lawS4608BDispatchSpec)) lawS4608BDispatchCard
/-- ITS FALSE NEIGHBOUR. Refute it at one input. -/
def LawS4608BDispatchToldWrongFalsely : Prop := Claim7.holds Ybaf.pinned (.plain (OpenSpec.ofChange lawS4608BDispatchWrong)) lawS4608BDispatchCard
end Rows
end Go.Proofs.YbulkcqkgFmt
