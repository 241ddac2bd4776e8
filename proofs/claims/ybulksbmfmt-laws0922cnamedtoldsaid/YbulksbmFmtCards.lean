/-
  DERIVED. GIVEN WITH THE SEED: THE CARDS: each row of YbulksbmFmtRows.lean that lists a variable, with what it lists TIED to the program's text (the seventh form; the later family's looks); each row that meets fmt, with fmt's text TOLD by the authors' own Lean function (tested against real Go, not proved from fmt's source: count such statements apart). THE CARD IS WHAT COUNTS. Prove the row's statement (the work); the ties are given (YbulksbmFmtTie.lean); close each card by the builder's one call (the guide's Derived/Test/ToyasCard.lean, 'card_holds'). Laid BY PROGRAM, IN A SANDBOX (cutbox-door.mjs). By AI agents, Wed Nov 11 2026. No macro, syntax, notation, axiom, sorry.
-/
import Derived.Test.YbulksbmFmtRows
import GoSem.ClaimSeven
namespace Go.Proofs.YbulksbmFmt
namespace Rows

/-- THE TOLD CARD OF 'paxos.LawS0922CNamed'. -/
def lawS0922CNamedCard : Claim7 := { stood := { row := lawS0922CNamedRow, standIns := [], harness := (true, "e21f55fbadddf133c659db208b303d4366a7c520f9917785279e5f999f0e22b7"), looks := false }, told := true, goes := false }
def LawS0922CNamedToldSaid : Prop := Claim7.holds Ybaf.pinned (.plain (OpenSpec.ofChange lawS0922CNamedSpec)) lawS0922CNamedCard
/-- ITS FALSE NEIGHBOUR. Refute it at one input. -/
def LawS0922CNamedToldWrongFalsely : Prop := Claim7.holds Ybaf.pinned (.plain (OpenSpec.ofChange lawS0922CNamedWrong)) lawS0922CNamedCard
end Rows
end Go.Proofs.YbulksbmFmt
