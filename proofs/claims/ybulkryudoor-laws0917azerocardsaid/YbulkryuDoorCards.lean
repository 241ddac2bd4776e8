/-
  DERIVED. GIVEN WITH THE SEED: THE CARDS: each row of YbulkryuDoorRows.lean that lists a variable, with what it lists TIED to the program's text (the seventh form; the later family's looks); each row that meets fmt, with fmt's text TOLD by the authors' own Lean function (tested against real Go, not proved from fmt's source: count such statements apart). THE CARD IS WHAT COUNTS. Prove the row's statement (the work); the ties are given (YbulkryuDoorTie.lean); close each card by the builder's one call (the guide's Derived/Test/ToyasCard.lean, 'card_holds'). Laid BY PROGRAM, IN A SANDBOX (cutbox-door.mjs). By AI agents, Wed Nov 11 2026. No macro, syntax, notation, axiom, sorry.
-/
import Derived.Test.YbulkryuDoorRows
import GoSem.ClaimSeven
namespace Go.Proofs.YbulkryuDoor
namespace Rows

/-- THE TIED CARD OF 'skua.LawS0917ADrain'. -/
def lawS0917ADrainCard : Claim7 := { stood := { row := lawS0917ADrainRow, standIns := [], harness := (true, "4e458d512726a5afd907e92c46e4c354f7862034cc2af52195336c0a87620ccd"), looks := true }, kinds := [], alts := [], laidByText := true, laidKinds := [.sentinel], laidTests := true, laidLooks := .later }
def LawS0917ADrainCardSaid : Prop := Claim7.holds Ybad.pinned (.plain (OpenSpec.ofChange lawS0917ADrainSpec)) lawS0917ADrainCard

/-- THE TIED CARD OF 'skua.LawS0917AZero'. -/
def lawS0917AZeroCard : Claim7 := { stood := { row := lawS0917AZeroRow, standIns := [], harness := (true, "4e458d512726a5afd907e92c46e4c354f7862034cc2af52195336c0a87620ccd"), looks := true }, kinds := [], alts := [], laidByText := true, laidKinds := [.sentinel], laidTests := true, laidLooks := .later }
def LawS0917AZeroCardSaid : Prop := Claim7.holds Ybad.pinned (.plain (OpenSpec.ofChange lawS0917AZeroSpec)) lawS0917AZeroCard
end Rows
end Go.Proofs.YbulkryuDoor
