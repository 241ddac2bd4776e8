/-
  DERIVED. GIVEN WITH THE SEED: THE CARDS: each row of YbulksayDoorRows.lean that lists a variable, with what it lists TIED to the program's text (the seventh form; the later family's looks); each row that meets fmt, with fmt's text TOLD by the authors' own Lean function (tested against real Go, not proved from fmt's source: count such statements apart). THE CARD IS WHAT COUNTS. Prove the row's statement (the work); the ties are given (YbulksayDoorTie.lean); close each card by the builder's one call (the guide's Derived/Test/ToyasCard.lean, 'card_holds'). Laid BY PROGRAM, IN A SANDBOX (cutbox-door.mjs). By AI agents, Wed Nov 11 2026. No macro, syntax, notation, axiom, sorry.
-/
import Derived.Test.YbulksayDoorRows
import GoSem.ClaimSeven
namespace Go.Proofs.YbulksayDoor
namespace Rows

/-- THE TIED CARD OF 'numden.LawS0921AMatchesSmall'. -/
def lawS0921AMatchesSmallCard : Claim7 := { stood := { row := lawS0921AMatchesSmallRow, standIns := [], harness := (true, "bdeedbb5c05f2d099e561cfa181f867768dce29bdf462381e6c6fd5bddb119f0"), looks := true }, kinds := [], alts := [], laidByText := true, laidKinds := [.data, .sentinel, .sentinel, .sentinel], laidTests := true, laidLooks := .later }
def LawS0921AMatchesSmallCardSaid : Prop := Claim7.holds Ybad.pinned (.plain (OpenSpec.ofChange lawS0921AMatchesSmallSpec)) lawS0921AMatchesSmallCard

/-- THE TIED CARD OF 'numden.LawS0921ACommutes'. -/
def lawS0921ACommutesCard : Claim7 := { stood := { row := lawS0921ACommutesRow, standIns := [], harness := (true, "bdeedbb5c05f2d099e561cfa181f867768dce29bdf462381e6c6fd5bddb119f0"), looks := true }, kinds := [], alts := [], laidByText := true, laidKinds := [.data, .sentinel, .sentinel, .sentinel], laidTests := true, laidLooks := .later }
def LawS0921ACommutesCardSaid : Prop := Claim7.holds Ybad.pinned (.plain (OpenSpec.ofChange lawS0921ACommutesSpec)) lawS0921ACommutesCard

/-- THE TIED CARD OF 'numden.LawS0921AIdentity'. -/
def lawS0921AIdentityCard : Claim7 := { stood := { row := lawS0921AIdentityRow, standIns := [], harness := (true, "bdeedbb5c05f2d099e561cfa181f867768dce29bdf462381e6c6fd5bddb119f0"), looks := true }, kinds := [], alts := [], laidByText := true, laidKinds := [.data, .sentinel, .sentinel, .sentinel], laidTests := true, laidLooks := .later }
def LawS0921AIdentityCardSaid : Prop := Claim7.holds Ybad.pinned (.plain (OpenSpec.ofChange lawS0921AIdentitySpec)) lawS0921AIdentityCard

/-- THE TIED CARD OF 'numden.LawS0921BModel'. -/
def lawS0921BModelCard : Claim7 := { stood := { row := lawS0921BModelRow, standIns := [], harness := (true, "bdeedbb5c05f2d099e561cfa181f867768dce29bdf462381e6c6fd5bddb119f0"), looks := true }, kinds := [], alts := [], laidByText := true, laidKinds := [.data, .pinned], laidTests := true, laidLooks := .later }
def LawS0921BModelCardSaid : Prop := Claim7.holds Ybad.pinned (.plain (OpenSpec.ofChange lawS0921BModelSpec)) lawS0921BModelCard

/-- THE TIED CARD OF 'numden.LawS0921BBuilt'. -/
def lawS0921BBuiltCard : Claim7 := { stood := { row := lawS0921BBuiltRow, standIns := [], harness := (true, "bdeedbb5c05f2d099e561cfa181f867768dce29bdf462381e6c6fd5bddb119f0"), looks := true }, kinds := [], alts := [], laidByText := true, laidKinds := [.data, .pinned], laidTests := true, laidLooks := .later }
def LawS0921BBuiltCardSaid : Prop := Claim7.holds Ybad.pinned (.plain (OpenSpec.ofChange lawS0921BBuiltSpec)) lawS0921BBuiltCard

/-- THE TIED CARD OF 'numden.LawS0921BSign'. -/
def lawS0921BSignCard : Claim7 := { stood := { row := lawS0921BSignRow, standIns := [], harness := (true, "bdeedbb5c05f2d099e561cfa181f867768dce29bdf462381e6c6fd5bddb119f0"), looks := true }, kinds := [], alts := [], laidByText := true, laidKinds := [.data, .pinned], laidTests := true, laidLooks := .later }
def LawS0921BSignCardSaid : Prop := Claim7.holds Ybad.pinned (.plain (OpenSpec.ofChange lawS0921BSignSpec)) lawS0921BSignCard

/-- THE TIED CARD OF 'numden.LawS0921CSingle'. -/
def lawS0921CSingleCard : Claim7 := { stood := { row := lawS0921CSingleRow, standIns := [], harness := (true, "bdeedbb5c05f2d099e561cfa181f867768dce29bdf462381e6c6fd5bddb119f0"), looks := true }, kinds := [], alts := [], laidByText := true, laidKinds := [.sentinel, .sentinel], laidTests := true, laidLooks := .later }
def LawS0921CSingleCardSaid : Prop := Claim7.holds Ybad.pinned (.plain (OpenSpec.ofChange lawS0921CSingleSpec)) lawS0921CSingleCard

/-- THE TIED CARD OF 'numden.LawS0921CScaled'. -/
def lawS0921CScaledCard : Claim7 := { stood := { row := lawS0921CScaledRow, standIns := [], harness := (true, "bdeedbb5c05f2d099e561cfa181f867768dce29bdf462381e6c6fd5bddb119f0"), looks := true }, kinds := [], alts := [], laidByText := true, laidKinds := [.sentinel, .sentinel], laidTests := true, laidLooks := .later }
def LawS0921CScaledCardSaid : Prop := Claim7.holds Ybad.pinned (.plain (OpenSpec.ofChange lawS0921CScaledSpec)) lawS0921CScaledCard
end Rows
end Go.Proofs.YbulksayDoor
