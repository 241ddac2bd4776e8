/-
  NARROWER THAN 'FOR EVERY INPUT', by the rows' own cells (each row's printed sentence says how): LawS0917ADrain: laid · LawS0917AZero: laid.
  DERIVED. THE GIVEN ROWS OF THIS SEAT. 2 by the template 'for every input the law returns true; each argument reads behind the call as it read before'; 0 by the template 'total and deterministic' (their statements: YbulkryuDoorTotals.lean).
  GIVEN WITH THE SEED: the statements are not yours to turn. If you find one false, say at which input.
  Laid BY PROGRAM, IN A SANDBOX (cutbox-rows.mjs): the forced cells as the released guide's own fill.sh prints them over the translation 29804b4842c9c4da… (all of the seat's roots in one cut). By AI agents, Wed Nov 11 2026. No macro, syntax, notation, axiom, sorry.
-/
import Derived.Test.YbulkryuDoorChecked
import GoSem.Claim
import GoSem.ClaimJoined
import GoSem.ClaimMapViews
import Derived.JoinedTies
import Derived.KernelRfl
namespace Go.Proofs.YbulkryuDoor
/- THE CELL 'sum', in the pinned program and in every row, IS THE sha256 OF THE DUMP (.gsa) THAT YbulkryuDoorProg.lean LOADS. Nothing in Lean hashes anything: it is a label: what it is worth is what the hold of that sum in a sandbox is worth. -/
noncomputable def Ybad.pinned : Pinned := { name := "ybulkryudoor", sum := "29804b4842c9c4da04a23304729da41b19b199c0573ddf43e3ff431c42c6cd80", checked := Ybad.checked }
namespace Rows
def none {H : Type} : Left H := { results := [], args := [] }

/- WHAT THE LISTED PACKAGE-LEVEL VARIABLES READ AS WHEN THE CALL BEGINS. Each datum BY PROGRAM (the guide's laid-datum.mjs) off the statement by which the dump's own 'gosem.cut.vars' lays the variable. In a bare row this is a premise. The card (YbulkryuDoorCards.lean) ties it to the program's text. -/
def laid_io_EOF {H : Type} : DataW H := .iface "*errors.errorString" (.ptr (.agg [.lit (.string [69, 79, 70])]))

/-- 'skua.LawS0917ADrain': WHATEVER THE INPUT: true; the input reads as it did. -/
def lawS0917ADrainSpec : ChangeSpec := { name := "lawS0917ADrain", fn := fun _ => fun
  | [d1, d2] => { results := [.lit (.bool true)], args := [d1, d2] }
  | _ => none }
def lawS0917ADrainRow : OpenClaim := { program := "ybulkryudoor", sum := "29804b4842c9c4da04a23304729da41b19b199c0573ddf43e3ff431c42c6cd80", func := "example.com/skua/skua.LawS0917ADrain", spec := "lawS0917ADrain", unfollowed := true, recurses := true, named := ["io.EOF"], apart := false, laid := [("io.EOF", laid_io_EOF)] }
def LawS0917ADrainSaid : Prop := lawS0917ADrainRow.holds Ybad.pinned (OpenSpec.ofChange lawS0917ADrainSpec)

/-- ITS FALSE NEIGHBOUR: 'it returns false'. Refute it at one input. -/
def lawS0917ADrainWrong : ChangeSpec := { name := "lawS0917ADrain", fn := fun _ => fun
  | [d1, d2] => { results := [.lit (.bool false)], args := [d1, d2] }
  | _ => none }
def LawS0917ADrainWrongFalsely : Prop := lawS0917ADrainRow.holds Ybad.pinned (OpenSpec.ofChange lawS0917ADrainWrong)

/-- 'skua.LawS0917AZero': WHATEVER THE INPUT: true; the input reads as it did. -/
def lawS0917AZeroSpec : ChangeSpec := { name := "lawS0917AZero", fn := fun _ => fun
  | [d1, d2] => { results := [.lit (.bool true)], args := [d1, d2] }
  | _ => none }
def lawS0917AZeroRow : OpenClaim := { program := "ybulkryudoor", sum := "29804b4842c9c4da04a23304729da41b19b199c0573ddf43e3ff431c42c6cd80", func := "example.com/skua/skua.LawS0917AZero", spec := "lawS0917AZero", unfollowed := true, recurses := true, named := ["io.EOF"], apart := false, laid := [("io.EOF", laid_io_EOF)] }
def LawS0917AZeroSaid : Prop := lawS0917AZeroRow.holds Ybad.pinned (OpenSpec.ofChange lawS0917AZeroSpec)

/-- ITS FALSE NEIGHBOUR: 'it returns false'. Refute it at one input. -/
def lawS0917AZeroWrong : ChangeSpec := { name := "lawS0917AZero", fn := fun _ => fun
  | [d1, d2] => { results := [.lit (.bool false)], args := [d1, d2] }
  | _ => none }
def LawS0917AZeroWrongFalsely : Prop := lawS0917AZeroRow.holds Ybad.pinned (OpenSpec.ofChange lawS0917AZeroWrong)

end Rows
end Go.Proofs.YbulkryuDoor
