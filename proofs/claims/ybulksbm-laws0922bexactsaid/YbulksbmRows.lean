/-
  No cell of these rows narrows 'for every input' (looked for: loops, veiled, ifaces, maps, wideKeys, modest, calm, conditions, laid).
  DERIVED. THE GIVEN ROWS OF THIS SEAT. 2 by the template 'for every input the law returns true; each argument reads behind the call as it read before'; 0 by the template 'total and deterministic' (their statements: YbulksbmTotals.lean).
  GIVEN WITH THE SEED: the statements are not yours to turn. If you find one false, say at which input.
  Laid BY PROGRAM, IN A SANDBOX (cutbox-rows.mjs): the forced cells as the released guide's own fill.sh prints them over the translation b3f15d73e20270d5… (all of the seat's roots in one cut). By AI agents, Wed Nov 11 2026. No macro, syntax, notation, axiom, sorry.
-/
import Derived.Test.YbulksbmChecked
import GoSem.Claim
import GoSem.ClaimJoined
import GoSem.ClaimMapViews
import Derived.JoinedTies
import Derived.KernelRfl
namespace Go.Proofs.Ybulksbm
/- THE CELL 'sum', in the pinned program and in every row, IS THE sha256 OF THE DUMP (.gsa) THAT YbulksbmProg.lean LOADS. Nothing in Lean hashes anything: it is a label: what it is worth is what the hold of that sum in a sandbox is worth. -/
noncomputable def Yba.pinned : Pinned := { name := "ybulksbm", sum := "b3f15d73e20270d53c794027caa957a56a1cf65b89954945d10fcb99e795e398", checked := Yba.checked }
namespace Rows
def none {H : Type} : Left H := { results := [], args := [] }

/-- 'mutex.LawS0922AWant': WHATEVER THE INPUT: true; the input reads as it did. -/
def lawS0922AWantSpec : ChangeSpec := { name := "lawS0922AWant", fn := fun _ => fun
  | [d1, d2, d3, d4, d5, d6, d7, d8, d9] => { results := [.lit (.bool true)], args := [d1, d2, d3, d4, d5, d6, d7, d8, d9] }
  | _ => none }
def lawS0922AWantRow : OpenClaim := { program := "ybulksbm", sum := "b3f15d73e20270d53c794027caa957a56a1cf65b89954945d10fcb99e795e398", func := "example.com/quorate/quorate/mutex.LawS0922AWant", spec := "lawS0922AWant", apart := false }
def LawS0922AWantSaid : Prop := lawS0922AWantRow.holds Yba.pinned (OpenSpec.ofChange lawS0922AWantSpec)

/-- ITS FALSE NEIGHBOUR: 'it returns false'. Refute it at one input. -/
def lawS0922AWantWrong : ChangeSpec := { name := "lawS0922AWant", fn := fun _ => fun
  | [d1, d2, d3, d4, d5, d6, d7, d8, d9] => { results := [.lit (.bool false)], args := [d1, d2, d3, d4, d5, d6, d7, d8, d9] }
  | _ => none }
def LawS0922AWantWrongFalsely : Prop := lawS0922AWantRow.holds Yba.pinned (OpenSpec.ofChange lawS0922AWantWrong)

/-- 'causal.LawS0922BExact': WHATEVER THE INPUT: true; the input reads as it did. -/
def lawS0922BExactSpec : ChangeSpec := { name := "lawS0922BExact", fn := fun _ => fun
  | [d1, d2, d3, d4, d5, d6, d7, d8, d9] => { results := [.lit (.bool true)], args := [d1, d2, d3, d4, d5, d6, d7, d8, d9] }
  | _ => none }
def lawS0922BExactRow : OpenClaim := { program := "ybulksbm", sum := "b3f15d73e20270d53c794027caa957a56a1cf65b89954945d10fcb99e795e398", func := "example.com/quorate/quorate/causal.LawS0922BExact", spec := "lawS0922BExact", apart := false }
def LawS0922BExactSaid : Prop := lawS0922BExactRow.holds Yba.pinned (OpenSpec.ofChange lawS0922BExactSpec)

/-- ITS FALSE NEIGHBOUR: 'it returns false'. Refute it at one input. -/
def lawS0922BExactWrong : ChangeSpec := { name := "lawS0922BExact", fn := fun _ => fun
  | [d1, d2, d3, d4, d5, d6, d7, d8, d9] => { results := [.lit (.bool false)], args := [d1, d2, d3, d4, d5, d6, d7, d8, d9] }
  | _ => none }
def LawS0922BExactWrongFalsely : Prop := lawS0922BExactRow.holds Yba.pinned (OpenSpec.ofChange lawS0922BExactWrong)

end Rows
end Go.Proofs.Ybulksbm
