/-
  No cell of these rows narrows 'for every input' (looked for: loops, veiled, ifaces, maps, wideKeys, modest, calm, conditions, laid).
  DERIVED. THE GIVEN ROWS OF THIS SEAT. 1 by the template 'for every input the law returns true; each argument reads behind the call as it read before'; 0 by the template 'total and deterministic' (their statements: YbulksbmFmtTotals.lean).
  GIVEN WITH THE SEED: the statements are not yours to turn. If you find one false, say at which input.
  Laid BY PROGRAM, IN A SANDBOX (cutbox-rows.mjs): the forced cells as the released guide's own fill.sh prints them over the translation eb6ad2f903baf0fc… (all of the seat's roots in one cut). By AI agents, Wed Nov 11 2026. No macro, syntax, notation, axiom, sorry.
-/
import Derived.Test.YbulksbmFmtChecked
import GoSem.Claim
import GoSem.ClaimJoined
import GoSem.ClaimMapViews
import Derived.JoinedTies
import Derived.KernelRfl
namespace Go.Proofs.YbulksbmFmt
/- THE CELL 'sum', in the pinned program and in every row, IS THE sha256 OF THE DUMP (.gsa) THAT YbulksbmFmtProg.lean LOADS. Nothing in Lean hashes anything: it is a label: what it is worth is what the hold of that sum in a sandbox is worth. -/
noncomputable def Ybaf.pinned : Pinned := { name := "ybulksbmfmt", sum := "eb6ad2f903baf0fcecf73790d5b8a2cdc11c94e3db635a24e4ac64bb0a6229c8", checked := Ybaf.checked }
namespace Rows
def none {H : Type} : Left H := { results := [], args := [] }

/-- 'paxos.LawS0922CNamed': WHATEVER THE INPUT: true; the input reads as it did. -/
def lawS0922CNamedSpec : ChangeSpec := { name := "lawS0922CNamed", fn := fun _ => fun
  | [d1, d2, d3] => { results := [.lit (.bool true)], args := [d1, d2, d3] }
  | _ => none }
def lawS0922CNamedRow : OpenClaim := { program := "ybulksbmfmt", sum := "eb6ad2f903baf0fcecf73790d5b8a2cdc11c94e3db635a24e4ac64bb0a6229c8", func := "example.com/quorate/quorate/paxos.LawS0922CNamed", spec := "lawS0922CNamed", stops := ["fmt.Sprintf"], inPlace := ["fmt.Sprintf"], apart := false }
/-- NO THEOREM (fmt's text is open here; it may be false): for the released tool's asking of the row's closed facts alone. THE STATEMENT IS 'LawS0922CNamedToldSaid' (YbulksbmFmtCards.lean). -/
def LawS0922CNamedFormAsk : Prop := lawS0922CNamedRow.holds Ybaf.pinned (OpenSpec.ofChange lawS0922CNamedSpec)

/-- ITS FALSE NEIGHBOUR: 'it returns false'. Refute it at one input. -/
def lawS0922CNamedWrong : ChangeSpec := { name := "lawS0922CNamed", fn := fun _ => fun
  | [d1, d2, d3] => { results := [.lit (.bool false)], args := [d1, d2, d3] }
  | _ => none }
def LawS0922CNamedWrongFormAsk : Prop := lawS0922CNamedRow.holds Ybaf.pinned (OpenSpec.ofChange lawS0922CNamedWrong)

end Rows
end Go.Proofs.YbulksbmFmt
