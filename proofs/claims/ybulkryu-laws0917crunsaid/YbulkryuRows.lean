/-
  No cell of these rows narrows 'for every input' (looked for: loops, veiled, ifaces, maps, wideKeys, modest, calm, conditions, laid).
  DERIVED. THE GIVEN ROWS OF THIS SEAT. 2 by the template 'for every input the law returns true; each argument reads behind the call as it read before'; 0 by the template 'total and deterministic' (their statements: YbulkryuTotals.lean).
  GIVEN WITH THE SEED: the statements are not yours to turn. If you find one false, say at which input.
  Laid BY PROGRAM, IN A SANDBOX (cutbox-rows.mjs): the forced cells as the released guide's own fill.sh prints them over the translation e40c4453c380e9e4… (all of the seat's roots in one cut). By AI agents, Wed Nov 11 2026. No macro, syntax, notation, axiom, sorry.
-/
import Derived.Test.YbulkryuChecked
import GoSem.Claim
import GoSem.ClaimJoined
import GoSem.ClaimMapViews
import Derived.JoinedTies
import Derived.KernelRfl
namespace Go.Proofs.Ybulkryu
/- THE CELL 'sum', in the pinned program and in every row, IS THE sha256 OF THE DUMP (.gsa) THAT YbulkryuProg.lean LOADS. Nothing in Lean hashes anything: it is a label: what it is worth is what the hold of that sum in a sandbox is worth. -/
noncomputable def Yba.pinned : Pinned := { name := "ybulkryu", sum := "e40c4453c380e9e410f6802b472f6d8bf896cb3bed38a80a15dde83aa24279ab", checked := Yba.checked }
namespace Rows
def none {H : Type} : Left H := { results := [], args := [] }

/-- 'skua.LawS0917BEnd': WHATEVER THE INPUT: true; the input reads as it did. -/
def lawS0917BEndSpec : ChangeSpec := { name := "lawS0917BEnd", fn := fun _ => fun
  | [d1, d2, d3, d4, d5, d6, d7] => { results := [.lit (.bool true)], args := [d1, d2, d3, d4, d5, d6, d7] }
  | _ => none }
def lawS0917BEndRow : OpenClaim := { program := "ybulkryu", sum := "e40c4453c380e9e410f6802b472f6d8bf896cb3bed38a80a15dde83aa24279ab", func := "example.com/skua/skua.LawS0917BEnd", spec := "lawS0917BEnd", inPlace := ["sync/atomic.LoadUint32", "sync/atomic.LoadPointer"], unfollowed := true, recurses := true, apart := false }
def LawS0917BEndSaid : Prop := lawS0917BEndRow.holds Yba.pinned (OpenSpec.ofChange lawS0917BEndSpec)

/-- ITS FALSE NEIGHBOUR: 'it returns false'. Refute it at one input. -/
def lawS0917BEndWrong : ChangeSpec := { name := "lawS0917BEnd", fn := fun _ => fun
  | [d1, d2, d3, d4, d5, d6, d7] => { results := [.lit (.bool false)], args := [d1, d2, d3, d4, d5, d6, d7] }
  | _ => none }
def LawS0917BEndWrongFalsely : Prop := lawS0917BEndRow.holds Yba.pinned (OpenSpec.ofChange lawS0917BEndWrong)

/-- 'skua.LawS0917CRun': WHATEVER THE INPUT: true; the input reads as it did. -/
def lawS0917CRunSpec : ChangeSpec := { name := "lawS0917CRun", fn := fun _ => fun
  | [d1, d2, d3, d4, d5] => { results := [.lit (.bool true)], args := [d1, d2, d3, d4, d5] }
  | _ => none }
def lawS0917CRunRow : OpenClaim := { program := "ybulkryu", sum := "e40c4453c380e9e410f6802b472f6d8bf896cb3bed38a80a15dde83aa24279ab", func := "example.com/skua/skua.LawS0917CRun", spec := "lawS0917CRun", inPlace := ["sync/atomic.StoreUint32", "sync/atomic.LoadUint32", "sync/atomic.OrUint32", "sync/atomic.CompareAndSwapUint32", "sync/atomic.LoadPointer", "(*internal/sync.Mutex).Lock", "internal/race.Disable", "sync/atomic.CompareAndSwapInt32", "internal/race.Enable", "internal/race.Acquire", "(*internal/sync.Mutex).lockSlow", "internal/sync.runtime_canSpin", "internal/sync.runtime_doSpin", "internal/sync.throw", "internal/sync.runtime_nanotime", "internal/sync.runtime_SemacquireMutex", "sync/atomic.AddInt32", "(*sync.Cond).Signal", "(*sync.copyChecker).check", "sync.runtime_notifyListNotifyOne", "(*internal/sync.Mutex).Unlock", "internal/race.ReleaseMerge", "(*internal/sync.Mutex).unlockSlow", "internal/sync.fatal", "internal/sync.runtime_Semrelease"], unfollowed := true, recurses := true, apart := false }
def LawS0917CRunSaid : Prop := lawS0917CRunRow.holds Yba.pinned (OpenSpec.ofChange lawS0917CRunSpec)

/-- ITS FALSE NEIGHBOUR: 'it returns false'. Refute it at one input. -/
def lawS0917CRunWrong : ChangeSpec := { name := "lawS0917CRun", fn := fun _ => fun
  | [d1, d2, d3, d4, d5] => { results := [.lit (.bool false)], args := [d1, d2, d3, d4, d5] }
  | _ => none }
def LawS0917CRunWrongFalsely : Prop := lawS0917CRunRow.holds Yba.pinned (OpenSpec.ofChange lawS0917CRunWrong)

end Rows
end Go.Proofs.Ybulkryu
