import Derived.Test.YbulkryuChecked
import Derived.WalkKit
import Derived.WalkLawsBesides
import Derived.Laws.EntriesVeiled
import Derived.Lib.IfaceEq
import Derived.LaidEql
import Derived.LaidEqlPtr
namespace Go.Proofs.Ybulkryu
open Go.RowKit

/-- sync/atomic.LoadPointer, one goroutine. -/
theorem run_load_ptr {a : Addr} {p : Option Addr} {w : World} (hc : w.cell? a = some (.pointer p)) : (callFunc 15 #[.pointer (some a)]).run Yba.prog w = .ok (.value (.pointer p)) w := by
  rw [run_callFunc_extern (P := Yba.prog) Yba.func15 (by kernel_rfl) (by kernel_rfl) (by kernel_rfl) (show Extern.find Yba.f15 = some (Extern.Atomic.loadT .ptr) by kernel_rfl)]
  change (Sem.run Yba.prog (do Extern.Atomic.read .ptr (← asAddr (.pointer (some a)))) w).andThen _ = _
  simp [Extern.Atomic.read, asAddr, hc, Result.andThen]

theorem run_load_u32 {a : Addr} {x : Int} {w : World} (hc : w.cell? a = some (.int .u32 x)) : (callFunc 14 #[.pointer (some a)]).run Yba.prog w = .ok (.value (.int .u32 x)) w :=
  run_call_load (P := Yba.prog) Yba.func14 (by kernel_rfl) (by kernel_rfl) (by kernel_rfl) .u32 (by kernel_rfl) hc

/-- (*atomic.Uint32).Load -/
theorem load_state (b o : Nat) (x : Int) (w : World) (hc : w.cell? ⟨b, o, none⟩ = some (.int .u32 x)) :
    Calls Yba.prog 8 #[.pointer (some ⟨b, o, none⟩)] w fun e w' => e = .returned (.int .u32 x) ∧ w' = w := by
  have hl := run_load_u32 hc
  go_enter Yba.func8, Yba.ntmps8
  go_wp2
  go_ret
  exact ⟨rfl, rfl⟩

theorem run_conv_nil (w : World) : (convert 31 29 (.pointer none)).run Yba.prog w = .ok (.pointer none) w := by kernel_rfl

/-- (*atomic.Pointer[waitRoom]).Load, nothing stored -/
theorem load_room (b o : Nat) (w : World) (hc : w.cell? ⟨b, o, none⟩ = some (.pointer none)) :
    Calls Yba.prog 9 #[.pointer (some ⟨b, o, none⟩)] w fun e w' => e = .returned (.pointer none) ∧ w' = w := by
  have hl := run_load_ptr hc
  have hcv := run_conv_nil w
  go_enter Yba.func9, Yba.ntmps9
  go_wp2
  go_ret
  exact ⟨rfl, rfl⟩

theorem neqFunc (fn : Fn) (x y : Array Value) (w : World) : (binOp .neq 34 (.func fn x y) .nilFunc).run Yba.prog w = .ok (.bool true) w := by
  have h : ∀ d : Nat, (Op.equalIn (d + 1) 34 (.func fn x y) .nilFunc).run Yba.prog w = .ok false w := fun d => by simp [Op.equalIn, run_underlying Yba.underlying34]
  simp only [binOp]
  simp [Op.equal, Op.maxDepth, h 9999]
theorem neqNilFunc (w : World) : (binOp .neq 34 .nilFunc .nilFunc).run Yba.prog w = .ok (.bool false) w := by
  have h : ∀ d : Nat, (Op.equalIn (d + 1) 34 .nilFunc .nilFunc).run Yba.prog w = .ok true w := fun d => by simp [Op.equalIn, run_underlying Yba.underlying34]
  simp only [binOp]
  simp [Op.equal, Op.maxDepth, h 9999]

/-- Two nil values of 'any', neither of them the literal. -/
theorem guardNil (i j : Nat) (w : World) : (eqGuard .eql 20 (.tmp i) (.tmp j) .nilIface .nilIface).run Yba.prog w = .ok () w := by
  have h : ∀ d : Nat, (Op.eqGuardIn (d + 1) 20 .nilIface .nilIface).run Yba.prog w = .ok false w := fun d => by simp [Op.eqGuardIn, run_underlying Yba.underlying20]
  have h' : (Op.eqGuardIn Op.maxDepth 20 .nilIface .nilIface).run Yba.prog w = .ok false w := h 9999
  simp [eqGuard, h']
end Go.Proofs.Ybulkryu
