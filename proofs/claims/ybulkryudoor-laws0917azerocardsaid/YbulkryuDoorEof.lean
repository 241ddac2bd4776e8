import Derived.Test.YbulkryuDoorBase
import Derived.LaidEql
namespace Go.Proofs.YbulkryuDoor
open Go.RowKit

theorem Ybad.comp41 : (Ybad.prog.info? 41).map (·.comparable) = some true := by kernel_rfl
theorem Ybad.some59 : (Ybad.prog.info? 59).isSome = true := by kernel_rfl

theorem eql_eof (a : Addr) (w : World) : (binOp .eql 27 (.iface 41 (.pointer (some a))) (.iface 41 (.pointer (some a)))).run Ybad.prog w = .ok (.bool true) w := by
  obtain ⟨i, hi, hc⟩ := Option.map_eq_some_iff.1 Ybad.comp41
  obtain ⟨j, hj⟩ := Option.isSome_iff_exists.1 Ybad.some59
  exact run_eql_iface_ptr_same w a Ybad.underlying27 Ybad.underlying41 hi hc hj
theorem neq_eof (a : Addr) (w : World) : (binOp .neq 27 (.iface 41 (.pointer (some a))) (.iface 41 (.pointer (some a)))).run Ybad.prog w = .ok (.bool false) w := by
  obtain ⟨i, hi, hc⟩ := Option.map_eq_some_iff.1 Ybad.comp41
  obtain ⟨j, hj⟩ := Option.isSome_iff_exists.1 Ybad.some59
  simp only [binOp]
  simp [Op.equal, Op.maxDepth, run_equalIn_iface_ptr_same w 9998 a Ybad.underlying27 Ybad.underlying41 hi hc hj]
theorem eql_nil_eof (v : Value) (w : World) : (binOp .eql 27 .nilIface (.iface 41 v)).run Ybad.prog w = .ok (.bool false) w :=
  run_eql_iface_nil_left w 41 v Ybad.underlying27
end Go.Proofs.YbulkryuDoor
