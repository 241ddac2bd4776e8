import Derived.Test.YbulkryuAtomics
namespace Go.Proofs.Ybulkryu
open Go.RowKit

theorem eqlInt (a b : Int) (w : World) : (binOp .eql 20 (.iface 3 (.int .i64 a)) (.iface 3 (.int .i64 b))).run Yba.prog w = .ok (.bool (a == b)) w :=
  Lib.run_eql_iface_int w a b Yba.underlying20 (by kernel_rfl) Yba.underlying3

set_option maxRecDepth 100000 in
set_option maxHeartbeats 2000000 in
/-- There is an iterator. -/
theorem end_next (a1 a2 : Bool) (a3 a4 a5 a6 : Int) (w : World) :
    Calls Yba.prog 3 #[.bool true, .bool a1, .bool a2, .int .i64 a3, .int .i64 a4, .int .i64 a5, .int .i64 a6] w fun e w' => e = .returned (.bool true) ∧ Grown w w' := by
  have hmf : ∀ (fn : Fn) (first cap : Array Value) (w : World), (Instr.makeFunc fn first cap).run Yba.prog w = .ok (.func fn first cap) w := fun _ _ _ _ => rfl
  have he := eqlInt
  have hgn := guardNil
  have hf1 := neqFunc
  cases a1 <;> cases a2
  all_goals
    go_enter Yba.func3, Yba.ntmps3
    go_wp2
    go_end0
    go_wp2_with fail
    refine (load_state _ _ 0 _ ?_).mono ?_
    · simp [go_sem]
    rintro e w' ⟨rfl, rfl⟩
    go_wp2_with fail
    refine (load_room _ _ _ ?_).mono ?_
    · simp [go_sem]
    rintro e w' ⟨rfl, rfl⟩
    go_wp2
    go_ret
    exact ⟨rfl, by repeat (first | exact Grown.refl _ | apply Grown.drew | apply Grown.alloc)⟩

set_option maxRecDepth 100000 in
set_option maxHeartbeats 2000000 in
/-- There is none. -/
theorem end_none (a1 a2 : Bool) (a3 a4 a5 a6 : Int) (w : World) :
    Calls Yba.prog 3 #[.bool false, .bool a1, .bool a2, .int .i64 a3, .int .i64 a4, .int .i64 a5, .int .i64 a6] w fun e w' => e = .returned (.bool true) ∧ Grown w w' := by
  have he := eqlInt
  have hgn := guardNil
  have hf2 := neqNilFunc
  cases a1 <;> cases a2
  all_goals
    go_enter Yba.func3, Yba.ntmps3
    go_wp2_with (first | (go_at_call 7; go_in))
    refine (load_state _ _ 0 _ ?_).mono ?_
    · simp [go_sem]
    rintro e w' ⟨rfl, rfl⟩
    go_wp2_with fail
    refine (load_room _ _ _ ?_).mono ?_
    · simp [go_sem]
    rintro e w' ⟨rfl, rfl⟩
    go_wp2
    go_ret
    exact ⟨rfl, by repeat (first | exact Grown.refl _ | apply Grown.drew | apply Grown.alloc)⟩
end Go.Proofs.Ybulkryu
