import Derived.Test.YbulksbmBase
namespace Go.Proofs.Ybulksbm
open Go.RowKit

set_option maxHeartbeats 4000000 in
set_option maxRecDepth 100000 in
theorem law_big (w : World) (sel hp p0 : Int) (ba : Option Addr) (nb cb : Nat) (la : Option Addr) (n cl : Nat) (pa : Option Addr) (m cp : Nat) (ea : Option Addr) (ne ce : Nat) (start own : Int)
    (h : 1024 < nb ∨ 1024 < n ∨ 1024 < m ∨ 1024 < ne) :
    Calls Yba.prog 4 #[.int .u8 sel, .int .i8 hp, .int .i8 p0, .slice ba nb cb, .slice la n cl, .slice pa m cp, .slice ea ne ce, .int .i64 start, .int .i64 own] w fun e w' => e = .returned (.bool true) ∧ Below w.heap.size w w' := by
  by_cases h1 : 1024 < nb
  · have b1 : decide ((1024 : Int) < (nb : Int)) = true := decide_eq_true (by omega)
    go_enter Yba.func4, Yba.ntmps4
    go_wp2_with fail
    go_ret
    exact ⟨rfl, Below.refl _ _⟩
  · have b1 : decide ((1024 : Int) < (nb : Int)) = false := decide_eq_false (by omega)
    by_cases h2 : 1024 < n
    · have b2 : decide ((1024 : Int) < (n : Int)) = true := decide_eq_true (by omega)
      go_enter Yba.func4, Yba.ntmps4
      go_wp2_with fail
      go_ret
      exact ⟨rfl, Below.refl _ _⟩
    · have b2 : decide ((1024 : Int) < (n : Int)) = false := decide_eq_false (by omega)
      by_cases h3 : 1024 < m
      · have b3 : decide ((1024 : Int) < (m : Int)) = true := decide_eq_true (by omega)
        go_enter Yba.func4, Yba.ntmps4
        go_wp2_with fail
        go_ret
        exact ⟨rfl, Below.refl _ _⟩
      · have b3 : decide ((1024 : Int) < (m : Int)) = false := decide_eq_false (by omega)
        have b4 : decide ((1024 : Int) < (ne : Int)) = true := decide_eq_true (by omega)
        go_enter Yba.func4, Yba.ntmps4
        go_wp2_with fail
        go_ret
        exact ⟨rfl, Below.refl _ _⟩
end Go.Proofs.Ybulksbm
