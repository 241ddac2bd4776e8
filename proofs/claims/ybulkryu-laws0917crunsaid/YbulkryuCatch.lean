import Derived.Test.YbulkryuF
import Derived.Defers
import Derived.Recover
namespace Go.Proofs.Ybulkryu
open Go.RowKit

theorem Yba.comp63 : (Yba.prog.info? 63).map (·.comparable) = some true := by kernel_rfl
theorem Yba.comp58 : (Yba.prog.info? 58).map (·.comparable) = some true := by kernel_rfl
theorem Yba.some36 : (Yba.prog.info? 36).isSome = true := by kernel_rfl
theorem Yba.some3 : (Yba.prog.info? 3).isSome = true := by kernel_rfl
theorem u63 : Yba.prog.underlying 63 = some (.pointer 36) := Yba.underlying63
theorem u58 : Yba.prog.underlying 58 = some (.pointer 3) := Yba.underlying58

theorem eqIn63 (a : Addr) (w : World) (d : Nat) : (Op.equalIn (d + 2) 20 (.iface 63 (.pointer (some a))) (.iface 63 (.pointer (some a)))).run Yba.prog w = .ok true w := by
  obtain ⟨i, hi, hc⟩ := Option.map_eq_some_iff.1 Yba.comp63
  obtain ⟨j, hj⟩ := Option.isSome_iff_exists.1 Yba.some36
  exact run_equalIn_iface_ptr_same w d a Yba.underlying20 u63 hi hc hj
theorem eqIn58 (a : Addr) (w : World) (d : Nat) : (Op.equalIn (d + 2) 20 (.iface 58 (.pointer (some a))) (.iface 58 (.pointer (some a)))).run Yba.prog w = .ok true w := by
  obtain ⟨i, hi, hc⟩ := Option.map_eq_some_iff.1 Yba.comp58
  obtain ⟨j, hj⟩ := Option.isSome_iff_exists.1 Yba.some3
  exact run_equalIn_iface_ptr_same w d a Yba.underlying20 u58 hi hc hj

theorem neq63 (a : Addr) (w : World) : (binOp .neq 20 (.iface 63 (.pointer (some a))) (.iface 63 (.pointer (some a)))).run Yba.prog w = .ok (.bool false) w := by
  simp only [binOp]
  simp [Op.equal, Op.maxDepth, eqIn63 a w 9998]
theorem eql63 (a : Addr) (w : World) : (binOp .eql 20 (.iface 63 (.pointer (some a))) (.iface 63 (.pointer (some a)))).run Yba.prog w = .ok (.bool true) w := by
  simp only [binOp]
  simp [Op.equal, Op.maxDepth, eqIn63 a w 9998]
theorem eql58 (a : Addr) (w : World) : (binOp .eql 20 (.iface 58 (.pointer (some a))) (.iface 58 (.pointer (some a)))).run Yba.prog w = .ok (.bool true) w := by
  simp only [binOp]
  simp [Op.equal, Op.maxDepth, eqIn58 a w 9998]
theorem neq5863 (x y : Value) (w : World) : (binOp .neq 20 (.iface 58 x) (.iface 63 y)).run Yba.prog w = .ok (.bool true) w := by
  have h : ∀ d : Nat, (Op.equalIn (d + 1) 20 (.iface 58 x) (.iface 63 y)).run Yba.prog w = .ok false w := fun d => by simp [Op.equalIn, run_underlying Yba.underlying20]
  simp only [binOp]
  simp [Op.equal, Op.maxDepth, h 9999]

theorem frame17 (x y v : Value) : (#[x, y] ++ ((Array.replicate 37 undef).setIfInBounds 2 v).setIfInBounds 0 v : Array Value) = #[x, y, v, undef, v, undef, undef, undef, undef, undef, undef, undef, undef, undef, undef, undef, undef, undef, undef, undef, undef, undef, undef, undef, undef, undef, undef, undef, undef, undef, undef, undef, undef, undef, undef, undef, undef, undef, undef] := by kernel_rfl

set_option maxHeartbeats 1000000 in
theorem catch_mark {B : Nat} {w : World} (c8 : w.cell? ⟨B + 8, 0, none⟩ = some (.pointer (some ⟨B + 5, 0, none⟩))) (pan : Value) (c7 : w.cell? ⟨B + 5, 7, none⟩ = some pan) (f7 : w.frozen? ⟨B + 5, 7, none⟩ = false) :
    CallsD Yba.prog 17 #[.pointer (some ⟨B + 8, 0, none⟩), .pointer (some ⟨B + 10, 0, none⟩)] (.panicking [{ v := .iface 58 (.pointer (some ⟨B + 3, 0, none⟩)), recovered := false }]) w fun e u' w' =>
      e = .returned (.tuple #[]) ∧ u' = .panicking [{ v := .iface 58 (.pointer (some ⟨B + 3, 0, none⟩)), recovered := true }] ∧ w' = w.setCell ⟨B + 5, 7, none⟩ (.iface 58 (.pointer (some ⟨B + 3, 0, none⟩))) := by
  have hn := neq5863
  refine callsD_of_wpS Yba.func17 rfl fun c₀ cs hu => ?_
  apply wpS_seq
  apply wpS_region
  simp [wpOpsS, go_sem, recoverD, hu, Yba.ntmps17, Exit.thenS]
  rw [frame17]
  refine wpS_of_wp ?_
  go_wp2
  exact ⟨rfl, _, rfl, .tuple #[], results_none rfl _ _ _, rfl, rfl, rfl⟩

set_option maxHeartbeats 1000000 in
theorem catch_cancel0 {B : Nat} {w : World} (c8 : w.cell? ⟨B + 8, 0, none⟩ = some (.pointer (some ⟨B + 5, 0, none⟩))) (c1 : w.cell? ⟨B + 5, 1, none⟩ = some (.int .u32 0)) (pan : Value) (c7 : w.cell? ⟨B + 5, 7, none⟩ = some pan) (f7 : w.frozen? ⟨B + 5, 7, none⟩ = false) :
    CallsD Yba.prog 17 #[.pointer (some ⟨B + 8, 0, none⟩), .pointer (some ⟨B + 10, 0, none⟩)] (.panicking [{ v := .iface 63 (.pointer (some ⟨B + 5, 8, none⟩)), recovered := false }]) w fun e u' w' =>
      e = .returned (.tuple #[]) ∧ u' = .panicking [{ v := .iface 63 (.pointer (some ⟨B + 5, 8, none⟩)), recovered := true }] ∧ w' = w.setCell ⟨B + 5, 7, none⟩ (.iface 63 (.pointer (some ⟨B + 5, 8, none⟩))) := by
  have hn := neq63
  have hb := and02
  refine callsD_of_wpS Yba.func17 rfl fun c₀ cs hu => ?_
  apply wpS_seq
  apply wpS_region
  simp [wpOpsS, go_sem, recoverD, hu, Yba.ntmps17, Exit.thenS]
  rw [frame17]
  refine wpS_of_wp ?_
  go_wp2_with fail
  refine (load_state _ _ 0 _ c1).mono ?_
  rintro e w' ⟨rfl, rfl⟩
  go_wp2
  exact ⟨rfl, _, rfl, .tuple #[], results_none rfl _ _ _, rfl, rfl, rfl⟩

set_option maxHeartbeats 1000000 in
theorem catch_cancel2 {B : Nat} {w : World} (c8 : w.cell? ⟨B + 8, 0, none⟩ = some (.pointer (some ⟨B + 5, 0, none⟩))) (c1 : w.cell? ⟨B + 5, 1, none⟩ = some (.int .u32 2)) :
    CallsD Yba.prog 17 #[.pointer (some ⟨B + 8, 0, none⟩), .pointer (some ⟨B + 10, 0, none⟩)] (.panicking [{ v := .iface 63 (.pointer (some ⟨B + 5, 8, none⟩)), recovered := false }]) w fun e u' w' =>
      e = .returned (.tuple #[]) ∧ u' = .panicking [{ v := .iface 63 (.pointer (some ⟨B + 5, 8, none⟩)), recovered := true }] ∧ w' = w := by
  have hn := neq63
  have hb := and22
  refine callsD_of_wpS Yba.func17 rfl fun c₀ cs hu => ?_
  apply wpS_seq
  apply wpS_region
  simp [wpOpsS, go_sem, recoverD, hu, Yba.ntmps17, Exit.thenS]
  rw [frame17]
  refine wpS_of_wp ?_
  go_wp2_with fail
  refine (load_state _ _ 2 _ c1).mono ?_
  rintro e w' ⟨rfl, rfl⟩
  go_wp2
  exact ⟨rfl, _, rfl, .tuple #[], results_none rfl _ _ _, rfl, rfl, rfl⟩

set_option maxHeartbeats 1000000 in
theorem catch_idle {B : Nat} {w : World} (c10 : w.cell? ⟨B + 10, 0, none⟩ = some (.bool true)) :
    CallsD Yba.prog 17 #[.pointer (some ⟨B + 8, 0, none⟩), .pointer (some ⟨B + 10, 0, none⟩)] .returning w fun e u' w' => e = .returned (.tuple #[]) ∧ u' = .returning ∧ w' = w := by
  refine callsD_of_wpS Yba.func17 rfl fun c₀ cs hu => ?_
  apply wpS_seq
  apply wpS_region
  simp [wpOpsS, go_sem, recoverD, hu, Yba.ntmps17, Exit.thenS]
  rw [frame17]
  refine wpS_of_wp ?_
  go_wp2
  refine ⟨rfl, .returning, ?_, .tuple #[], results_none rfl _ _ _, rfl, rfl, rfl⟩
  cases c₀
  simp_all
end Go.Proofs.Ybulkryu
