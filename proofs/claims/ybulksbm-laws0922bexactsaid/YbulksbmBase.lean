import Derived.Test.YbulksbmAfter
import Derived.Laws.CopyOwn
import Derived.Laws.MakeOwn
import Derived.Deep.OwnRows
namespace Go.Proofs.Ybulksbm
open Go.RowKit

/-- The copy of the base: nil, or a row of its own of numbers. -/
def BaseOk (bv : Value) (w : World) : Prop := bv = .slice none 0 0 ∨ ∃ Bb nb, bv = .slice (some ⟨Bb, 0, none⟩) nb nb ∧ nb ≤ 1024 ∧ Bb < w.heap.size ∧ ∀ j, j < nb → ∃ z, w.cell? ⟨Bb, j, none⟩ = some (.int .u32 z)

theorem BaseOk.below {bv : Value} {w w' : World} (h : BaseOk bv w) (hb : Below w.heap.size w w') : BaseOk bv w' := by
  rcases h with h | ⟨Bb, nb, h1, h2, h3, h4⟩
  · exact Or.inl h
  · refine Or.inr ⟨Bb, nb, h1, h2, Nat.lt_of_lt_of_le h3 hb.size, fun j hj => ?_⟩
    obtain ⟨z, hz⟩ := h4 j hj
    exact ⟨z, by rw [hb.cell (p := ⟨Bb, j, none⟩) h3]; exact hz⟩

theorem i88 : (Yba.prog.info? 88).map (fun i => (i.zero, i.size, i.bytes)) = some (some (.int .u32 0), 1, 4) := by kernel_rfl
theorem i92 : (Yba.prog.info? 92).map (fun i => (i.zero, i.size, i.bytes)) = some (some (.agg #[.int .i32 0, .int .u32 0]), 2, 8) := by kernel_rfl
theorem i95 : (Yba.prog.info? 95).map (fun i => (i.zero, i.size, i.bytes)) = some (some (.agg #[.int .i64 0, .int .i64 0]), 2, 16) := by kernel_rfl
theorem i109 : (Yba.prog.info? 109).map (fun i => (i.size, i.bytes)) = some (16, 280) := by kernel_rfl

/-- make of a slice of structs. -/
theorem make_pairs (t e : TypeId) (z : Value) (size bytes : Nat) (ht : Yba.prog.underlying t = some (.slice e)) (hi : (Yba.prog.info? e).map (fun i => (i.zero, i.size, i.bytes)) = some (some z, size, bytes)) (n : Nat) (hn : bytes * n ≤ 281474976710656) (hn2 : n ≤ 1024) (zc : Array Value) (hzc : z.cells = zc) (N : Nat) (hN : n * size = N) (w : World) :
    (Instr.makeSlice t (.int .i64 (n : Int)) (.int .i64 (n : Int))).run Yba.prog w = .ok (.slice (some ⟨w.heap.size, 0, none⟩) n n) (w.alloc (.cells (madeCells zc N) e)) := by
  subst hzc
  subst hN
  obtain ⟨i, hi1, hi2⟩ := Option.map_eq_some_iff.1 hi
  simp only [Prod.mk.injEq] at hi2
  obtain ⟨h1, h2, h3⟩ := hi2
  have hb : (i.bytes : Int) * (n : Int) ≤ 281474976710656 := by
    rw [h3, ← Int.natCast_mul]; omega
  have := run_make (P := Yba.prog) w t e i z ht hi1 h1 .i64 .i64 n n (by omega) (Int.le_refl _) hb (by omega)
  simpa [h2] using this
end Go.Proofs.Ybulksbm
