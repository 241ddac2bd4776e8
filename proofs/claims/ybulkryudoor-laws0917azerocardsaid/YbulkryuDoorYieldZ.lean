import Derived.Test.YbulkryuDoorBase
namespace Go.Proofs.YbulkryuDoor
open Go.RowKit

/-- Zero's captured variables: the next chunk, the calls. -/
structure EnvZ (D : Nat) (w : World) (i c : Nat) : Prop where
  idx : w.heap[D]? = some (.cells #[.int .i64 i] 3 (0, 0))
  calls : w.heap[D + 1]? = some (.cells #[.int .i64 c] 3 (0, 0))

theorem yieldZ_more_cells (w : World) (D cb b off n cap i c : Nat) (p : Option Addr) (pl pc : Nat) (e : Bool) (hD : D + 1 < w.heap.size) (hcb : cb < D) (hb : b < D) (hi : i < n) (hn : n ≤ 256) (hc : c ≤ 300)
    (h1 : w.cell? ⟨cb, 0, none⟩ = some (.slice (some ⟨b, off, none⟩) n cap))
    (h2 : w.cell? ⟨D, 0, none⟩ = some (.int .i64 i)) (h3 : w.cell? ⟨D + 1, 0, none⟩ = some (.int .i64 c))
    (f2 : w.frozen? ⟨D, 0, none⟩ = false) (f3 : w.frozen? ⟨D + 1, 0, none⟩ = false)
    (h6 : w.cell? ⟨b, off + i * 2, none⟩ = some (.slice p pl pc)) (h7 : w.cell? ⟨b, off + i * 2 + 1, none⟩ = some (.bool e)) :
    Calls Ybad.prog 8 #[.agg #[.int .i64 0, .nilIface], .pointer (some ⟨D + 1, 0, none⟩), .pointer (some ⟨D, 0, none⟩), .pointer (some ⟨cb, 0, none⟩)] w
      fun e' w' => e' = .returned (.agg #[.slice p pl pc, .bool e]) ∧ w' = ((((w.setCell ⟨D + 1, 0, none⟩ (.int .i64 (c + 1))).setCell ⟨D, 0, none⟩ (.int .i64 (i + 1))).alloc
        (.cells #[.int .i64 0, .nilIface] 29)).alloc (.cells #[.slice p pl pc, .bool e] 31)).alloc (.cells #[.slice p pl pc, .bool e] 25) := by
  have s0 : D < w.heap.size := by omega
  have s4 : cb < w.heap.size := by omega
  have s5 : b < w.heap.size := by omega
  have g1 : ¬ cb = D := by omega
  have g2 : ¬ b = D := by omega
  have g3 : ¬ cb = D + 1 := by omega
  have g4 : ¬ b = D + 1 := by omega
  have s1a : D < w.heap.size + 1 := by omega
  have s2a : D < w.heap.size + 1 + 1 := by omega
  have s1b : D + 1 < w.heap.size + 1 := by omega
  have s2b : D + 1 < w.heap.size + 1 + 1 := by omega
  have s1d : cb < w.heap.size + 1 := by omega
  have s2d : cb < w.heap.size + 1 + 1 := by omega
  have s1e : b < w.heap.size + 1 := by omega
  have s2e : b < w.heap.size + 1 + 1 := by omega
  go_enter Ybad.func8, Ybad.ntmps8
  go_wp2
  exact bodyPost_ret (v := .agg #[.slice p pl pc, .bool e]) (by simp [results, Ybad.results8, go_sem]) rfl ⟨rfl, rfl⟩

theorem yieldZ_last_cells (w : World) (D cb n cap i c : Nat) (a : Option Addr) (hD : D + 1 < w.heap.size) (hcb : cb < D) (hi : n ≤ i) (_hn : n ≤ 256) (hc : c ≤ 300)
    (h1 : w.cell? ⟨cb, 0, none⟩ = some (.slice a n cap))
    (h2 : w.cell? ⟨D, 0, none⟩ = some (.int .i64 i)) (h3 : w.cell? ⟨D + 1, 0, none⟩ = some (.int .i64 c))
    (f3 : w.frozen? ⟨D + 1, 0, none⟩ = false) :
    Calls Ybad.prog 8 #[.agg #[.int .i64 0, .nilIface], .pointer (some ⟨D + 1, 0, none⟩), .pointer (some ⟨D, 0, none⟩), .pointer (some ⟨cb, 0, none⟩)] w
      fun e' w' => e' = .returned (.agg #[.slice none 0 0, .bool true]) ∧ w' = ((w.setCell ⟨D + 1, 0, none⟩ (.int .i64 (c + 1))).alloc
        (.cells #[.int .i64 0, .nilIface] 29)).alloc (.cells #[.slice none 0 0, .bool true] 31) := by
  have s0 : D < w.heap.size := by omega
  have s4 : cb < w.heap.size := by omega
  have g3 : ¬ cb = D + 1 := by omega
  have s1a : D < w.heap.size + 1 := by omega
  have s1b : D + 1 < w.heap.size + 1 := by omega
  have s1d : cb < w.heap.size + 1 := by omega
  go_enter Ybad.func8, Ybad.ntmps8
  go_wp2
  exact bodyPost_ret (v := .agg #[.slice none 0 0, .bool true]) (by simp [results, Ybad.results8, go_sem]) rfl ⟨rfl, rfl⟩

/-- Zero's yield while a chunk is left. -/
theorem yieldZ_more {w : World} {D cb : Nat} {cv : Value} {C : List (List Int × Bool)} {i c : Nat} {ch : List Int × Bool} (hC : Chunks D cb w cv C) (hE : EnvZ D w i c) (hi : C[i]? = some ch) (hc : c ≤ 300) :
    Calls Ybad.prog 8 #[.agg #[.int .i64 0, .nilIface], .pointer (some ⟨D + 1, 0, none⟩), .pointer (some ⟨D, 0, none⟩), .pointer (some ⟨cb, 0, none⟩)] w
      fun e w' => ∃ p cp, e = .returned (.agg #[.slice p ch.1.length cp, .bool ch.2]) ∧ Bytes D w (.slice p ch.1.length cp) ch.1 ∧ EnvZ D w' (i + 1) (c + 1) ∧ Kept D 2 w w' := by
  obtain ⟨hcb, hbox, hsm, a, cap, rfl, hcells⟩ := hC
  have hilt : i < C.length := (List.getElem?_eq_some_iff.1 hi).1
  obtain ⟨b, off, rfl, hb, hcl⟩ := hcells (by omega)
  obtain ⟨p, cp, h6, h7, hby⟩ := hcl i ch hi
  have hsz := lt_of_block hE.calls
  refine (yieldZ_more_cells w D cb b off C.length cap i c p ch.1.length cp ch.2 hsz hcb hb hilt hsm hc (cell_of_one hbox) (cell_of_one hE.idx) (cell_of_one hE.calls)
    (free_of_one hE.idx) (free_of_one hE.calls) h6 h7).mono ?_
  rintro e w' ⟨rfl, rfl⟩
  refine ⟨p, cp, rfl, hby, ⟨?_, ?_⟩, ?_⟩
  · exact blk_alloc (blk_alloc (blk_alloc (one_setCell (blk_other hE.idx (by simp)))))
  · exact blk_alloc (blk_alloc (blk_alloc (blk_other (one_setCell hE.calls) (by simp))))
  · exact (((((Kept.refl D 2 w).setCell (by simp) (by simp) _).setCell (by simp) (by simp) _).alloc _).alloc _).alloc _

/-- Zero's yield when no chunk is left. -/
theorem yieldZ_last {w : World} {D cb : Nat} {cv : Value} {C : List (List Int × Bool)} {i c : Nat} (hC : Chunks D cb w cv C) (hE : EnvZ D w i c) (hi : C.length ≤ i) (hc : c ≤ 300) :
    Calls Ybad.prog 8 #[.agg #[.int .i64 0, .nilIface], .pointer (some ⟨D + 1, 0, none⟩), .pointer (some ⟨D, 0, none⟩), .pointer (some ⟨cb, 0, none⟩)] w
      fun e w' => e = .returned (.agg #[.slice none 0 0, .bool true]) ∧ EnvZ D w' i (c + 1) ∧ Kept D 2 w w' := by
  obtain ⟨hcb, hbox, hsm, a, cap, rfl, _⟩ := hC
  have hsz := lt_of_block hE.calls
  refine (yieldZ_last_cells w D cb C.length cap i c a hsz hcb hi hsm hc (cell_of_one hbox) (cell_of_one hE.idx) (cell_of_one hE.calls) (free_of_one hE.calls)).mono ?_
  rintro e w' ⟨rfl, rfl⟩
  refine ⟨rfl, ⟨?_, ?_⟩, ?_⟩
  · exact blk_alloc (blk_alloc (blk_other hE.idx (by simp)))
  · exact blk_alloc (blk_alloc (one_setCell hE.calls))
  · exact (((Kept.refl D 2 w).setCell (by simp) (by simp) _).alloc _).alloc _
end Go.Proofs.YbulkryuDoor
