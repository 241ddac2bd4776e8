import Derived.Test.YbulksbmRows
import Derived.Test.YbulksbmLaw
import Derived.Test.YbulksbmBig
import Derived.ProofKit
import Derived.OpenShut
import Derived.ChangeSlices
import Derived.Deep.SlicePairs
namespace Go.Proofs.Ybulksbm
open Go.ChangeShapes Go.WideShapes Go.ChangeAt Go.RowKit Go.Deep

theorem own : ownKnob Yba.prog.godebug = none := by kernel_rfl
theorem laidOut : laidOutB Yba.prog = true := by kernel_rfl

theorem open_base {H : Type} {enc : TypeId × Value → H} {W : World} {a0 : Option Addr} {len0 cap0 : Nat} {d0 : DataW H} {p0 : List MemPlace} (h0 : DataW.Trod enc Yba.prog W 0 (fun _ => true) true 84 (.slice a0 len0 cap0) d0 p0) :
    ∃ bz : Nat → Int, (a0 = none ∧ len0 = 0 ∧ cap0 = 0) ∨ ∃ a, a0 = some a ∧ ∀ j, j < len0 → W.cell? (a.add j) = some (.int .u32 (bz j)) := by
  obtain ⟨fuel, hf⟩ := h0
  rcases open_ints Yba.underlying84 Yba.underlying88 (by kernel_rfl) hf with ⟨hcs, _⟩ | ⟨a, len, cap, zs, hcs, _, hl, hm, hz, hx, hcell, hwf⟩
  · simp [Value.cells] at hcs
    exact ⟨fun _ => 0, Or.inl hcs⟩
  · simp [Value.cells] at hcs
    obtain ⟨rfl, rfl, rfl⟩ := hcs
    simp at hz
    exact ⟨fun j => zs.getD j 0, Or.inr ⟨a, rfl, fun j hj => hcell j (by omega)⟩⟩

theorem open_bytes {H : Type} {enc : TypeId × Value → H} {W : World} {a0 : Option Addr} {len0 cap0 : Nat} {d0 : DataW H} {p0 : List MemPlace} (h0 : DataW.Trod enc Yba.prog W 0 (fun _ => true) true 60 (.slice a0 len0 cap0) d0 p0) :
    ∃ pz : Nat → Nat, 0 < len0 → ∃ g o, a0 = some ⟨g, o, none⟩ ∧ g < W.heap.size ∧ ∀ j, j < len0 → W.cell? ⟨g, o + j, none⟩ = some (.int .u8 (pz j : Int)) ∧ pz j ≤ 255 := by
  obtain ⟨fuel, hf⟩ := h0
  rcases open_ints Yba.underlying60 Yba.underlying5 (by kernel_rfl) hf with ⟨hcs, _⟩ | ⟨a, len, cap, zs, hcs, _, hl, hm, hz, hx, hcell, hwf⟩
  · simp [Value.cells] at hcs
    exact ⟨fun _ => 0, fun h => absurd h (by omega)⟩
  · simp [Value.cells] at hcs
    obtain ⟨rfl, rfl, rfl⟩ := hcs
    simp at hz
    refine ⟨fun j => (zs.getD j 0).toNat, fun hp => ?_⟩
    obtain ⟨b, off, rfl, hc⟩ := ints_at hcell (by omega)
    refine ⟨b, off, rfl, block_lt_of_cell (hc 0 (by omega)), fun j hj => ?_⟩
    have hjl : j < zs.length := by omega
    have hb := bounds_u8 (hwf (zs.getD j 0) (by simp [List.getD_eq_getElem?_getD, List.getElem?_eq_getElem hjl]))
    refine ⟨?_, by show (zs.getD j 0).toNat ≤ 255; omega⟩
    rw [hc j hjl]
    have : ((zs.getD j 0).toNat : Int) = zs.getD j 0 := by omega
    rw [this]

theorem open_log {H : Type} {enc : TypeId × Value → H} {W : World} {a0 : Option Addr} {len0 cap0 : Nat} {d0 : DataW H} {p0 : List MemPlace} (h0 : DataW.Trod enc Yba.prog W 0 (fun _ => true) true 85 (.slice a0 len0 cap0) d0 p0) :
    ∃ lp lt : Nat → Int, 0 < len0 → ∃ g o, a0 = some ⟨g, o, none⟩ ∧ g < W.heap.size ∧ ∀ j, j < len0 → W.cell? ⟨g, o + j * 2, none⟩ = some (.int .i32 (lp j)) ∧ W.cell? ⟨g, o + j * 2 + 1, none⟩ = some (.int .u32 (lt j)) := by
  obtain ⟨fuel, hf⟩ := h0
  rcases open_slice_pairs Yba.underlying85 Yba.underlying90 (by kernel_rfl) rfl rfl (by kernel_rfl) (by kernel_rfl) hf with ⟨hcs, _⟩ | ⟨a, len, cap, m, n, V0, V1, D0, D1, P0, P1, hcs, _, hl, hm, hmm, hx, hc⟩
  · simp [Value.cells] at hcs
    exact ⟨fun _ => 0, fun _ => 0, fun h => absurd h (by omega)⟩
  · simp [Value.cells] at hcs
    obtain ⟨rfl, rfl, rfl⟩ := hcs
    simp at hmm
    subst hmm
    have each : ∀ i, i < len0 → ∃ c : Int × Int, V0 i = .int .i32 c.1 ∧ V1 i = .int .u32 c.2 := by
      intro i hi
      obtain ⟨_, _, t0, t1⟩ := hc i (by omega)
      obtain ⟨x, hx0, _⟩ := DataW.trod_int Yba.underlying21 t0
      obtain ⟨y, hy0, _⟩ := DataW.trod_int Yba.underlying88 t1
      simp at hx0 hy0
      exact ⟨(x, y), hx0, hy0⟩
    obtain ⟨f, hfc⟩ := choose_lt each
    refine ⟨fun j => (f j).1, fun j => (f j).2, fun hp => ?_⟩
    obtain ⟨b, off, spot⟩ := a
    have hspot : spot = none := by simpa [Addr.add] using World.cell?_spot (hc 0 (by omega)).1
    subst hspot
    have hb : b < W.heap.size := by
      have := block_lt_of_cell (hc 0 (by omega)).1
      simpa [Addr.add] using this
    refine ⟨b, off, rfl, hb, fun j hj => ?_⟩
    obtain ⟨e1, e2⟩ := hfc j hj
    obtain ⟨k0, k1, _, _⟩ := hc j (by omega)
    rw [add_plain, e1] at k0
    rw [add_plain, e2] at k1
    exact ⟨k0, by rw [Nat.add_assoc]; exact k1⟩
end Go.Proofs.Ybulksbm
