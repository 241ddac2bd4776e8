import Derived.Test.YbulkryuDoorRows
import Derived.Test.YbulkryuDoorLawD
import Derived.ProofKit
import Derived.OpenShut
import Derived.LaidMore
import Derived.MakeChecks
import Derived.SizedLaws
import Derived.Deep.SlicePairs
import Derived.Stop.Joined
namespace Go.Proofs.YbulkryuDoor
open Go.ChangeShapes Go.WideShapes Go.ChangeAt Go.RowKit Go.Deep

theorem own : ownKnob Ybad.prog.godebug = none := by kernel_rfl
theorem laidOut : laidOutB Ybad.prog = true := by kernel_rfl
theorem gEof : Ybad.prog.globalNamed "io.EOF" = some 0 := by kernel_rfl
theorem tEof : (Ybad.prog.globals[0]?).map (·.type) = some 27 := by kernel_rfl
theorem c59 : Ybad.prog.cellsOf 59 = 1 := by kernel_rfl
theorem c9 : Ybad.prog.cellsOf 9 = 1 := by kernel_rfl
theorem b5 : Ybad.prog.bytesOf 5 = 1 := by kernel_rfl

def nameOf : DataW Unit → String
  | .iface n _ => n
  | _ => ""

theorem row41 (u : TypeId) (h : Ybad.prog.typeName? 3 u = some (nameOf Rows.laid_io_EOF)) : u = 41 :=
  typeName_ptr_named (nm := "errors.errorString") (by kernel_rfl) (by kernel_rfl) (by decide) u (h.trans (by decide))

/-- What the listed variable gives the walks: the cell of io.EOF. -/
theorem eof_of_laid {W : World} (h : laidMetH Ybad.prog [("io.EOF", Rows.laid_io_EOF)] W) : ∃ a, W.cell? ⟨0, 0, none⟩ = some (.iface 41 (.pointer (some a))) := by
  rw [MakeChecks.laidMetH_plain _ _ _ (by kernel_rfl)] at h
  obtain ⟨ps, ⟨g0, t0, cs0, f0, p0, q0, hg0, ht0, hv0, hd0, hq0, e0⟩, hnd, hrows⟩ := h
  obtain rfl := Option.some.inj (gEof.symm.trans hg0)
  obtain rfl := Option.some.inj (tEof.symm.trans ht0)
  have hq0' : q0 = [] := hq0
  subst hq0'
  subst e0
  obtain ⟨l0⟩ := cs0
  have ok0 : ∀ u v, l0 = [.iface u v] → Value.okWide Ybad.prog W .any 0 u v := fun u v e => by
    subst e
    exact (hrows 0 0 (by simp [MemPlace.row])).2 u v (by simpa using World.var?_cell hg0 hv0 0)
  obtain ⟨a0, s0, rfl, _, _, _, _⟩ := errorString_of_trod Ybad.underlying27 row41 Ybad.underlying41 Ybad.underlying59 rfl rfl Ybad.underlying9 c59 c9 hd0 ok0
  exact ⟨a0, by simpa using World.var?_cell hg0 hv0 0⟩

/-- The door's own heap meets the condition. -/
theorem door_met (os : Os) (args : Array Value) : laidMetH Ybad.prog [("io.EOF", Rows.laid_io_EOF)] ((World.doorLaid Ybad.prog 400 os).forCall (fun _ _ => 0) ⟨#[], args, []⟩).memory :=
  laidMetH_of_parts3 (fuel := 8) (laidMet_of_run' 8 (by kernel_rfl) (by kernel_rfl)) (by kernel_rfl) (by kernel_rfl)

theorem weightsAll_mem {H : Type} {P : Program} {e : TypeId} : ∀ {l : List (DataW H)} {d : DataW H}, d ∈ l → ∀ n ∈ d.weights P e, n ∈ DataW.weightsAll P e l
  | d' :: r, d, hd, n, hn => by
    simp only [DataW.weightsAll, List.mem_append]
    rcases List.mem_cons.1 hd with rfl | h
    · exact Or.inl hn
    · exact Or.inr (weightsAll_mem h n hn)

/-- One chunk's bytes, out of its reading. -/
theorem open_chunk {H : Type} {enc : TypeId × Value → H} {W : World} {fuel : Nat} {v0 v1 : Value} {d0 d1 : DataW H} {p0 p1 : List MemPlace}
    (h0 : DataW.trod enc Ybad.prog W 0 (fun _ => true) true fuel 23 [v0] = some (d0, p0)) (h1 : DataW.trod enc Ybad.prog W 0 (fun _ => true) true fuel 4 [v1] = some (d1, p1))
    (hsz : ∀ n ∈ d0.weights Ybad.prog 23, n ≤ reachBytes) :
    ∃ c : List Int × Bool, ∃ p cp, v0 = .slice p c.1.length cp ∧ v1 = .bool c.2 ∧ Bytes W.heap.size W (.slice p c.1.length cp) c.1 ∧ (p = none → cp = 0) ∧ c.1.length ≤ 140737488351232 := by
  obtain ⟨e, hv1, _⟩ := DataW.trod_bool Ybad.underlying4 h1
  simp at hv1
  subst hv1
  rcases open_ints Ybad.underlying23 Ybad.underlying5 (by kernel_rfl) h0 with ⟨hcs, _⟩ | ⟨a, len, cap, zs, hcs, _, hl, hm, hz, hx, hcell, _⟩
  · simp at hcs
    subst hcs
    exact ⟨([], e), none, 0, rfl, rfl, Bytes.nil _ _, fun _ => rfl, by simp⟩
  · simp at hcs
    subst hcs
    simp at hz
    have hlen : (zs.take len).length = len := by simp; omega
    refine ⟨(zs.take len, e), some a, cap, by rw [hlen], rfl, ⟨some a, cap, rfl, by rw [hlen]; exact hl, by unfold maxLen at hm; omega, fun hp => ?_⟩, (fun h => by cases h), ?_⟩
    · have hp' : 0 < len := by rw [hlen] at hp; exact hp
      obtain ⟨b, off, rfl, hc⟩ := ints_at hcell (by omega)
      refine ⟨b, off, rfl, ?_, fun j hj => ?_⟩
      · exact block_lt_of_cell (hc 0 (by omega))
      · rw [hlen] at hj
        rw [hc j (by omega)]
        simp [List.getD_eq_getElem?_getD, List.getElem?_take_of_lt hj]
    · rw [hlen]
      simp only [Prod.mk.injEq] at hx
      have := hsz ((zs.take len).length + (zs.drop len).length) (by rw [hx.1]; simp [DataW.weights, Ybad.underlying23, lits, b5])
      simp only [reachBytes, List.length_take, List.length_drop] at this
      omega

/-- The chunks, out of the argument's reading. -/
theorem open_chunks {H : Type} {enc : TypeId × Value → H} {W : World} {a0 : Option Addr} {len0 cap0 : Nat} {d0 : DataW H} {p0 : List MemPlace} (h0 : DataW.Trod enc Ybad.prog W 0 (fun _ => true) true 22 (.slice a0 len0 cap0) d0 p0)
    (hsz : ∀ n ∈ d0.weights Ybad.prog 22, n ≤ reachBytes) : ∃ C : List (List Int × Bool), C.length = len0 ∧ ChunksIn W a0 C := by
  obtain ⟨fuel, hf⟩ := h0
  rcases open_slice_pairs Ybad.underlying22 Ybad.underlying25 (by kernel_rfl) rfl rfl (by kernel_rfl) (by kernel_rfl) hf with ⟨hcs, _⟩ | ⟨a, len, cap, m, n, V0, V1, D0, D1, P0, P1, hcs, _, hl, hm, hmm, hx, hc⟩
  · simp [Value.cells] at hcs
    obtain ⟨rfl, rfl, rfl⟩ := hcs
    exact ⟨[], rfl, fun h => absurd h (by simp)⟩
  · simp [Value.cells] at hcs
    obtain ⟨rfl, rfl, rfl⟩ := hcs
    simp at hmm
    subst hmm
    simp only [Prod.mk.injEq] at hx
    have each : ∀ i, i < len0 → ∃ c : List Int × Bool, ∃ p cp, V0 i = .slice p c.1.length cp ∧ V1 i = .bool c.2 ∧ Bytes W.heap.size W (.slice p c.1.length cp) c.1 ∧ (p = none → cp = 0) ∧ c.1.length ≤ 140737488351232 := by
      intro i hi
      obtain ⟨_, _, t0, t1⟩ := hc i (by omega)
      refine open_chunk t0 t1 (fun w hw => hsz w ?_)
      rw [hx.1]
      simp only [DataW.weights, Ybad.underlying22, List.mem_cons, List.mem_append]
      refine Or.inr (Or.inl (weightsAll_mem (List.mem_map.2 ⟨i, List.mem_range.2 hi, rfl⟩) _ ?_))
      simp [DataW.weights, Ybad.underlying25, DataW.weightsEach, hw]
    obtain ⟨f, hfc⟩ := choose_lt each
    refine ⟨(List.range len0).map f, by simp, fun hp => ?_⟩
    have hp' : 0 < len0 := by simpa using hp
    obtain ⟨b, off, spot⟩ := a
    have hspot : spot = none := by simpa [Addr.add] using World.cell?_spot (hc 0 (by omega)).1
    subst hspot
    have hb : b < W.heap.size := by
      have := block_lt_of_cell (hc 0 (by omega)).1
      simpa [Addr.add] using this
    refine ⟨b, off, rfl, hb, fun i c hi => ?_⟩
    have hil : i < len0 := by have := (List.getElem?_eq_some_iff.1 hi).1; simpa using this
    have hci : c = f i := by
      rw [List.getElem?_map, List.getElem?_range hil] at hi
      simpa using hi.symm
    subst hci
    obtain ⟨p, cp, e1, e2, e3, e4, e5⟩ := hfc i hil
    obtain ⟨k0, k1, _, _⟩ := hc i (by omega)
    rw [add_plain, e1] at k0
    rw [add_plain, e2] at k1
    exact ⟨p, cp, k0, by rw [Nat.add_assoc]; exact k1, e3, e4, e5⟩
end Go.Proofs.YbulkryuDoor
