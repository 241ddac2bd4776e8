import Derived.Test.YbulkryuDoorChecked
import Derived.Test.YbulkryuDoorPlain
import Derived.WalkKit
import Derived.WalkLawsBesides
import Derived.Deep.LoopGhost
import Derived.Deep.QuietTactic
import Derived.BigQuiet
import Derived.Laws.CopyOwn
namespace Go.Proofs.YbulkryuDoor
open Go.RowKit

/-- All blocks that were there, but for those with the numbers D to D + m - 1, are as they were. -/
structure Kept (D m : Nat) (w w' : World) : Prop where
  os : w'.os = w.os
  tape : w'.tape = w.tape
  output : w'.output = w.output
  size : w.heap.size ≤ w'.heap.size
  block : ∀ k, k < w.heap.size → ¬ (D ≤ k ∧ k < D + m) → w'.heap[k]? = w.heap[k]?

theorem Kept.refl (D m : Nat) (w : World) : Kept D m w w := ⟨rfl, rfl, rfl, Nat.le_refl _, fun _ _ _ => rfl⟩
theorem Kept.trans {D m : Nat} {a b c : World} (h : Kept D m a b) (k : Kept D m b c) : Kept D m a c :=
  ⟨k.os.trans h.os, k.tape.trans h.tape, k.output.trans h.output, Nat.le_trans h.size k.size, fun i hi hn => (k.block i (Nat.lt_of_lt_of_le hi h.size) hn).trans (h.block i hi hn)⟩
theorem Kept.wider {D m D' m' : Nat} {w w' : World} (h : Kept D m w w') (h1 : D' ≤ D) (h2 : D + m ≤ D' + m') : Kept D' m' w w' :=
  ⟨h.os, h.tape, h.output, h.size, fun k hk hn => h.block k hk (fun ⟨x, y⟩ => hn ⟨by omega, by omega⟩)⟩
theorem Kept.drewN {D m : Nat} {a w : World} (h : Kept D m a w) (q : Nat) : Kept D m a (w.drewN q) := ⟨h.os, h.tape, h.output, h.size, h.block⟩
theorem Kept.drew {D m : Nat} {a w : World} (h : Kept D m a w) : Kept D m a w.drew := ⟨h.os, h.tape, h.output, h.size, h.block⟩
theorem Kept.alloc {D m : Nat} {a w : World} (h : Kept D m a w) (o : Obj) : Kept D m a (w.alloc o) :=
  h.trans ⟨rfl, rfl, rfl, by simp, fun k hk _ => Below.heap_alloc _ _ _ hk⟩
theorem Kept.setCell {D m : Nat} {a w : World} (h : Kept D m a w) {p : Addr} (hp : D ≤ p.block) (hq : p.block < D + m) (u : Value) : Kept D m a (w.setCell p u) :=
  h.trans ⟨rfl, rfl, rfl, by simp [World.setCell], fun k _ hn => Below.heap_setCell _ _ _ _ (fun e => hn (by omega))⟩
theorem Kept.setRow {D m : Nat} {a w : World} (h : Kept D m a w) {g : Nat} (hp : D ≤ g) (hq : g < D + m) (cs : Array Value) : Kept D m a (w.setRow g cs) :=
  h.trans ⟨rfl, rfl, rfl, by simp [World.setRow], fun k _ hn => setRow_other w g k cs (fun e => hn (by omega))⟩
theorem Kept.below {D m : Nat} {w w' : World} (h : Kept D m w w') (hD : D ≤ w.heap.size) : Below D w w' := ⟨h.os, h.tape, h.output, h.size, fun k hk => h.block k (by omega) (by omega)⟩

theorem ownsRow_kept {D m : Nat} {w w' : World} {e : TypeId} {size : Nat} {v : Value} {n : Nat} {xs : List Value} (h : w.ownsRow (D + m) e size v n xs) (hk : Kept D m w w') : w'.ownsRow (D + m) e size v n xs := by
  obtain ⟨h1, h2⟩ := h
  refine ⟨h1, ?_⟩
  rcases h2 with h2 | ⟨g, cap, cur, hv, hg, hh, r⟩
  · exact Or.inl h2
  · exact Or.inr ⟨g, cap, cur, hv, hg, by rw [hk.block g (lt_of_block hh) (by omega)]; exact hh, r⟩
theorem ownsRow_below {base D : Nat} {w w' : World} {e : TypeId} {size : Nat} {v : Value} {n : Nat} {xs : List Value} (h : w.ownsRow base e size v n xs) (hD : D = w.heap.size) (hk : Below D w w') : w'.ownsRow base e size v n xs := by
  obtain ⟨h1, h2⟩ := h
  refine ⟨h1, ?_⟩
  rcases h2 with h2 | ⟨g, cap, cur, hv, hg, hh, r⟩
  · exact Or.inl h2
  · exact Or.inr ⟨g, cap, cur, hv, hg, by rw [hk.block g (by rw [hD]; exact lt_of_block hh)]; exact hh, r⟩

theorem heap_drewN (w : World) (q : Nat) : (w.drewN q).heap = w.heap := rfl
theorem Below.drewN' {B : Nat} {a w : World} (h : Below B a w) (q : Nat) : Below B a (w.drewN q) := ⟨h.os, h.tape, h.output, h.size, h.block⟩

/-- A slice of bytes, by its cells, in memory below block D. -/
def Bytes (D : Nat) (w : World) (v : Value) (zs : List Int) : Prop :=
  ∃ a cap, v = .slice a zs.length cap ∧ zs.length ≤ cap ∧ cap ≤ 9223372036854775807 ∧
    (0 < zs.length → ∃ b off, a = some ⟨b, off, none⟩ ∧ b < D ∧ ∀ j, j < zs.length → w.cell? ⟨b, off + j, none⟩ = some (.int .u8 (zs.getD j 0)))

theorem Bytes.nil (D : Nat) (w : World) : Bytes D w (.slice none 0 0) [] := ⟨none, 0, rfl, by simp, by omega, by simp⟩

theorem Bytes.carry {D : Nat} {w w' : World} {v : Value} {zs : List Int} (h : Bytes D w v zs) (hb : Below D w w') : Bytes D w' v zs := by
  obtain ⟨a, cap, h1, h2, h3, h4⟩ := h
  refine ⟨a, cap, h1, h2, h3, fun h => ?_⟩
  obtain ⟨b, off, e1, e2, e3⟩ := h4 h
  exact ⟨b, off, e1, e2, fun j hj => by rw [hb.cell (p := ⟨b, off + j, none⟩) e2]; exact e3 j hj⟩

theorem Bytes.back {D : Nat} {w w' : World} {v : Value} {zs : List Int} (h : Bytes D w' v zs) (hb : Below D w w') : Bytes D w v zs := by
  obtain ⟨a, cap, h1, h2, h3, h4⟩ := h
  refine ⟨a, cap, h1, h2, h3, fun h => ?_⟩
  obtain ⟨b, off, e1, e2, e3⟩ := h4 h
  exact ⟨b, off, e1, e2, fun j hj => by rw [← hb.cell (p := ⟨b, off + j, none⟩) e2]; exact e3 j hj⟩

/-- What is left of a slice of bytes behind a cut: however the cut is spelled. -/
theorem Bytes.cut {D : Nat} {w : World} {b off cap k : Nat} {zs : List Int} {a' : Option Addr} {n' c' : Nat} (hk : k ≤ zs.length) (hcap : zs.length ≤ cap) (hcap2 : cap ≤ 9223372036854775807) (hb : b < D)
    (h : ∀ j, j < zs.length → w.cell? ⟨b, off + j, none⟩ = some (.int .u8 (zs.getD j 0))) (ha : k < cap → a' = some ⟨b, off + k, none⟩) (hn : n' = zs.length - k) (hc : c' = cap - k) : Bytes D w (.slice a' n' c') (zs.drop k) := by
  subst hn; subst hc
  refine ⟨a', cap - k, by simp, by simp; omega, by omega, fun hp => ?_⟩
  have hp' : 0 < zs.length - k := by simpa using hp
  refine ⟨b, off + k, ha (by omega), hb, fun j hj => ?_⟩
  have hj' : j < zs.length - k := by simpa using hj
  have := h (k + j) (by omega)
  rw [show off + k + j = off + (k + j) from by omega, this]
  simp [List.getD_eq_getElem?_getD, List.getElem?_drop]

theorem run_copy_named {P : Program} {w : World} (dT sT ty elem : TypeId) (hu : P.underlying dT = some (.slice elem)) (hsz : (P.info? elem).map (·.size) = some 1)
    (g dLen dCap : Nat) (ad : Addr) (sLen sCap : Nat) (cur : List Value) (t : TypeId) (hg : w.heap[g]? = some (.cells cur.toArray t (0, 0))) (cs : List Value) (k : Nat) (hk : cs.length = k) (hn : k = min sLen dLen)
    (hsrc : ∀ j v, cs[j]? = some v → w.cell? (ad.add j) = some v) (hfit : k ≤ cur.length) (h1 : ∀ v ∈ cs, v.oneCell' = true) (R : List Value) (hR : R = cs ++ cur.drop k) :
    (Builtin.copy_ #[dT, sT] ty #[.slice (some ⟨g, 0, none⟩) dLen dCap, .slice (some ad) sLen sCap]).run P w = .ok (.int .i64 k) (w.setRow g R.toArray) := by
  subst hR; subst hk
  have := run_copy_row (P := P) w dT sT ty elem g 0 dLen dCap ad sLen sCap cur.toArray t cs hu hsz hg hn hsrc (by simpa using hfit) h1
  rw [this]
  have e : (cur.toArray.toList.take 0 ++ cs ++ cur.toArray.toList.drop (0 + cs.length)).toArray = (cs ++ cur.drop cs.length).toArray := by simp
  rw [e]; rfl

theorem Bytes.mono {D D' : Nat} {w : World} {v : Value} {zs : List Int} (h : Bytes D w v zs) (hD : D ≤ D') : Bytes D' w v zs := by
  obtain ⟨a, cap, h1, h2, h3, h4⟩ := h
  refine ⟨a, cap, h1, h2, h3, fun h => ?_⟩
  obtain ⟨b, off, e1, e2, e3⟩ := h4 h
  exact ⟨b, off, e1, by omega, e3⟩

/-- The chunks that came in: their box, the cells of each, and its bytes. -/
structure Chunks (D cb : Nat) (w : World) (cv : Value) (C : List (List Int × Bool)) : Prop where
  hcb : cb < D
  box : w.heap[cb]? = some (.cells #[cv] 22 (0, 0))
  small : C.length ≤ 256
  val : ∃ a cap, cv = .slice a C.length cap ∧ (0 < C.length → ∃ b off, a = some ⟨b, off, none⟩ ∧ b < D ∧ ∀ i c, C[i]? = some c →
    ∃ p cp, w.cell? ⟨b, off + i * 2, none⟩ = some (.slice p c.1.length cp) ∧ w.cell? ⟨b, off + i * 2 + 1, none⟩ = some (.bool c.2) ∧ Bytes D w (.slice p c.1.length cp) c.1)

theorem Chunks.carry {D cb : Nat} {w w' : World} {cv : Value} {C : List (List Int × Bool)} (h : Chunks D cb w cv C) (hb : Below D w w') : Chunks D cb w' cv C := by
  obtain ⟨h1, h2, h3, a, cap, h4, h5⟩ := h
  refine ⟨h1, by rw [hb.block cb h1]; exact h2, h3, a, cap, h4, fun hp => ?_⟩
  obtain ⟨b, off, e1, e2, e3⟩ := h5 hp
  refine ⟨b, off, e1, e2, fun i c hc => ?_⟩
  obtain ⟨p, cp, c1, c2, c3⟩ := e3 i c hc
  exact ⟨p, cp, by rw [hb.cell (p := ⟨b, off + i * 2, none⟩) e2]; exact c1, by rw [hb.cell (p := ⟨b, off + i * 2 + 1, none⟩) e2]; exact c2, c3.carry hb⟩

theorem Chunks.mono {D D' cb : Nat} {w : World} {cv : Value} {C : List (List Int × Bool)} (h : Chunks D cb w cv C) (hD : D ≤ D') : Chunks D' cb w cv C := by
  obtain ⟨h1, h2, h3, a, cap, h4, h5⟩ := h
  refine ⟨by omega, h2, h3, a, cap, h4, fun hp => ?_⟩
  obtain ⟨b, off, e1, e2, e3⟩ := h5 hp
  refine ⟨b, off, e1, by omega, fun i c hc => ?_⟩
  obtain ⟨p, cp, c1, c2, c3⟩ := e3 i c hc
  exact ⟨p, cp, c1, c2, c3.mono hD⟩

/-- A block of four cells: the reader. -/
theorem four_cell {w : World} {b : Nat} {x0 x1 x2 x3 : Value} {t : TypeId} (h : w.heap[b]? = some (.cells #[x0, x1, x2, x3] t (0, 0))) :
    w.cell? ⟨b, 0, none⟩ = some x0 ∧ w.cell? ⟨b, 1, none⟩ = some x1 ∧ w.cell? ⟨b, 2, none⟩ = some x2 ∧ w.cell? ⟨b, 3, none⟩ = some x3 ∧
    w.frozen? ⟨b, 0, none⟩ = false ∧ w.frozen? ⟨b, 1, none⟩ = false ∧ w.frozen? ⟨b, 2, none⟩ = false := by
  refine ⟨?_, ?_, ?_, ?_, ?_, ?_, ?_⟩
  · simp [World.cell?, h]
  · simp [World.cell?, h]
  · simp [World.cell?, h]
  · simp [World.cell?, h]
  · simp [World.frozen?, h]
  · simp [World.frozen?, h]
  · simp [World.frozen?, h]
theorem four_set {w : World} {b : Nat} {x0 x1 x2 x3 : Value} {t : TypeId} (h : w.heap[b]? = some (.cells #[x0, x1, x2, x3] t (0, 0))) (u : Value) :
    (w.setCell ⟨b, 0, none⟩ u).heap[b]? = some (.cells #[u, x1, x2, x3] t (0, 0)) ∧ (w.setCell ⟨b, 1, none⟩ u).heap[b]? = some (.cells #[x0, u, x2, x3] t (0, 0)) ∧ (w.setCell ⟨b, 2, none⟩ u).heap[b]? = some (.cells #[x0, x1, u, x3] t (0, 0)) := by
  refine ⟨?_, ?_, ?_⟩
  · rw [heap_setCell_same w b 0 _ t u h]; rfl
  · rw [heap_setCell_same w b 1 _ t u h]; rfl
  · rw [heap_setCell_same w b 2 _ t u h]; rfl

theorem blk_alloc {w : World} {o x : Obj} {k : Nat} (h : w.heap[k]? = some x) : (w.alloc o).heap[k]? = some x := by rw [Below.heap_alloc _ _ _ (lt_of_block h)]; exact h
theorem blk_other {w : World} {a : Addr} {v : Value} {x : Obj} {k : Nat} (h : w.heap[k]? = some x) (hk : k ≠ a.block) : (w.setCell a v).heap[k]? = some x := by rw [Below.heap_setCell _ _ _ _ hk]; exact h
theorem blk_setRow {w : World} {g : Nat} {cs : Array Value} {x : Obj} {k : Nat} (h : w.heap[k]? = some x) (hk : k ≠ g) : (w.setRow g cs).heap[k]? = some x := by rw [setRow_other w g k cs hk]; exact h
theorem Kept.blk {D m : Nat} {w w' : World} (h : Kept D m w w') {k : Nat} {x : Obj} (hk : w.heap[k]? = some x) (hn : k < D ∨ D + m ≤ k) : w'.heap[k]? = some x := by
  rw [h.block k (lt_of_block hk) (by omega)]; exact hk
end Go.Proofs.YbulkryuDoor
