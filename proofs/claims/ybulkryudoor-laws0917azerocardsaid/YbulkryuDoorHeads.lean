import Derived.Test.YbulkryuDoorChecked
import Derived.WalkKit
import Derived.WalkLawsBesides
import Derived.Deep.LoopGhost
import Derived.Deep.QuietTactic
import Derived.BigQuiet
namespace Go.Proofs.YbulkryuDoor
open Go.RowKit

/-- The test of heads: the cells of the first slice agree with those of the second, which is at least as long: true. -/
theorem heads_some (w : World) (n m c1 c2 g1 g2 o1 o2 : Nat) (z : Nat → Int) (hn : n ≤ m) (hm : m ≤ 9223372036854775807)
    (h1 : ∀ j, j < n → w.cell? ⟨g1, o1 + j, none⟩ = some (.int .u8 (z j))) (h2 : ∀ j, j < n → w.cell? ⟨g2, o2 + j, none⟩ = some (.int .u8 (z j))) :
    Calls Ybad.prog 7 #[.slice (some ⟨g1, o1, none⟩) n c1, .slice (some ⟨g2, o2, none⟩) m c2] w fun e w' => e = .returned (.bool true) ∧ ∃ q, w' = w.drewN q := by
  go_enter Ybad.func7, Ybad.ntmps7
  go_wp2
  go_loopg [5] n (fun k i wr => ∃ j : Nat, j + k = n ∧ i = .int .i64 j ∧ ∃ q, wr = w.drewN q)
  case atStart => exact ⟨0, by omega, rfl, 0, rfl⟩
  case round =>
    obtain ⟨j, hj, rfl, q, rfl⟩ := hrel
    by_cases hlt : j < n
    · have e1 := h1 j hlt
      have e2 := h2 j hlt
      have b1 : (j : Int) < (n : Int) := by omega
      have b2 : (j : Int) < (m : Int) := by omega
      go_wp2
      go_quiet (fail)
      go_wp2
      go_roundg (gk - 1)
      case measure => omega
      case rel => exact ⟨j + 1, by omega, by go_num, _, rfl⟩
    · go_wp2
      go_ret
      exact ⟨rfl, q, rfl⟩

theorem heads_none (w : World) (a1 a2 : Option Addr) (m c1 c2 : Nat) :
    Calls Ybad.prog 7 #[.slice a1 0 c1, .slice a2 m c2] w fun e w' => e = .returned (.bool true) ∧ ∃ q, w' = w.drewN q := by
  go_enter Ybad.func7, Ybad.ntmps7
  go_wp2
  refine wp_loop_rounds 1 ?_
  rw [rounds_succ]
  go_wp2
  go_ret
  exact ⟨rfl, 0, rfl⟩

theorem cells_own {w : World} {base : Nat} {v : Value} {L : List Int} (h : w.ownsRow base 5 1 v L.length (L.map (Value.int .u8))) :
    (v = .slice none 0 0 ∧ L = []) ∨ ∃ g cap, v = .slice (some ⟨g, 0, none⟩) L.length cap ∧ L.length ≤ cap ∧ cap ≤ 9223372036854775807 ∧ ∀ j, j < L.length → w.cell? ⟨g, 0 + j, none⟩ = some (.int .u8 (L.getD j 0)) := by
  obtain ⟨_, ⟨h1, h2⟩ | ⟨g, cap, cur, rfl, _, hg, h3, h4, _, h6⟩⟩ := h
  · exact Or.inl ⟨h1, List.eq_nil_of_length_eq_zero h2⟩
  · refine Or.inr ⟨g, cap, rfl, h3, h4, fun j hj => ?_⟩
    rw [Nat.zero_add, cell_of_row w g j cur 5 (0, 0) hg]
    have : (cur.toList.take (L.length * 1))[j]? = (L.map (Value.int .u8))[j]? := by rw [h6]
    rw [List.getElem?_take_of_lt (by omega), List.getElem?_map, List.getElem?_eq_getElem hj] at this
    rw [← Array.getElem?_toList, this]
    simp [List.getD_eq_getElem?_getD, List.getElem?_eq_getElem hj]

theorem own_form {w : World} {base : Nat} {e : TypeId} {v : Value} {n : Nat} {xs : List Value} (h : w.ownsRow base e 1 v n xs) : ∃ a cap, v = .slice a n cap := by
  obtain ⟨_, ⟨h1, h2⟩ | ⟨g, cap, cur, rfl, _⟩⟩ := h
  · exact ⟨none, 0, by rw [h1, h2]⟩
  · exact ⟨_, _, rfl⟩

/-- Two rows of the call's own, the first the head of the second. -/
theorem heads_own {w : World} {b1 b2 : Nat} {v1 v2 : Value} {L M : List Int} (h1 : w.ownsRow b1 5 1 v1 L.length (L.map (Value.int .u8))) (h2 : w.ownsRow b2 5 1 v2 (L ++ M).length ((L ++ M).map (Value.int .u8))) :
    Calls Ybad.prog 7 #[v1, v2] w fun e w' => e = .returned (.bool true) ∧ ∃ q, w' = w.drewN q := by
  rcases cells_own h1 with ⟨rfl, rfl⟩ | ⟨g1, c1, rfl, k1, k2, e1⟩
  · rcases cells_own h2 with ⟨rfl, _⟩ | ⟨g2, c2, rfl, _⟩
    · exact heads_none w none none 0 0 0
    · exact heads_none w none _ _ 0 c2
  · rcases cells_own h2 with ⟨rfl, h⟩ | ⟨g2, c2, rfl, k3, k4, e2⟩
    · obtain ⟨rfl, rfl⟩ := List.append_eq_nil_iff.1 h
      exact heads_none w _ none 0 c1 0
    · refine heads_some w L.length (L ++ M).length c1 c2 g1 g2 0 0 (fun j => L.getD j 0) (by simp) (by omega) e1 (fun j hj => ?_)
      rw [e2 j (by simp; omega)]
      simp [List.getD_eq_getElem?_getD, List.getElem?_append_left hj]
end Go.Proofs.YbulkryuDoor
