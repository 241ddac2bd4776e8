import Derived.Test.YbulksayDoorRows
import Derived.Test.YbulksayDoorMul2
import Derived.ProofKit
import Derived.OpenShut
import Derived.LaidMore
import Derived.MakeChecks
import Derived.SizedLaws
import Derived.Stop.Joined
import Derived.Lib.LaidTab
import Derived.Lib.LaidU8
import Derived.OpenVars
namespace Go.Proofs.YbulksayDoor
open Go.ChangeShapes Go.WideShapes Go.ChangeAt Go.RowKit

theorem own : ownKnob Ybad.prog.godebug = none := by kernel_rfl
theorem laidOut : laidOutB Ybad.prog = true := by kernel_rfl
theorem t88 : (Ybad.prog.globals[3]?).map (·.type) = some 88 := by kernel_rfl
theorem e0 : (Ybad.prog.globals[0]?).map (·.type) = some 26 := by kernel_rfl
theorem e1 : (Ybad.prog.globals[1]?).map (·.type) = some 26 := by kernel_rfl
theorem e2 : (Ybad.prog.globals[2]?).map (·.type) = some 26 := by kernel_rfl
theorem c5 : Ybad.prog.cellsOf 5 = 1 := by kernel_rfl
theorem c88 : Ybad.prog.cellsOf 88 = 64 := by kernel_rfl

theorem tab_is : (Rows.laid_math_bits_deBruijn64tab : DataW Unit) = Lib.tabData .u8 (Lib.deBruijn64tab.map Int.ofNat) := rfl

theorem err_cell {W : World} {n : String} {d : DataW Unit} {nm : String} {g : Nat} (h : Lib.VarReads Ybad.prog W n (.iface nm d)) (hg : Ybad.prog.globalNamed n = some g) (ht : (Ybad.prog.globals[g]?).map (·.type) = some 26) :
    ∃ t p, W.cell? ⟨g, 0, none⟩ = some (.iface t p) := by
  obtain ⟨g', t', cs, fuel, p, hg', ht', hv, hd⟩ := h
  obtain rfl := Option.some.inj (hg.symm.trans hg')
  obtain rfl := Option.some.inj (ht.symm.trans ht')
  obtain ⟨f1, u, v, hcs, _⟩ := iface_of_trod Ybad.underlying26 hd
  obtain ⟨l⟩ := cs
  simp only at hcs
  subst hcs
  exact ⟨u, v, by simpa using World.var?_cell hg hv 0⟩

/-- What the listed variables give the walks. -/
theorem glob_of_laid {W : World} (h : laidMetH Ybad.prog Rows.lawS0921AIdentityRow.laid W) : Glob W := by
  rw [MakeChecks.laidMetH_plain _ _ _ (by kernel_rfl)] at h
  have hT := Lib.tabIs_of_head (g := 3) (k := .u8) (zs := Lib.deBruijn64tab.map Int.ofNat) (by kernel_rfl) t88 Ybad.underlying88 Ybad.underlying5 c5 c88 h
  have tab : Tab W := by
    intro j hj
    have := hT.cell (g := 3) (by kernel_rfl) j (by simpa using hj)
    rw [this]
    simp [List.getD_eq_getElem?_getD, List.getElem?_map, List.getElem?_eq_getElem hj]
  have r0 := err_cell (g := 0) (Lib.laidMet.reads h (.tail _ (.head _))) (by kernel_rfl) e0
  have r1 := err_cell (g := 1) (Lib.laidMet.reads h (.tail _ (.tail _ (.head _)))) (by kernel_rfl) e1
  have r2 := err_cell (g := 2) (Lib.laidMet.reads h (.tail _ (.tail _ (.tail _ (.head _))))) (by kernel_rfl) e2
  refine ⟨tab, ?_, ?_⟩
  · intro k hk
    have : k = 0 ∨ k = 1 ∨ k = 2 := by omega
    rcases this with rfl | rfl | rfl
    · exact r0
    · exact r1
    · exact r2
  · have := lt_of_cellP (tab 0 (by decide))
    exact this

theorem vars_length {H : Type} {enc : TypeId × Value → H} {P : Program} {W : World} {sp : Nat → Bool} : ∀ {ns : List String} {gs : List (DataW H)} {ps : List MemPlace}, DataW.TrodVars enc P W sp ns gs ps → gs.length = ns.length
  | [], [], _, _ => rfl
  | [], _ :: _, _, h => h.elim
  | _ :: _, [], _, h => h.elim
  | _ :: _, _ :: _, _, h => by
    obtain ⟨_, _, _, _, _, _, _, _, _, _, h5, _⟩ := h
    simp [vars_length h5]

theorem three {α : Type} : ∀ {l : List α}, l.length = 3 → ∃ a b c, l = [a, b, c]
  | [a, b, c], _ => ⟨a, b, c, rfl⟩

/-- The door's own heap meets the condition. -/
theorem door_met (os : Os) (args : Array Value) : laidMetH Ybad.prog Rows.lawS0921AIdentityRow.laid ((World.doorLaid Ybad.prog 400 os).forCall (fun _ _ => 0) ⟨#[], args, []⟩).memory :=
  laidMetH_of_parts3 (fuel := 8) (laidMet_of_run' 8 (by kernel_rfl) (by kernel_rfl)) (by kernel_rfl) (by kernel_rfl)

end Go.Proofs.YbulksayDoor
