import Derived.Test.YbulksayDoorTry
import Derived.RegionCalls
import Derived.Deep.RegionHeld3
namespace Go.Proofs.YbulksayDoor
open Go.RowKit

/-- The two factors and the place of the result, in blocks of their own. -/
structure Box (B : Nat) (xn xd yn yd : Int) (w : World) : Prop where
  x : w.heap[B]? = some (.cells #[.int .i64 xn, .int .i64 xd] 23 (0, 0))
  y : w.heap[B + 1]? = some (.cells #[.int .i64 yn, .int .i64 yd] 23 (0, 0))
  z : w.heap[B + 1 + 1]? = some (.cells #[.int .i64 0, .int .i64 0] 23 (0, 0))

theorem Box.below {B : Nat} {xn xd yn yd : Int} {w w' : World} (h : Box B xn xd yn yd w) (hb : Below w.heap.size w w') : Box B xn xd yn yd w' :=
  ⟨by rw [hb.block _ (lt_of_block h.x)]; exact h.x, by rw [hb.block _ (lt_of_block h.y)]; exact h.y, by rw [hb.block _ (lt_of_block h.z)]; exact h.z⟩

theorem Box.next {B : Nat} {xn xd yn yd : Int} {w w' : World} (h : Hid (Box B xn xd yn yd w)) (hb : Below w.heap.size w w') : Hid (Box B xn xd yn yd w') := Box.below h.out hb
theorem bel_next {a w w' : World} (h : Hid (Below a.heap.size a w)) (hb : Below w.heap.size w w') : Hid (Below a.heap.size a w') := h.out.trans (hb.mono h.out.size)
theorem Box.cells {B : Nat} {xn xd yn yd : Int} {w : World} (h : Hid (Box B xn xd yn yd w)) :
    w.cell? ⟨B, 0, none⟩ = some (.int .i64 xn) ∧ w.cell? ⟨B, 1, none⟩ = some (.int .i64 xd) ∧ w.cell? ⟨B + 1, 0, none⟩ = some (.int .i64 yn) ∧ w.cell? ⟨B + 1, 1, none⟩ = some (.int .i64 yd) :=
  ⟨(two_cell h.out.x).1, (two_cell h.out.x).2.1, (two_cell h.out.y).1, (two_cell h.out.y).2.1⟩

theorem Box.new (w : World) (xn xd yn yd : Int) : Box w.heap.size xn xd yn yd (((w.alloc (.cells #[.int .i64 xn, .int .i64 xd] 23)).alloc (.cells #[.int .i64 yn, .int .i64 yd] 23)).alloc (.cells #[.int .i64 0, .int .i64 0] 23)) := by
  refine ⟨?_, ?_, ?_⟩
  · rw [Below.heap_alloc _ _ _ (by simp; omega), Below.heap_alloc _ _ _ (by simp)]; exact blk_new w _
  · rw [Below.heap_alloc _ _ _ (by simp)]
    have := blk_new (w.alloc (.cells #[.int .i64 xn, .int .i64 xd] 23)) (.cells #[.int .i64 yn, .int .i64 yd] 23)
    simp only [World.size_alloc] at this
    exact this
  · have := blk_new ((w.alloc (.cells #[.int .i64 xn, .int .i64 xd] 23)).alloc (.cells #[.int .i64 yn, .int .i64 yd] 23)) (.cells #[.int .i64 0, .int .i64 0] 23)
    simp only [World.size_alloc] at this
    exact this

theorem Box.drewN {B : Nat} {xn xd yn yd : Int} {w : World} (h : Box B xn xd yn yd w) (q : Nat) : Box B xn xd yn yd (w.drewN q) := ⟨h.x, h.y, h.z⟩
theorem bel_drewN {B : Nat} {a w : World} (h : Below B a w) (q : Nat) : Below B a (w.drewN q) := ⟨h.os, h.tape, h.output, h.size, h.block⟩

theorem mul_core (xn xd yn yd : Int) (w : World) (nx ny dx dy g h qx qy rx ry nh nl dh dl : Nat) (P : Int → Int → Value → Prop)
    (hdx : IntKind.u64.wrap (xd + 1) = (dx : Int)) (hdy : IntKind.u64.wrap (yd + 1) = (dy : Int)) (hg : 0 < g) (hh : 0 < h)
    (e1 : IntKind.u64.wrap ((nx : Int) / (g : Int)) = (qx : Int)) (e2 : IntKind.u64.wrap ((dy : Int) / (g : Int)) = (ry : Int)) (e3 : IntKind.u64.wrap ((ny : Int) / (h : Int)) = (qy : Int)) (e4 : IntKind.u64.wrap ((dx : Int) / (h : Int)) = (rx : Int))
    (o1 : g = 1 → nx = qx ∧ dy = ry) (o2 : h = 1 → ny = qy ∧ dx = rx)
    (HX : Hid (∀ w, Calls Ybad.prog 23 #[.int .i64 xn] w fun e w' => e = .returned (.int .u64 nx) ∧ w' = w))
    (HY : Hid (∀ w, Calls Ybad.prog 23 #[.int .i64 yn] w fun e w' => e = .returned (.int .u64 ny) ∧ w' = w))
    (CX : Hid (∀ w, Calls Ybad.prog 15 #[.agg #[.int .i64 xn, .int .i64 xd]] w fun e w' => e = .returned (.int .i64 (xd + 1)) ∧ Below w.heap.size w w'))
    (CY : Hid (∀ w, Calls Ybad.prog 15 #[.agg #[.int .i64 yn, .int .i64 yd]] w fun e w' => e = .returned (.int .i64 (yd + 1)) ∧ Below w.heap.size w w'))
    (H24 : Hid (∀ w', Below w.heap.size w w' → Calls Ybad.prog 24 #[.int .u64 nx, .int .u64 dy, .int .u64 ny, .int .u64 dx] w' fun e w'' => e = .returned (.tuple #[.int .u64 g, .int .u64 h]) ∧ w'' = w'))
    (M1 : Hid (∀ w, Calls Ybad.prog 26 #[.int .u64 qx, .int .u64 qy] w fun e w' => e = .returned (.agg #[.int .u64 nh, .int .u64 nl]) ∧ Below w.heap.size w w'))
    (M2 : Hid (∀ w, Calls Ybad.prog 26 #[.int .u64 rx, .int .u64 ry] w fun e w' => e = .returned (.agg #[.int .u64 dh, .int .u64 dl]) ∧ Below w.heap.size w w'))
    (H25 : Hid (∀ w', Below w.heap.size w w' → Calls Ybad.prog 25 #[.bool (decide (xn < 0) != decide (yn < 0)), .agg #[.int .u64 nh, .int .u64 nl], .agg #[.int .u64 dh, .int .u64 dl]] w' fun e w'' => (∃ n d v, P n d v ∧ e = .returned (.tuple #[.agg #[.int .i64 n, .int .i64 d], v])) ∧ Below w'.heap.size w' w'')) :
    Calls Ybad.prog 12 #[.agg #[.int .i64 xn, .int .i64 xd], .agg #[.int .i64 yn, .int .i64 yd]] w fun e w' => (∃ n d v, P n d v ∧ e = .returned (.tuple #[.agg #[.int .i64 n, .int .i64 d], v])) ∧ Below w.heap.size w w' := by
  have HO1 : Hid _ := o1
  have HO2 : Hid _ := o2
  clear o1 o2
  go_enter Ybad.func12, Ybad.ntmps12
  go_wp2_with fail
  go_quiet (first | (go_at_call_of 23 xn; refine Calls.quiet_of_same (HX.out _)) | (go_at_call_of 23 yn; refine Calls.quiet_of_same (HY.out _)))
  go_upto_region 2 with fail
  go_cut [8, 9] from 18 to 23 (fun s8 s9 wx => s8 = .int .u64 dx ∧ s9 = .int .u64 dy ∧ Box w.heap.size xn xd yn yd wx ∧ Below w.heap.size w wx)
  case first =>
    have hbox := Box.drewN (Box.new w xn xd yn yd) nq
    have hbel : Below w.heap.size w (((w.alloc (.cells #[.int .i64 xn, .int .i64 xd] 23)).alloc (.cells #[.int .i64 yn, .int .i64 yd] 23)).alloc (.cells #[.int .i64 0, .int .i64 0] 23)) := (((Below.refl _ w).alloc (Nat.le_refl _) _).alloc (by simp) _).alloc (by simp; omega) _
    replace hbel := bel_drewN hbel nq
    generalize ((((w.alloc (.cells #[.int .i64 xn, .int .i64 xd] 23)).alloc (.cells #[.int .i64 yn, .int .i64 yd] 23)).alloc (.cells #[.int .i64 0, .int .i64 0] 23)).drewN nq) = wx at hbox hbel ⊢
    obtain ⟨f1, f2, _, _⟩ := two_cell hbox.x
    obtain ⟨f3, f4, _, _⟩ := two_cell hbox.y
    have HBX : Hid (Box w.heap.size xn xd yn yd wx.drew) := ⟨hbox.x, hbox.y, hbox.z⟩
    have HBL : Hid _ := hbel.drew
    clear hbox hbel
    go_region_held3 (fun w' => w'.cell? ⟨w.heap.size, 0, none⟩ = some (.int .i64 xn) ∧ w'.cell? ⟨w.heap.size, 1, none⟩ = some (.int .i64 xd) ∧ w'.cell? ⟨w.heap.size + 1, 0, none⟩ = some (.int .i64 yn) ∧ w'.cell? ⟨w.heap.size + 1, 1, none⟩ = some (.int .i64 yd)) (first | (go_keep; done) | ((try dsimp only); (repeat' apply And.intro) <;> (first | (simp [go_sem, *]; done))))
      (first | (go_at_call_of 15 xn; refine Calls.mono (CX.out _) ?_; rintro e w1 ⟨rfl, hb⟩; replace HBX := Box.next HBX hb; replace HBL := bel_next HBL hb; clear hb; obtain ⟨g1, g2, g3, g4⟩ := Box.cells HBX)
             | (go_at_call_of 15 yn; refine Calls.mono (CY.out _) ?_; rintro e w1 ⟨rfl, hb⟩; replace HBX := Box.next HBX hb; replace HBL := bel_next HBL hb; clear hb; obtain ⟨g1, g2, g3, g4⟩ := Box.cells HBX))
    all_goals go_wp2_with fail
    all_goals go_meet
    all_goals exact ⟨rfl, rfl, HBX.out, HBL.out⟩
  case rest =>
    obtain ⟨rfl, rfl, hbox, hbel⟩ := hcut
    rename World => w1
    have HBX : Hid _ := hbox
    have HBL : Hid _ := hbel
    clear hbox hbel
    go_wp2_with fail
    refine Calls.mono (H24.out _ HBL.out) ?_
    rintro e w' ⟨rfl, rfl⟩
    have hgz : ((g : Int) == 0) = false := beq_eq_false_iff_ne.2 (by omega)
    have hhz : ((h : Int) == 0) = false := beq_eq_false_iff_ne.2 (by omega)
    have hgp : (g : Int) ≠ 0 := by omega
    have hhp : (h : Int) ≠ 0 := by omega
    go_upto_if 33 with fail
    go_cut [6, 9] from 33 to 39 (fun s6 s9 wx => s6 = .int .u64 qx ∧ s9 = .int .u64 ry ∧ Box w.heap.size xn xd yn yd wx ∧ Below w.heap.size w wx)
    case first =>
      by_cases h1 : g = 1
      · have hne : ((g : Int) != 1) = false := by rw [h1]; rfl
        obtain ⟨r1, r2⟩ := HO1.out h1
        subst r1
        subst r2
        clear h1
        go_wp2_with fail
        go_meet
        case rel => exact ⟨rfl, rfl, HBX.out, HBL.out⟩
      · have hne : ((g : Int) != 1) = true := bne_iff_ne.2 (by omega)
        clear h1
        go_wp2_with fail
        go_quiet (fail)
        go_wp2_with fail
        go_meet
        case rel => exact ⟨rfl, rfl, HBX.out.drewN _, bel_drewN HBL.out _⟩
    case rest =>
      obtain ⟨rfl, rfl, hbox, hbel⟩ := hcut
      clear HBX HBL
      rename World => w1
      have HBX : Hid _ := hbox
      have HBL : Hid _ := hbel
      clear hbox hbel
      go_upto_if 41 with fail
      go_cut [7, 8] from 41 to 47 (fun s7 s8 wx => s7 = .int .u64 qy ∧ s8 = .int .u64 rx ∧ Box w.heap.size xn xd yn yd wx ∧ Below w.heap.size w wx)
      case first =>
        by_cases h1 : h = 1
        · have hne : ((h : Int) != 1) = false := by rw [h1]; rfl
          obtain ⟨r1, r2⟩ := HO2.out h1
          subst r1
          subst r2
          clear h1
          go_wp2_with fail
          go_meet
          case rel => exact ⟨rfl, rfl, HBX.out, HBL.out⟩
        · have hne : ((h : Int) != 1) = true := bne_iff_ne.2 (by omega)
          clear h1
          go_wp2_with fail
          go_quiet (fail)
          go_wp2_with fail
          go_meet
          case rel => exact ⟨rfl, rfl, HBX.out.drewN _, bel_drewN HBL.out _⟩
      case rest =>
        obtain ⟨rfl, rfl, hbox, hbel⟩ := hcut
        clear HBX HBL
        rename World => w1
        obtain ⟨f1, f2, _, _⟩ := two_cell hbox.x
        obtain ⟨f3, f4, _, _⟩ := two_cell hbox.y
        obtain ⟨f5, f6, f7, f8⟩ := two_cell hbox.z
        have HBX : Hid (Box w.heap.size xn xd yn yd w1.drew) := ⟨hbox.x, hbox.y, hbox.z⟩
        have HBL : Hid _ := hbel.drew
        clear hbox hbel
        go_wp2_with fail
        go_region_held3 (fun w' => w'.cell? ⟨w.heap.size, 0, none⟩ = some (.int .i64 xn) ∧ w'.cell? ⟨w.heap.size + 1, 0, none⟩ = some (.int .i64 yn)) (first | (go_keep; done) | ((try dsimp only); (repeat' apply And.intro) <;> (first | (simp [go_sem, *]; done))))
          (first | (go_at_call_of 26 qx; refine Calls.mono (M1.out _) ?_; rintro e w1 ⟨rfl, hb⟩; replace HBX := Box.next HBX hb; replace HBL := bel_next HBL hb; clear hb; obtain ⟨g1, g2, g3, g4⟩ := Box.cells HBX)
                 | (go_at_call_of 26 rx; refine Calls.mono (M2.out _) ?_; rintro e w1 ⟨rfl, hb⟩; replace HBX := Box.next HBX hb; replace HBL := bel_next HBL hb; clear hb; obtain ⟨g1, g2, g3, g4⟩ := Box.cells HBX)
                 | (go_at_call 25; refine Calls.mono (H25.out _ HBL.out) ?_; rintro e w1 ⟨⟨rn, rd, rv, hP, rfl⟩, hb⟩; have HP : Hid _ := hP; clear hP; replace HBX := Box.next HBX hb; replace HBL := bel_next HBL hb; clear hb; obtain ⟨g1, g2, g3, g4⟩ := Box.cells HBX; obtain ⟨g5, g6, g7, g8⟩ := two_cell HBX.out.z))
        all_goals go_wp2_with fail
        all_goals
          refine bodyPost_ret (v := .tuple #[.agg #[.int .i64 rn, .int .i64 rd], rv]) (by simp [results, Ybad.results12, go_sem, g5, g6]) rfl ?_
          exact ⟨⟨rn, rd, rv, HP.out, rfl⟩, (HBL.out.setCell (by simp; omega) _).setCell (by simp; omega) _⟩

end Go.Proofs.YbulksayDoor
