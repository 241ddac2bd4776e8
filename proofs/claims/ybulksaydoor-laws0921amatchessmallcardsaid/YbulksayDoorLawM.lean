import Derived.Test.YbulksayDoorMul2
namespace Go.Proofs.YbulksayDoor
open Go.RowKit

/-- The two factors and the product, in blocks of their own. -/
structure Box3 (B1 B2 B3 : Nat) (xn xd yn yd rn rd : Int) (w : World) : Prop where
  x : w.heap[B1]? = some (.cells #[.int .i64 xn, .int .i64 xd] 23 (0, 0))
  y : w.heap[B2]? = some (.cells #[.int .i64 yn, .int .i64 yd] 23 (0, 0))
  z : w.heap[B3]? = some (.cells #[.int .i64 rn, .int .i64 rd] 23 (0, 0))

theorem Box3.next {B1 B2 B3 : Nat} {xn xd yn yd rn rd : Int} {w w' : World} (h : Hid (Box3 B1 B2 B3 xn xd yn yd rn rd w)) (hb : Below w.heap.size w w') : Hid (Box3 B1 B2 B3 xn xd yn yd rn rd w') :=
  ⟨by rw [hb.block _ (lt_of_block h.out.x)]; exact h.out.x, by rw [hb.block _ (lt_of_block h.out.y)]; exact h.out.y, by rw [hb.block _ (lt_of_block h.out.z)]; exact h.out.z⟩

theorem Box3.cells {B1 B2 B3 : Nat} {xn xd yn yd rn rd : Int} {w : World} (h : Hid (Box3 B1 B2 B3 xn xd yn yd rn rd w)) :
    w.cell? ⟨B1, 0, none⟩ = some (.int .i64 xn) ∧ w.cell? ⟨B1, 1, none⟩ = some (.int .i64 xd) ∧ w.cell? ⟨B2, 0, none⟩ = some (.int .i64 yn) ∧ w.cell? ⟨B2, 1, none⟩ = some (.int .i64 yd) ∧ B1 < w.heap.size ∧ B2 < w.heap.size :=
  ⟨(two_cell h.out.x).1, (two_cell h.out.x).2.1, (two_cell h.out.y).1, (two_cell h.out.y).2.1, lt_of_block h.out.x, lt_of_block h.out.y⟩

theorem Box3.nextA {B1 B2 B3 : Nat} {xn xd yn yd rn rd : Int} {w w' : World} {o : Obj} (h : Hid (Box3 B1 B2 B3 xn xd yn yd rn rd w)) (hb : Below (w.alloc o).heap.size (w.alloc o) w') : Hid (Box3 B1 B2 B3 xn xd yn yd rn rd w') :=
  Box3.next (Box3.next h ((Below.refl _ w).alloc (Nat.le_refl _) o)) hb
theorem bel_nextA {a w w' : World} {o : Obj} (h : Hid (Below a.heap.size a w)) (hb : Below (w.alloc o).heap.size (w.alloc o) w') : Hid (Below a.heap.size a w') :=
  bel_next (bel_next h ((Below.refl _ w).alloc (Nat.le_refl _) o)) hb
theorem bel_allocd {a w : World} {o : Obj} (h : Hid (Below a.heap.size a w)) : Below a.heap.size a (w.alloc o) := h.out.alloc h.out.size o

/-- The place of the other answer, once it is laid. -/
structure Zed (B1 B2 B3 bz A : Nat) (w : World) : Prop where
  blk : w.heap[bz]? = some (.cells #[.int .i64 0, .int .i64 0] 23 (0, 0))
  n1 : B1 < bz
  n2 : B2 < bz
  n3 : B3 < bz
  n0 : A ≤ bz
theorem Zed.next {B1 B2 B3 bz A : Nat} {w w' : World} (h : Hid (Zed B1 B2 B3 bz A w)) (hb : Below w.heap.size w w') : Hid (Zed B1 B2 B3 bz A w') :=
  ⟨by rw [hb.block _ (lt_of_block h.out.blk)]; exact h.out.blk, h.out.n1, h.out.n2, h.out.n3, h.out.n0⟩
theorem Zed.first {B1 B2 B3 : Nat} {xn xd yn yd rn rd : Int} {a w w' : World} (h : Hid (Box3 B1 B2 B3 xn xd yn yd rn rd w)) (hl : Hid (Below a.heap.size a w))
    (hb : Below (w.alloc (.cells #[.int .i64 0, .int .i64 0] 23)).heap.size (w.alloc (.cells #[.int .i64 0, .int .i64 0] 23)) w') : Hid (Zed B1 B2 B3 w.heap.size a.heap.size w') :=
  ⟨by rw [hb.block _ (by simp)]; exact blk_new w _, lt_of_block h.out.x, lt_of_block h.out.y, lt_of_block h.out.z, hl.out.size⟩
theorem Zed.firstD {B1 B2 B3 : Nat} {xn xd yn yd rn rd : Int} {a w w' : World} (h : Hid (Box3 B1 B2 B3 xn xd yn yd rn rd w.drew)) (hl : Hid (Below a.heap.size a w.drew))
    (hb : Below (w.drew.alloc (.cells #[.int .i64 0, .int .i64 0] 23)).heap.size (w.drew.alloc (.cells #[.int .i64 0, .int .i64 0] 23)) w') : Hid (Zed B1 B2 B3 w.heap.size a.heap.size w') :=
  Zed.first (w := w.drew) h hl hb
theorem Zed.facts {B1 B2 B3 bz A : Nat} {w : World} (h : Hid (Zed B1 B2 B3 bz A w)) :
    w.cell? ⟨bz, 0, none⟩ = some (.int .i64 0) ∧ w.cell? ⟨bz, 1, none⟩ = some (.int .i64 0) ∧ w.frozen? ⟨bz, 0, none⟩ = false ∧ w.frozen? ⟨bz, 1, none⟩ = false ∧ B1 ≠ bz ∧ B2 ≠ bz :=
  ⟨(two_cell h.out.blk).1, (two_cell h.out.blk).2.1, (two_cell h.out.blk).2.2.1, (two_cell h.out.blk).2.2.2, Nat.ne_of_lt h.out.n1, Nat.ne_of_lt h.out.n2⟩

theorem blkB {w : World} {b off : Nat} {v : Value} {x : Obj} {k : Nat} (h : w.heap[k]? = some x) (hk : k ≠ b) : (w.setCell ⟨b, off, none⟩ v).heap[k]? = some x := by rw [Below.heap_setCell _ _ _ _ hk]; exact h

theorem set_two {w : World} {b : Nat} {x0 x1 : Value} {t : TypeId} (h : w.heap[b]? = some (.cells #[x0, x1] t (0, 0))) (u v : Value) :
    ((w.setCell ⟨b, 0, none⟩ u).setCell ⟨b, 1, none⟩ v).heap[b]? = some (.cells #[u, v] t (0, 0)) := by
  have h1 : (w.setCell ⟨b, 0, none⟩ u).heap[b]? = some (.cells #[u, x1] t (0, 0)) := by rw [heap_setCell_same w b 0 _ t u h]; rfl
  rw [heap_setCell_same _ b 1 _ t v h1]; rfl

set_option maxHeartbeats 8000000 in
theorem lawM_walk (a c b d : Int) (w : World) (cc dd xn xd yn yd rn rd pn pd : Int)
    (hcc : (c == 0) = true ∧ cc = 1 ∨ (c == 0) = false ∧ cc = c) (hdd : (d == 0) = true ∧ dd = 1 ∨ (d == 0) = false ∧ dd = d)
    (ka : -2147483648 ≤ a ∧ a ≤ 2147483647) (kc : -2147483648 ≤ c ∧ c ≤ 2147483647) (kb : -2147483648 ≤ b ∧ b ≤ 2147483647) (kd : -2147483648 ≤ d ∧ d ≤ 2147483647)
    (hp1 : IntKind.i64.wrap (xn * yn) = pn) (hp2 : IntKind.i64.wrap ((xd + 1) * (yd + 1)) = pd)
    (X1 : Hid (∀ w', Below w.heap.size w w' → Calls Ybad.prog 11 #[.int .i64 a, .int .i64 cc] w' fun e w'' => e = .returned (.agg #[.int .i64 xn, .int .i64 xd]) ∧ Below w'.heap.size w' w''))
    (X2 : Hid (∀ w', Below w.heap.size w w' → Calls Ybad.prog 11 #[.int .i64 b, .int .i64 dd] w' fun e w'' => e = .returned (.agg #[.int .i64 yn, .int .i64 yd]) ∧ Below w'.heap.size w' w''))
    (XM : Hid (∀ w', Below w.heap.size w w' → Calls Ybad.prog 12 #[.agg #[.int .i64 xn, .int .i64 xd], .agg #[.int .i64 yn, .int .i64 yd]] w' fun e w'' => e = .returned (.tuple #[.agg #[.int .i64 rn, .int .i64 rd], .nilIface]) ∧ Below w'.heap.size w' w''))
    (XT : Hid (∀ w', Below w.heap.size w w' → Calls Ybad.prog 13 #[.int .i64 pn, .int .i64 pd] w' fun e w'' => e = .returned (.tuple #[.agg #[.int .i64 rn, .int .i64 rd], .nilIface]) ∧ Below w'.heap.size w' w''))
    (XN : Hid (∀ w', Calls Ybad.prog 14 #[.agg #[.int .i64 xn, .int .i64 xd]] w' fun e w'' => e = .returned (.int .i64 xn) ∧ Below w'.heap.size w' w''))
    (YN : Hid (∀ w', Calls Ybad.prog 14 #[.agg #[.int .i64 yn, .int .i64 yd]] w' fun e w'' => e = .returned (.int .i64 yn) ∧ Below w'.heap.size w' w''))
    (XD : Hid (∀ w', Calls Ybad.prog 15 #[.agg #[.int .i64 xn, .int .i64 xd]] w' fun e w'' => e = .returned (.int .i64 (xd + 1)) ∧ Below w'.heap.size w' w''))
    (YD : Hid (∀ w', Calls Ybad.prog 15 #[.agg #[.int .i64 yn, .int .i64 yd]] w' fun e w'' => e = .returned (.int .i64 (yd + 1)) ∧ Below w'.heap.size w' w'')) :
    Calls Ybad.prog 3 #[.int .i32 a, .int .i32 c, .int .i32 b, .int .i32 d] w fun e w' => e = .returned (.bool true) ∧ Below w.heap.size w w' := by
  go_enter Ybad.func3, Ybad.ntmps3
  go_upto_if 22 with fail
  go_cut [9] from 22 to 22 (fun s9 wx => s9 = .int .i64 cc ∧ wx = w)
  case first =>
    rcases hcc with ⟨h1, h2⟩ | ⟨h1, h2⟩
    · subst h2
      go_wp2_with fail
      go_meet
      case rel => exact ⟨rfl, rfl⟩
    · subst h2
      go_wp2_with fail
      go_meet
      case rel => exact ⟨rfl, rfl⟩
  case rest =>
    obtain ⟨rfl, rfl⟩ := hcut
    rename World => w
    clear hcc
    go_upto_if 24 with fail
    go_cut [10] from 24 to 24 (fun s10 wx => s10 = .int .i64 dd ∧ wx = w)
    case first =>
      rcases hdd with ⟨h1, h2⟩ | ⟨h1, h2⟩
      · subst h2
        go_wp2_with fail
        go_meet
        case rel => exact ⟨rfl, rfl⟩
      · subst h2
        go_wp2_with fail
        go_meet
        case rel => exact ⟨rfl, rfl⟩
    case rest =>
      obtain ⟨rfl, rfl⟩ := hcut
      rename World => w
      clear hdd
      go_wp2_with fail
      refine Calls.mono (X1.out _ (Below.refl _ _)) ?_
      rintro e w1 ⟨rfl, hb1⟩
      have HB1 : Hid (Below w.heap.size w (w1.alloc (.cells #[.int .i64 xn, .int .i64 xd] 23))) := hb1.alloc hb1.size _
      clear hb1
      go_wp2_with fail
      refine Calls.mono (X2.out _ HB1.out) ?_
      rintro e w2 ⟨rfl, hb⟩
      have hx : w2.heap[w1.heap.size]? = some (.cells #[.int .i64 xn, .int .i64 xd] 23 (0, 0)) := by
        rw [hb.block _ (by simp)]; exact blk_new w1 _
      have s1 : w1.heap.size < w2.heap.size := lt_of_block hx
      obtain ⟨f1, f2, _, _⟩ := two_cell hx
      have HX : Hid _ := hx
      have HB2 : Hid (Below w.heap.size w (w2.alloc (.cells #[.int .i64 yn, .int .i64 yd] 23))) := ((bel_next HB1 hb).out).alloc (bel_next HB1 hb).out.size _
      clear hb hx
      go_wp2_with fail
      refine Calls.mono (XM.out _ HB2.out) ?_
      rintro e w3 ⟨rfl, hb⟩
      have HBX : Hid (Box3 w1.heap.size w2.heap.size w3.heap.size xn xd yn yd rn rd (w3.alloc (.cells #[.int .i64 rn, .int .i64 rd] 23)).drew) := by
        have l1 : w1.heap.size < w3.heap.size := by have := hb.size; simp at this; omega
        have l2 : w2.heap.size < w3.heap.size := by have := hb.size; simp at this; omega
        refine ⟨?_, ?_, blk_new w3 _⟩
        · show (w3.alloc _).heap[w1.heap.size]? = _
          rw [Below.heap_alloc _ _ _ l1, hb.block _ (by simp; omega), Below.heap_alloc _ _ _ s1]; exact HX.out
        · show (w3.alloc _).heap[w2.heap.size]? = _
          rw [Below.heap_alloc _ _ _ l2, hb.block _ (by simp)]; exact blk_new w2 _
      have HBL : Hid (Below w.heap.size w (w3.alloc (.cells #[.int .i64 rn, .int .i64 rd] 23)).drew) := (((bel_next HB2 hb).out).alloc (bel_next HB2 hb).out.size _).drew
      clear hb HX HB1 HB2 f1 f2 s1
      go_upto_region 9 with fail
      go_cut [15, 16] from 39 to 52 (fun s15 s16 wx => ∃ bw, s15 = .pointer (some ⟨bw, 0, none⟩) ∧ s16 = .nilIface ∧ wx.heap[bw]? = some (.cells #[.int .i64 rn, .int .i64 rd] 23 (0, 0)) ∧ wx.heap[w3.heap.size]? = some (.cells #[.int .i64 rn, .int .i64 rd] 23 (0, 0)) ∧ Below w.heap.size w wx)
      case first =>
        generalize hB1 : w1.heap.size = B1 at *
        generalize hB2 : w2.heap.size = B2 at *
        obtain ⟨f1, f2, f3, f4, f5, f6⟩ := Box3.cells HBX
        replace f1 : (w3.alloc (.cells #[.int .i64 rn, .int .i64 rd] 23)).cell? ⟨B1, 0, none⟩ = some (.int .i64 xn) := f1
        replace f2 : (w3.alloc (.cells #[.int .i64 rn, .int .i64 rd] 23)).cell? ⟨B1, 1, none⟩ = some (.int .i64 xd) := f2
        replace f3 : (w3.alloc (.cells #[.int .i64 rn, .int .i64 rd] 23)).cell? ⟨B2, 0, none⟩ = some (.int .i64 yn) := f3
        replace f4 : (w3.alloc (.cells #[.int .i64 rn, .int .i64 rd] 23)).cell? ⟨B2, 1, none⟩ = some (.int .i64 yd) := f4
        replace f5 : B1 < (w3.alloc (.cells #[.int .i64 rn, .int .i64 rd] 23)).heap.size := f5
        replace f6 : B2 < (w3.alloc (.cells #[.int .i64 rn, .int .i64 rd] 23)).heap.size := f6
        generalize hwx : w3.alloc (.cells #[.int .i64 rn, .int .i64 rd] 23) = wx at f1 f2 f3 f4 f5 f6 HBX HBL ⊢
        generalize hB3 : w3.heap.size = B3 at *
        clear hwx
        go_region_held3 (fun w' => w'.cell? ⟨B1, 0, none⟩ = some (.int .i64 xn) ∧ w'.cell? ⟨B1, 1, none⟩ = some (.int .i64 xd) ∧ w'.cell? ⟨B2, 0, none⟩ = some (.int .i64 yn) ∧ w'.cell? ⟨B2, 1, none⟩ = some (.int .i64 yd)) (first | (go_keep; done) | ((try dsimp only); (repeat' apply And.intro) <;> (first | (simp [go_sem, *]; done))))
          (first | (go_at_call_of 14 xn; refine Calls.mono (XN.out _) ?_; rintro e w1 ⟨rfl, hb⟩; (first | (replace HBX := Box3.next HBX hb; replace HBL := bel_next HBL hb; try (replace HZ := Zed.next HZ hb)) | (have HZ := Zed.firstD HBX HBL hb; replace HBX := Box3.nextA HBX hb; replace HBL := bel_nextA HBL hb) | (have HZ := Zed.first HBX HBL hb; replace HBX := Box3.nextA HBX hb; replace HBL := bel_nextA HBL hb)); clear hb; obtain ⟨g1, g2, g3, g4, g5, g6⟩ := Box3.cells HBX; try (have hzz := Zed.facts HZ; obtain ⟨z1, z2, z3, z4, z5, z6⟩ := hzz))
                 | (go_at_call_of 14 yn; refine Calls.mono (YN.out _) ?_; rintro e w1 ⟨rfl, hb⟩; (first | (replace HBX := Box3.next HBX hb; replace HBL := bel_next HBL hb; try (replace HZ := Zed.next HZ hb)) | (have HZ := Zed.firstD HBX HBL hb; replace HBX := Box3.nextA HBX hb; replace HBL := bel_nextA HBL hb) | (have HZ := Zed.first HBX HBL hb; replace HBX := Box3.nextA HBX hb; replace HBL := bel_nextA HBL hb)); clear hb; obtain ⟨g1, g2, g3, g4, g5, g6⟩ := Box3.cells HBX; try (have hzz := Zed.facts HZ; obtain ⟨z1, z2, z3, z4, z5, z6⟩ := hzz))
                 | (go_at_call_of 15 xn; refine Calls.mono (XD.out _) ?_; rintro e w1 ⟨rfl, hb⟩; (first | (replace HBX := Box3.next HBX hb; replace HBL := bel_next HBL hb; try (replace HZ := Zed.next HZ hb)) | (have HZ := Zed.firstD HBX HBL hb; replace HBX := Box3.nextA HBX hb; replace HBL := bel_nextA HBL hb) | (have HZ := Zed.first HBX HBL hb; replace HBX := Box3.nextA HBX hb; replace HBL := bel_nextA HBL hb)); clear hb; obtain ⟨g1, g2, g3, g4, g5, g6⟩ := Box3.cells HBX; try (have hzz := Zed.facts HZ; obtain ⟨z1, z2, z3, z4, z5, z6⟩ := hzz))
                 | (go_at_call_of 15 yn; refine Calls.mono (YD.out _) ?_; rintro e w1 ⟨rfl, hb⟩; (first | (replace HBX := Box3.next HBX hb; replace HBL := bel_next HBL hb; try (replace HZ := Zed.next HZ hb)) | (have HZ := Zed.firstD HBX HBL hb; replace HBX := Box3.nextA HBX hb; replace HBL := bel_nextA HBL hb) | (have HZ := Zed.first HBX HBL hb; replace HBX := Box3.nextA HBX hb; replace HBL := bel_nextA HBL hb)); clear hb; obtain ⟨g1, g2, g3, g4, g5, g6⟩ := Box3.cells HBX; try (have hzz := Zed.facts HZ; obtain ⟨z1, z2, z3, z4, z5, z6⟩ := hzz))
                 | (go_at_call 13; refine Calls.mono (XT.out _ ?_) ?_; (first | exact HBL.out | exact bel_allocd HBL); rintro e w1 ⟨rfl, hb⟩; (first | (replace HBX := Box3.next HBX hb; replace HBL := bel_next HBL hb; try (replace HZ := Zed.next HZ hb)) | (have HZ := Zed.firstD HBX HBL hb; replace HBX := Box3.nextA HBX hb; replace HBL := bel_nextA HBL hb) | (have HZ := Zed.first HBX HBL hb; replace HBX := Box3.nextA HBX hb; replace HBL := bel_nextA HBL hb)); clear hb; obtain ⟨g1, g2, g3, g4, g5, g6⟩ := Box3.cells HBX; try (have hzz := Zed.facts HZ; obtain ⟨z1, z2, z3, z4, z5, z6⟩ := hzz)))
        all_goals go_wp2_with fail
        all_goals go_meet
        all_goals first
          | exact ⟨_, rfl, rfl, set_two HZ.out.blk _ _, blkB (blkB HBX.out.z (Nat.ne_of_lt HZ.out.n3)) (Nat.ne_of_lt HZ.out.n3), (HBL.out.setCell HZ.out.n0 _).setCell HZ.out.n0 _⟩
          | exact ⟨_, rfl, rfl, blk_new _ _, by rw [Below.heap_alloc _ _ _ (lt_of_block HBX.out.z)]; exact HBX.out.z, bel_allocd HBL⟩
      case rest =>
        obtain ⟨bw, rfl, rfl, hw, hr, hbel⟩ := hcut
        obtain ⟨f1, f2, _, _⟩ := two_cell hw
        obtain ⟨f3, f4, _, _⟩ := two_cell hr
        have HE : Hid _ := hbel
        clear hbel hw hr
        go_wp2_with fail
        go_ret
        exact ⟨rfl, HE.out⟩
end Go.Proofs.YbulksayDoor
