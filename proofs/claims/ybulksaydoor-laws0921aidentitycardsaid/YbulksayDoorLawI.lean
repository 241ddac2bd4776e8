import Derived.Test.YbulksayDoorMul2
namespace Go.Proofs.YbulksayDoor
open Go.RowKit

theorem mul_one_right (xn : Int) (dx : Nat) : mulN xn.natAbs dx (1 : Int).natAbs 1 = xn.natAbs ∧ mulD xn.natAbs dx (1 : Int).natAbs 1 = dx := by
  simp [mulN, mulD]
theorem mul_one_left (xn : Int) (dx : Nat) : mulN (1 : Int).natAbs 1 xn.natAbs dx = xn.natAbs ∧ mulD (1 : Int).natAbs 1 xn.natAbs dx = dx := by
  simp [mulN, mulD]
theorem mul_zero_right (xn : Int) (dx : Nat) (h : 0 < dx) : mulN xn.natAbs dx (0 : Int).natAbs 1 = 0 ∧ mulD xn.natAbs dx (0 : Int).natAbs 1 = 1 := by
  simp [mulN, mulD, Nat.div_self h]

theorem law_walk (n d : Int) (w : World) (xn xd : Int)
    (X11 : Hid (Calls Ybad.prog 11 #[.int .i64 n, .int .i64 d] w fun e w' => e = .returned (.agg #[.int .i64 xn, .int .i64 xd]) ∧ Below w.heap.size w w'))
    (XA : Hid (∀ w', Below w.heap.size w w' → Calls Ybad.prog 12 #[.agg #[.int .i64 xn, .int .i64 xd], .agg #[.int .i64 1, .int .i64 0]] w' fun e w'' => e = .returned (.tuple #[.agg #[.int .i64 xn, .int .i64 xd], .nilIface]) ∧ Below w'.heap.size w' w''))
    (XB : Hid (∀ w', Below w.heap.size w w' → Calls Ybad.prog 12 #[.agg #[.int .i64 1, .int .i64 0], .agg #[.int .i64 xn, .int .i64 xd]] w' fun e w'' => e = .returned (.tuple #[.agg #[.int .i64 xn, .int .i64 xd], .nilIface]) ∧ Below w'.heap.size w' w''))
    (XC : Hid (∀ w', Below w.heap.size w w' → Calls Ybad.prog 12 #[.agg #[.int .i64 xn, .int .i64 xd], .agg #[.int .i64 0, .int .i64 0]] w' fun e w'' => e = .returned (.tuple #[.agg #[.int .i64 0, .int .i64 0], .nilIface]) ∧ Below w'.heap.size w' w'')) :
    Calls Ybad.prog 5 #[.int .i64 n, .int .i64 d] w fun e w' => e = .returned (.bool true) ∧ Below w.heap.size w w' := by
  go_enter Ybad.func5, Ybad.ntmps5
  go_wp2_with fail
  refine Calls.mono X11.out ?_
  rintro e w1 ⟨rfl, hb1⟩
  have HB1 : Hid _ := hb1
  clear hb1
  go_wp2_with fail
  have HB2 : Hid (Below w.heap.size w ((w1.alloc (.cells #[.int .i64 xn, .int .i64 xd] 23)).alloc (.cells #[.int .i64 1, .int .i64 0] 23))) :=
    (HB1.out.alloc HB1.out.size _).alloc (by have := HB1.out.size; simp; omega) _
  refine Calls.mono (XA.out _ HB2.out) ?_
  rintro e w2 ⟨rfl, hb⟩
  have hx : w2.heap[w1.heap.size]? = some (.cells #[.int .i64 xn, .int .i64 xd] 23 (0, 0)) := by
    rw [hb.block _ (by simp; omega), Below.heap_alloc _ _ _ (by simp)]; exact blk_new w1 _
  have ho : w2.heap[w1.heap.size + 1]? = some (.cells #[.int .i64 1, .int .i64 0] 23 (0, 0)) := by
    rw [hb.block _ (by simp)]
    have := blk_new (w1.alloc (.cells #[.int .i64 xn, .int .i64 xd] 23)) (.cells #[.int .i64 1, .int .i64 0] 23)
    simp only [World.size_alloc] at this
    exact this
  have HB3 : Hid (Below w.heap.size w w2) := bel_next HB2 hb
  have HX : Hid _ := hx
  have HO : Hid _ := ho
  have s2 : w1.heap.size + 1 < w2.heap.size := lt_of_block ho
  have s1 : w1.heap.size < w2.heap.size := lt_of_block hx
  obtain ⟨f1, f2, _, _⟩ := two_cell hx
  obtain ⟨f3, f4, _, _⟩ := two_cell ho
  clear hb hx ho
  go_wp2_with fail
  have HB4 : Hid (Below w.heap.size w (w2.alloc (.cells #[.int .i64 xn, .int .i64 xd] 23))) := HB3.out.alloc HB3.out.size _
  refine Calls.mono (XB.out _ HB4.out) ?_
  rintro e w3 ⟨rfl, hb⟩
  have hx : w3.heap[w1.heap.size]? = some (.cells #[.int .i64 xn, .int .i64 xd] 23 (0, 0)) := by
    rw [hb.block _ (by simp; omega), Below.heap_alloc _ _ _ s1]; exact HX.out
  have hr : w3.heap[w2.heap.size]? = some (.cells #[.int .i64 xn, .int .i64 xd] 23 (0, 0)) := by
    rw [hb.block _ (by simp)]; exact blk_new w2 _
  have HB5 : Hid (Below w.heap.size w w3) := bel_next HB4 hb
  clear HX f1 f2 f3 f4 s2
  have HX : Hid _ := hx
  obtain ⟨f1, f2, _, _⟩ := two_cell hx
  obtain ⟨f3, f4, f5, f6⟩ := two_cell hr
  have hne : w2.heap.size ≠ w1.heap.size := by omega
  have hne' : w1.heap.size ≠ w2.heap.size := by omega
  have s3 : w1.heap.size < w3.heap.size := lt_of_block hx
  clear hb hx hr
  go_wp2_with fail
  have hge : w.heap.size ≤ w2.heap.size := HB3.out.size
  have HB6 : Hid (Below w.heap.size w ((w3.setCell ⟨w2.heap.size, 0, none⟩ (.int .i64 xn)).setCell ⟨w2.heap.size, 1, none⟩ (.int .i64 xd))) :=
    (HB5.out.setCell hge _).setCell hge _
  refine Calls.mono (XC.out _ HB6.out) ?_
  rintro e w4 ⟨rfl, hb⟩
  have HB7 : Hid (Below w.heap.size w w4) := bel_next HB6 hb
  clear hb f1 f2 f3 f4 f5 f6
  go_wp2_with fail
  go_ret
  exact ⟨rfl, HB7.out.alloc HB7.out.size _⟩

/-- The law, over all data. -/
theorem law_calls (n d : Int) (hn1 : -9223372036854775808 ≤ n) (hn2 : n ≤ 9223372036854775807) (hd1 : -9223372036854775808 ≤ d) (hd2 : d ≤ 9223372036854775807) (w : World) (hG : Glob w) :
    Calls Ybad.prog 5 #[.int .i64 n, .int .i64 d] w fun e w' => e = .returned (.bool true) ∧ Below w.heap.size w w' := by
  have h4 := hG.2.2
  have hmk : ∃ n' d', Mk n d n' d' := by
    by_cases h : TryOk n d
    · exact ⟨_, _, Or.inl ⟨h, rfl, rfl⟩⟩
    · exact ⟨_, _, Or.inr ⟨h, rfl, rfl⟩⟩
  obtain ⟨xn, xd, hmk⟩ := hmk
  have huniq : ∀ n' d', Mk n d n' d' → n' = xn ∧ d' = xd := by
    intro n' d' h
    rcases hmk with ⟨k, rfl, rfl⟩ | ⟨k, rfl, rfl⟩
    · rcases h with ⟨_, rfl, rfl⟩ | ⟨q, _⟩
      · exact ⟨rfl, rfl⟩
      · exact absurd k q
    · rcases h with ⟨q, _⟩ | ⟨_, rfl, rfl⟩
      · exact absurd q k
      · exact ⟨rfl, rfl⟩
  obtain ⟨D, rfl, hD1, hD2, hN, _⟩ := mk_facts hmk
  have s1 : sgn (decide (xn < 0) != decide ((1 : Int) < 0)) xn.natAbs = xn := by unfold sgn; split <;> simp at * <;> omega
  have s2 : sgn (decide ((1 : Int) < 0) != decide (xn < 0)) xn.natAbs = xn := by unfold sgn; split <;> simp at * <;> omega
  have s3 : sgn (decide (xn < 0) != decide ((0 : Int) < 0)) 0 = 0 := by unfold sgn; split <;> simp
  refine law_walk n d w xn ((D : Int) - 1) ?_ (fun w' hb => ?_) (fun w' hb => ?_) (fun w' hb => ?_)
  · refine (c11 n d hn1 hn2 hd1 hd2 w hG).mono fun e w' h => ⟨?_, h.2⟩
    obtain ⟨n', d', hm, he⟩ := h.1
    obtain ⟨r1, r2⟩ := huniq n' d' hm
    rw [he, r1, r2]
  · exact c12_is xn 1 D 1 (by omega) (by omega) (by omega) (by omega) hD1 hD2 (by omega) (by omega) w' (hG.below hb h4) _ _ (mul_one_right xn D).1 (mul_one_right xn D).2 hN hD2 _ s1
  · exact c12_is 1 xn 1 D (by omega) (by omega) (by omega) (by omega) (by omega) (by omega) hD1 hD2 w' (hG.below hb h4) _ _ (mul_one_left xn D).1 (mul_one_left xn D).2 hN hD2 _ s2
  · exact c12_is xn 0 D 1 (by omega) (by omega) (by omega) (by omega) hD1 hD2 (by omega) (by omega) w' (hG.below hb h4) _ _ (mul_zero_right xn D hD1).1 (mul_zero_right xn D hD1).2 (by omega) (by omega) _ s3
end Go.Proofs.YbulksayDoor
