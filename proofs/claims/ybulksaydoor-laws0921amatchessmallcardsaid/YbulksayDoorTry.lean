import Derived.Test.YbulksayDoorRatio
namespace Go.Proofs.YbulksayDoor
open Go.RowKit

/-- With a sign. -/
def sgn (neg : Bool) (m : Nat) : Int := if neg then -(m : Int) else m

/-- Try's answer fits. -/
def TryOk (n d : Int) : Prop := d.natAbs ≠ 0 ∧ n.natAbs / Nat.gcd n.natAbs d.natAbs ≤ 9223372036854775807 ∧ d.natAbs / Nat.gcd n.natAbs d.natAbs ≤ 9223372036854775807
def tryN (n d : Int) : Int := sgn (decide (n < 0) != decide (d < 0)) (n.natAbs / Nat.gcd n.natAbs d.natAbs)
def tryD (n d : Int) : Int := ((d.natAbs / Nat.gcd n.natAbs d.natAbs : Nat) : Int) - 1

theorem c13 (n d : Int) (hn1 : -9223372036854775808 ≤ n) (hn2 : n ≤ 9223372036854775807) (hd1 : -9223372036854775808 ≤ d) (hd2 : d ≤ 9223372036854775807) (w : World) (hG : Hid (Glob w)) :
    Calls Ybad.prog 13 #[.int .i64 n, .int .i64 d] w fun e w' => Res e (TryOk n d) (tryN n d) (tryD n d) ∧ Below w.heap.size w w' := by
  have h4 := hG.out.2.2
  have X27 : Hid (∀ w', Below w.heap.size w w' → Calls Ybad.prog 27 #[.bool (decide (n < 0) != decide (d < 0)), .int .u64 (n.natAbs : Int), .int .u64 (d.natAbs : Int)] w' fun e w'' => Res e (TryOk n d) (tryN n d) (tryD n d) ∧ Below w'.heap.size w' w'') :=
    fun w' hb => c27 _ _ _ (by omega) (by omega) w' (hG.out.below hb h4)
  go_enter Ybad.func13, Ybad.ntmps13
  go_wp2_with fail
  refine Calls.mono (c23 n hn1 hn2 _) ?_
  rintro e w' ⟨rfl, rfl⟩
  go_wp2_with fail
  refine Calls.mono (c23 d hd1 hd2 _) ?_
  rintro e w' ⟨rfl, rfl⟩
  go_wp2_with fail
  refine Calls.mono (X27.out _ ((Below.refl _ w).alloc (Nat.le_refl _) _)) ?_
  rintro e w1 ⟨⟨n', d', v, hP, rfl⟩, hbel⟩
  have HP : Hid _ := hP
  have HB : Hid _ := hbel
  have hblk : w1.heap[w.heap.size]? = some (.cells #[Value.int IntKind.i64 0, Value.int IntKind.i64 0] 23 (0, 0)) := by
    rw [hbel.block w.heap.size (by simp)]; exact blk_new w _
  obtain ⟨k0, k1, k2, k3⟩ := two_cell hblk
  clear hP hbel hblk X27
  go_wp2_with fail
  refine bodyPost_ret (v := .tuple #[.agg #[.int .i64 n', .int .i64 d'], v]) (by simp [results, Ybad.results13, go_sem, k0, k1]) rfl ?_
  refine ⟨⟨n', d', v, HP.out, rfl⟩, ?_⟩
  have b1 := (Below.refl _ w).alloc (Nat.le_refl _) (.cells #[Value.int IntKind.i64 0, Value.int IntKind.i64 0] 23)
  have b2 := Below.trans b1 (HB.out.mono (by simp))
  exact (b2.setCell (Nat.le_refl _) _).setCell (Nat.le_refl _) _

/-- zzs0921amk's answer. -/
def Mk (n d n' d' : Int) : Prop := (TryOk n d ∧ n' = tryN n d ∧ d' = tryD n d) ∨ (¬ TryOk n d ∧ n' = 0 ∧ d' = 0)

theorem c11 (n d : Int) (hn1 : -9223372036854775808 ≤ n) (hn2 : n ≤ 9223372036854775807) (hd1 : -9223372036854775808 ≤ d) (hd2 : d ≤ 9223372036854775807) (w : World) (hG : Hid (Glob w)) :
    Calls Ybad.prog 11 #[.int .i64 n, .int .i64 d] w fun e w' => (∃ n' d', Mk n d n' d' ∧ e = .returned (.agg #[.int .i64 n', .int .i64 d'])) ∧ Below w.heap.size w w' := by
  have h4 := hG.out.2.2
  have X13 : Hid (∀ w', Below w.heap.size w w' → Calls Ybad.prog 13 #[.int .i64 n, .int .i64 d] w' fun e w'' => Res e (TryOk n d) (tryN n d) (tryD n d) ∧ Below w'.heap.size w' w'') :=
    fun w' hb => c13 n d hn1 hn2 hd1 hd2 w' (hG.out.below hb h4)
  clear hn1 hn2 hd1 hd2
  go_enter Ybad.func11, Ybad.ntmps11
  go_wp2_with fail
  refine Calls.mono (X13.out _ ((Below.refl _ w).alloc (Nat.le_refl _) _)) ?_
  rintro e w1 ⟨⟨n', d', v, hP, rfl⟩, hbel⟩
  have HB : Hid _ := hbel
  have hblk : w1.heap[w.heap.size]? = some (.cells #[Value.int IntKind.i64 0, Value.int IntKind.i64 0] 23 (0, 0)) := by
    rw [hbel.block w.heap.size (by simp)]; exact blk_new w _
  have hsz : w.heap.size < w1.heap.size := by have := hbel.size; simp at this; omega
  obtain ⟨k0, k1, k2, k3⟩ := two_cell hblk
  clear hbel hblk X13
  rcases hP with ⟨hok, rfl, rfl, rfl⟩ | ⟨hno, rfl, rfl, t, p, rfl⟩
  · have HP : Hid _ := hok
    clear hok
    go_wp2_with fail
    refine bodyPost_ret (v := .agg #[.int .i64 (tryN n d), .int .i64 (tryD n d)]) (by simp [results, Ybad.results11, go_sem, k0, k1, hsz]) rfl ?_
    refine ⟨⟨_, _, Or.inl ⟨HP.out, rfl, rfl⟩, rfl⟩, ?_⟩
    have b1 := (Below.refl _ w).alloc (Nat.le_refl _) (.cells #[Value.int IntKind.i64 0, Value.int IntKind.i64 0] 23)
    have b2 := Below.trans b1 (HB.out.mono (by simp))
    exact ((b2.setCell (Nat.le_refl _) _).setCell (Nat.le_refl _) _).alloc (by simp; omega) _
  · have HP : Hid _ := hno
    clear hno
    go_wp2_with fail
    refine bodyPost_ret (v := .agg #[.int .i64 0, .int .i64 0]) (by simp [results, Ybad.results11, go_sem, k0, k1, hsz]) rfl ?_
    refine ⟨⟨_, _, Or.inr ⟨HP.out, rfl, rfl⟩, rfl⟩, ?_⟩
    have b1 := (Below.refl _ w).alloc (Nat.le_refl _) (.cells #[Value.int IntKind.i64 0, Value.int IntKind.i64 0] 23)
    have b2 := Below.trans b1 (HB.out.mono (by simp))
    exact ((b2.setCell (Nat.le_refl _) _).setCell (Nat.le_refl _) _).alloc (by simp; omega) _

end Go.Proofs.YbulksayDoor
