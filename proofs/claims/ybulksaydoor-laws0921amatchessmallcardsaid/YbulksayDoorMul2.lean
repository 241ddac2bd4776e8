import Derived.Test.YbulksayDoorMul
namespace Go.Proofs.YbulksayDoor
open Go.RowKit

/-- The product's numerator and denominator, crosswise cancelled: nx / dx times ny / dy. -/
def mulN (nx dx ny dy : Nat) : Nat := nx / Nat.gcd nx dy * (ny / Nat.gcd ny dx)
def mulD (nx dx ny dy : Nat) : Nat := dx / Nat.gcd ny dx * (dy / Nat.gcd nx dy)

theorem div_wrap (a b : Nat) (h : a < 18446744073709551616) : IntKind.u64.wrap ((a : Int) / (b : Int)) = ((a / b : Nat) : Int) := by
  have e : (a : Int) / (b : Int) = ((a / b : Nat) : Int) := (Int.natCast_ediv _ _).symm
  have l := Nat.div_le_self a b
  rw [e]
  generalize a / b = q at *
  rw [IntKind.wrap_u64]; omega

/-- TryMul. -/
theorem c12 (xn yn : Int) (dx dy : Nat) (hxn1 : -9223372036854775808 ≤ xn) (hxn2 : xn ≤ 9223372036854775807) (hyn1 : -9223372036854775808 ≤ yn) (hyn2 : yn ≤ 9223372036854775807)
    (hdx1 : 0 < dx) (hdx2 : dx ≤ 9223372036854775807) (hdy1 : 0 < dy) (hdy2 : dy ≤ 9223372036854775807) (w : World) (hG : Hid (Glob w)) :
    Calls Ybad.prog 12 #[.agg #[.int .i64 xn, .int .i64 ((dx : Int) - 1)], .agg #[.int .i64 yn, .int .i64 ((dy : Int) - 1)]] w fun e w' =>
      Res e (mulN xn.natAbs dx yn.natAbs dy ≤ 9223372036854775807 ∧ mulD xn.natAbs dx yn.natAbs dy ≤ 9223372036854775807)
        (sgn (decide (xn < 0) != decide (yn < 0)) (mulN xn.natAbs dx yn.natAbs dy)) ((mulD xn.natAbs dx yn.natAbs dy : Int) - 1) ∧ Below w.heap.size w w' := by
  have h4 := hG.out.2.2
  obtain ⟨nx, hnx⟩ : ∃ nx, nx = xn.natAbs := ⟨_, rfl⟩
  obtain ⟨ny, hny⟩ : ∃ ny, ny = yn.natAbs := ⟨_, rfl⟩
  have lx : nx < 18446744073709551616 := by omega
  have ly : ny < 18446744073709551616 := by omega
  have HX := c23 xn hxn1 hxn2
  have HY := c23 yn hyn1 hyn2
  rw [← hnx] at HX ⊢
  rw [← hny] at HY ⊢
  have ldx : dx < 18446744073709551616 := by omega
  have ldy : dy < 18446744073709551616 := by omega
  have hg : 0 < Nat.gcd nx dy := Nat.gcd_pos_of_pos_right _ hdy1
  have hh : 0 < Nat.gcd ny dx := Nat.gcd_pos_of_pos_right _ hdx1
  have l1 : nx / Nat.gcd nx dy < 18446744073709551616 := Nat.lt_of_le_of_lt (Nat.div_le_self _ _) lx
  have l2 : ny / Nat.gcd ny dx < 18446744073709551616 := Nat.lt_of_le_of_lt (Nat.div_le_self _ _) ly
  have l3 : dx / Nat.gcd ny dx < 18446744073709551616 := Nat.lt_of_le_of_lt (Nat.div_le_self _ _) ldx
  have l4 : dy / Nat.gcd nx dy < 18446744073709551616 := Nat.lt_of_le_of_lt (Nat.div_le_self _ _) ldy
  refine (mul_core xn _ yn _ w nx ny dx dy (Nat.gcd nx dy) (Nat.gcd ny dx) _ _ _ _ _ _ _ _
    (Out (mulN nx dx ny dy ≤ 9223372036854775807 ∧ mulD nx dx ny dy ≤ 9223372036854775807) (sgn (decide (xn < 0) != decide (yn < 0)) (mulN nx dx ny dy)) ((mulD nx dx ny dy : Int) - 1))
    (by rw [IntKind.wrap_u64]; omega) (by rw [IntKind.wrap_u64]; omega) hg hh
    (div_wrap _ _ lx) (div_wrap _ _ ldy) (div_wrap _ _ ly) (div_wrap _ _ ldx)
    (fun h => by rw [h]; simp) (fun h => by rw [h]; simp) HX HY (fun w => ?_) (fun w => ?_)
    (fun w' hb => c24 nx dy ny dx lx ldy ly ldx hdy1 hdx1 w' (hG.out.below hb h4).1)
    (fun w => c26 _ _ l1 l2 w) (fun w => c26 _ _ l3 l4 w) (fun w' hb => ?_)).mono fun e w' h => h
  · exact c15 xn _ (by omega) (by omega) w
  · exact c15 yn _ (by omega) (by omega) w
  · refine (c25 _ _ _ _ _ w' (hG.out.below hb h4).2.1).mono fun e w'' h => ⟨?_, h.2⟩
    obtain ⟨n', d', v, ho, he⟩ := h.1
    refine ⟨n', d', v, ?_, he⟩
    have q1 : nx / Nat.gcd nx dy * (ny / Nat.gcd ny dx) = mulN nx dx ny dy := rfl
    have q2 : dx / Nat.gcd ny dx * (dy / Nat.gcd nx dy) = mulD nx dx ny dy := rfl
    rw [q1, q2] at ho
    generalize mulN nx dx ny dy = N at *
    generalize mulD nx dx ny dy = D at *
    rcases ho with ⟨k, r1, r2, r3⟩ | ⟨k, r⟩
    · have z1 : N % 18446744073709551616 = N := by omega
      have z2 : D % 18446744073709551616 = D := by omega
      rw [z1] at r1
      rw [z2] at r2
      exact Or.inl ⟨by omega, r1, r2, r3⟩
    · exact Or.inr ⟨fun q => k (by omega), r⟩

/-- TryMul where the answer is known and fits. -/
theorem c12_is (xn yn : Int) (dx dy : Nat) (hxn1 : -9223372036854775808 ≤ xn) (hxn2 : xn ≤ 9223372036854775807) (hyn1 : -9223372036854775808 ≤ yn) (hyn2 : yn ≤ 9223372036854775807)
    (hdx1 : 0 < dx) (hdx2 : dx ≤ 9223372036854775807) (hdy1 : 0 < dy) (hdy2 : dy ≤ 9223372036854775807) (w : World) (hG : Hid (Glob w))
    (N D : Nat) (hN : mulN xn.natAbs dx yn.natAbs dy = N) (hD : mulD xn.natAbs dx yn.natAbs dy = D) (hN1 : N ≤ 9223372036854775807) (hD1 : D ≤ 9223372036854775807) (n : Int) (hn : sgn (decide (xn < 0) != decide (yn < 0)) N = n) :
    Calls Ybad.prog 12 #[.agg #[.int .i64 xn, .int .i64 ((dx : Int) - 1)], .agg #[.int .i64 yn, .int .i64 ((dy : Int) - 1)]] w fun e w' =>
      e = .returned (.tuple #[.agg #[.int .i64 n, .int .i64 ((D : Int) - 1)], .nilIface]) ∧ Below w.heap.size w w' := by
  refine (c12 xn yn dx dy hxn1 hxn2 hyn1 hyn2 hdx1 hdx2 hdy1 hdy2 w hG).mono fun e w' h => ⟨?_, h.2⟩
  obtain ⟨n', d', v, ho, he⟩ := h.1
  rw [hN, hD, hn] at ho
  rcases ho with ⟨_, r1, r2, r3⟩ | ⟨k, _⟩
  · rw [he, r1, r2, r3]
  · exact absurd ⟨hN1, hD1⟩ k

theorem sgn_natAbs (b : Bool) (m : Nat) : (sgn b m).natAbs = m := by
  unfold sgn
  split <;> omega

/-- What zzs0921amk answers: a Rat in lowest terms. -/
theorem mk_facts {n d n' d' : Int} (h : Mk n d n' d') :
    ∃ D : Nat, d' = (D : Int) - 1 ∧ 0 < D ∧ D ≤ 9223372036854775807 ∧ n'.natAbs ≤ 9223372036854775807 ∧ Nat.gcd n'.natAbs D = 1 := by
  rcases h with ⟨⟨h1, h2, h3⟩, rfl, rfl⟩ | ⟨_, rfl, rfl⟩
  · have hg : 0 < Nat.gcd n.natAbs d.natAbs := Nat.gcd_pos_of_pos_right _ (by omega)
    have ha : (tryN n d).natAbs = n.natAbs / Nat.gcd n.natAbs d.natAbs := sgn_natAbs _ _
    refine ⟨d.natAbs / Nat.gcd n.natAbs d.natAbs, rfl, ?_, h3, by rw [ha]; exact h2, ?_⟩
    · exact Nat.div_pos (Nat.gcd_le_right _ (by omega)) hg
    · rw [ha]; exact Nat.coprime_div_gcd_div_gcd hg
  · exact ⟨1, rfl, by omega, by omega, by simp, by simp⟩

end Go.Proofs.YbulksayDoor
