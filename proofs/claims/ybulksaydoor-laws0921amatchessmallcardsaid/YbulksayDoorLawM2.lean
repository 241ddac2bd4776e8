import Derived.Test.YbulksayDoorLawM
namespace Go.Proofs.YbulksayDoor
open Go.RowKit

theorem sgn_zero (b : Bool) : sgn b 0 = 0 := by cases b <;> rfl

/-- A Rat of small parts. -/
theorem mk_small (n d : Int) (hn : n.natAbs ≤ 2147483648) (hd : d.natAbs ≤ 2147483648) (hd0 : d ≠ 0) :
    ∃ (xn : Int) (D : Nat), Mk n d xn ((D : Int) - 1) ∧ (∀ n' d', Mk n d n' d' → n' = xn ∧ d' = (D : Int) - 1) ∧ xn.natAbs ≤ 2147483648 ∧ 0 < D ∧ D ≤ 2147483648 ∧ Nat.gcd xn.natAbs D = 1 := by
  have l1 := Nat.div_le_self n.natAbs (Nat.gcd n.natAbs d.natAbs)
  have l2 := Nat.div_le_self d.natAbs (Nat.gcd n.natAbs d.natAbs)
  have hok : TryOk n d := ⟨by omega, by omega, by omega⟩
  have hg : 0 < Nat.gcd n.natAbs d.natAbs := Nat.gcd_pos_of_pos_right _ (by omega)
  have ha : (tryN n d).natAbs = n.natAbs / Nat.gcd n.natAbs d.natAbs := sgn_natAbs _ _
  refine ⟨tryN n d, d.natAbs / Nat.gcd n.natAbs d.natAbs, Or.inl ⟨hok, rfl, rfl⟩, ?_, by omega, ?_, by omega, ?_⟩
  · intro n' d' h
    rcases h with ⟨_, rfl, rfl⟩ | ⟨q, _⟩
    · exact ⟨rfl, rfl⟩
    · exact absurd hok q
  · exact Nat.div_pos (Nat.gcd_le_right _ (by omega)) hg
  · rw [ha]; exact Nat.coprime_div_gcd_div_gcd hg

theorem mul_le (a b : Nat) (ha : a ≤ 2147483648) (hb : b ≤ 2147483648) : a * b ≤ 4611686018427387904 := Nat.mul_le_mul ha hb

theorem sign_law (xn yn : Int) (N : Nat) (hN : xn = 0 ∨ yn = 0 → N = 0) (pd : Int) (hpd : 0 ≤ pd) :
    sgn (decide (xn * yn < 0) != decide (pd < 0)) N = sgn (decide (xn < 0) != decide (yn < 0)) N := by
  have h0 : decide (pd < 0) = false := decide_eq_false (by omega)
  rw [h0]
  by_cases hx : xn = 0
  · rw [hN (Or.inl hx), sgn_zero, sgn_zero]
  · by_cases hy : yn = 0
    · rw [hN (Or.inr hy), sgn_zero, sgn_zero]
    · congr 1
      by_cases h1 : xn < 0
      · by_cases h2 : yn < 0
        · have : 0 < xn * yn := Int.mul_pos_of_neg_of_neg h1 h2
          simp [h1, h2]; omega
        · have : xn * yn < 0 := Int.mul_neg_of_neg_of_pos h1 (by omega)
          simp [h1, h2, this]
      · by_cases h2 : yn < 0
        · have : xn * yn < 0 := Int.mul_neg_of_pos_of_neg (by omega) h2
          simp [h1, h2, this]
        · have : 0 < xn * yn := Int.mul_pos (by omega) (by omega)
          simp [h1, h2]; omega

/-- The law, over all data. -/
theorem lawM_calls (a c b d : Int) (ka : -2147483648 ≤ a ∧ a ≤ 2147483647) (kc : -2147483648 ≤ c ∧ c ≤ 2147483647) (kb : -2147483648 ≤ b ∧ b ≤ 2147483647) (kd : -2147483648 ≤ d ∧ d ≤ 2147483647) (w : World) (hG : Glob w) :
    Calls Ybad.prog 3 #[.int .i32 a, .int .i32 c, .int .i32 b, .int .i32 d] w fun e w' => e = .returned (.bool true) ∧ Below w.heap.size w w' := by
  have h4 := hG.2.2
  obtain ⟨cc, hcc, hc0, hc1⟩ : ∃ cc : Int, ((c == 0) = true ∧ cc = 1 ∨ (c == 0) = false ∧ cc = c) ∧ cc ≠ 0 ∧ cc.natAbs ≤ 2147483648 := by
    by_cases h : c = 0
    · exact ⟨1, Or.inl ⟨beq_iff_eq.2 h, rfl⟩, by omega, by omega⟩
    · exact ⟨c, Or.inr ⟨beq_eq_false_iff_ne.2 h, rfl⟩, h, by omega⟩
  obtain ⟨dd, hdd, hd0, hd1⟩ : ∃ dd : Int, ((d == 0) = true ∧ dd = 1 ∨ (d == 0) = false ∧ dd = d) ∧ dd ≠ 0 ∧ dd.natAbs ≤ 2147483648 := by
    by_cases h : d = 0
    · exact ⟨1, Or.inl ⟨beq_iff_eq.2 h, rfl⟩, by omega, by omega⟩
    · exact ⟨d, Or.inr ⟨beq_eq_false_iff_ne.2 h, rfl⟩, h, by omega⟩
  obtain ⟨xn, dx, _, ux, bx1, bx2, bx3, cx⟩ := mk_small a cc (by omega) hc1 hc0
  obtain ⟨yn, dy, _, uy, by1, by2, by3, cy⟩ := mk_small b dd (by omega) hd1 hd0
  obtain ⟨hgc, hqn, hqd⟩ := cross_law xn.natAbs dx yn.natAbs dy cx cy bx2 by2
  have hpn : (xn * yn).natAbs = xn.natAbs * yn.natAbs := Int.natAbs_mul xn yn
  have hpd : ((dx : Int) * (dy : Int)).natAbs = dx * dy := by rw [Int.natAbs_mul]; rfl
  have ln := mul_le _ _ bx1 by1
  have ld := mul_le _ _ bx3 by3
  have hNle : mulN xn.natAbs dx yn.natAbs dy ≤ 4611686018427387904 := by
    have : mulN xn.natAbs dx yn.natAbs dy ≤ xn.natAbs * yn.natAbs := Nat.mul_le_mul (Nat.div_le_self _ _) (Nat.div_le_self _ _)
    omega
  have hDle : mulD xn.natAbs dx yn.natAbs dy ≤ 4611686018427387904 := by
    have : mulD xn.natAbs dx yn.natAbs dy ≤ dx * dy := Nat.mul_le_mul (Nat.div_le_self _ _) (Nat.div_le_self _ _)
    omega
  have hdpos : 0 < dx * dy := Nat.mul_pos bx2 by2
  have hcast : (dx : Int) * (dy : Int) = ((dx * dy : Nat) : Int) := (Int.natCast_mul dx dy).symm
  have hN0 : xn = 0 ∨ yn = 0 → mulN xn.natAbs dx yn.natAbs dy = 0 := by
    rintro (h | h) <;> subst h <;> simp [mulN]
  have hsg := sign_law xn yn (mulN xn.natAbs dx yn.natAbs dy) hN0 ((dx : Int) * (dy : Int)) (by omega)
  have hok : TryOk (xn * yn) ((dx : Int) * (dy : Int)) := by
    unfold TryOk
    rw [hpn, hpd, hqn, hqd]
    have e1 : xn.natAbs / Nat.gcd xn.natAbs dy * (yn.natAbs / Nat.gcd yn.natAbs dx) = mulN xn.natAbs dx yn.natAbs dy := rfl
    have e2 : dx / Nat.gcd yn.natAbs dx * (dy / Nat.gcd xn.natAbs dy) = mulD xn.natAbs dx yn.natAbs dy := rfl
    rw [e1, e2]
    omega
  have htn : tryN (xn * yn) ((dx : Int) * (dy : Int)) = sgn (decide (xn < 0) != decide (yn < 0)) (mulN xn.natAbs dx yn.natAbs dy) := by
    unfold tryN
    rw [hpn, hpd, hqn]
    exact hsg
  have htd : tryD (xn * yn) ((dx : Int) * (dy : Int)) = ((mulD xn.natAbs dx yn.natAbs dy : Nat) : Int) - 1 := by
    unfold tryD
    rw [hpn, hpd, hqd]
    rfl
  have bpn : -9223372036854775808 ≤ xn * yn ∧ xn * yn ≤ 9223372036854775807 := by
    generalize xn * yn = p at *
    omega
  have bpd : -9223372036854775808 ≤ (dx : Int) * (dy : Int) ∧ (dx : Int) * (dy : Int) ≤ 9223372036854775807 := by
    rw [hcast]; omega
  refine lawM_walk a c b d w cc dd xn ((dx : Int) - 1) yn ((dy : Int) - 1) (sgn (decide (xn < 0) != decide (yn < 0)) (mulN xn.natAbs dx yn.natAbs dy)) (((mulD xn.natAbs dx yn.natAbs dy : Nat) : Int) - 1) (xn * yn) ((dx : Int) * (dy : Int))
    hcc hdd ka kc kb kd ?_ ?_ (fun w' hb => ?_) (fun w' hb => ?_) (fun w' hb => ?_) (fun w' hb => ?_) (fun w' => c14 _ _ w') (fun w' => c14 _ _ w') (fun w' => c15 _ _ (by omega) (by omega) w') (fun w' => c15 _ _ (by omega) (by omega) w')
  · generalize xn * yn = p at *
    rw [IntKind.wrap_i64]; omega
  · have e1 : (dx : Int) - 1 + 1 = dx := by omega
    have e2 : (dy : Int) - 1 + 1 = dy := by omega
    rw [e1, e2]
    generalize (dx : Int) * (dy : Int) = p at *
    rw [IntKind.wrap_i64]; omega
  · refine (c11 a cc (by omega) (by omega) (by omega) (by omega) w' (hG.below hb h4)).mono fun e w'' h => ⟨?_, h.2⟩
    obtain ⟨n', d', hm, he⟩ := h.1
    obtain ⟨r1, r2⟩ := ux n' d' hm
    rw [he, r1, r2]
  · refine (c11 b dd (by omega) (by omega) (by omega) (by omega) w' (hG.below hb h4)).mono fun e w'' h => ⟨?_, h.2⟩
    obtain ⟨n', d', hm, he⟩ := h.1
    obtain ⟨r1, r2⟩ := uy n' d' hm
    rw [he, r1, r2]
  · exact c12_is xn yn dx dy (by omega) (by omega) (by omega) (by omega) bx2 (by omega) by2 (by omega) w' (hG.below hb h4) _ _ rfl rfl (by omega) (by omega) _ rfl
  · refine (c13 (xn * yn) ((dx : Int) * (dy : Int)) bpn.1 bpn.2 bpd.1 bpd.2 w' (hG.below hb h4)).mono fun e w'' h => ⟨?_, h.2⟩
    obtain ⟨n', d', v, ho, he⟩ := h.1
    rcases ho with ⟨_, r1, r2, r3⟩ | ⟨k, _⟩
    · rw [he, r1, r2, r3, htn, htd]
    · exact absurd hok k
end Go.Proofs.YbulksayDoor
