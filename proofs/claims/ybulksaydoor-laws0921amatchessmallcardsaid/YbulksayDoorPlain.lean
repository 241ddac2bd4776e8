import Derived.Lib.TrailingZeros
namespace Go.Proofs.YbulksayDoor

/-- Odd, or 0. -/
def OddZ (u : Nat) : Prop := u = 0 ∨ u % 2 = 1

theorem pow_odd_unique (k k' m m' : Nat) (h : 2 ^ k * (2 * m + 1) = 2 ^ k' * (2 * m' + 1)) : k = k' := by
  have key : ∀ a b x y : Nat, a < b → 2 ^ a * (2 * x + 1) = 2 ^ b * (2 * y + 1) → False := by
    intro a b x y hab he
    obtain ⟨c, rfl⟩ : ∃ c, b = a + (c + 1) := ⟨b - a - 1, by omega⟩
    rw [Nat.pow_add, Nat.mul_assoc] at he
    have h2 := Nat.eq_of_mul_eq_mul_left (Nat.two_pow_pos a) he
    rw [Nat.pow_succ, Nat.mul_comm (2 ^ c) 2, Nat.mul_assoc] at h2
    omega
  rcases Nat.lt_trichotomy k k' with hl | he | hg
  · exact (key _ _ _ _ hl h).elim
  · exact he
  · exact (key _ _ _ _ hg h.symm).elim

theorem ctz_split (x : Nat) (h0 : 0 < x) (h : x < 18446744073709551616) : ∃ m, x = 2 ^ Lib.ctz 64 x * (2 * m + 1) ∧ Lib.ctz 64 x < 64 := by
  have e : Lib.ctz 64 x = Lib.ctzFrom 64 x := by simp [Lib.ctz]; omega
  rw [e]
  exact Lib.ctzFrom_spec 64 x h0 h

theorem ctz_eq (x k m : Nat) (h : x < 18446744073709551616) (hx : x = 2 ^ k * (2 * m + 1)) : Lib.ctz 64 x = k := by
  have h0 : 0 < x := by rw [hx]; exact Nat.mul_pos (Nat.two_pow_pos k) (by omega)
  obtain ⟨m', h1, _⟩ := ctz_split x h0 h
  exact pow_odd_unique _ _ m' m (h1.symm.trans hx)

theorem pow_or (k a b : Nat) : 2 ^ k * a ||| 2 ^ k * b = 2 ^ k * (a ||| b) := by
  have := Nat.shiftLeft_or_distrib (a := a) (b := b) (i := k)
  simp only [Nat.shiftLeft_eq] at this
  rw [Nat.mul_comm, Nat.mul_comm (2 ^ k) b, Nat.mul_comm (2 ^ k) (a ||| b)]
  exact this.symm

theorem or_odd (a b : Nat) (h : a % 2 = 1) : ∃ m, a ||| b = 2 * m + 1 := by
  have h2 : (a ||| b) % 2 = 1 := by
    have := Nat.or_mod_two_pow (a := a) (b := b) (n := 1)
    simp only [Nat.pow_one] at this
    rw [this, h]
    rcases Nat.mod_two_eq_zero_or_one b with hb | hb <;> rw [hb] <;> rfl
  exact ⟨(a ||| b) / 2, by omega⟩

theorem odd_coprime_pow (a k : Nat) (h : a % 2 = 1) : (2 ^ k).Coprime a := by
  apply Nat.Coprime.pow_left
  show Nat.gcd 2 a = 1
  rw [Nat.gcd_rec, h]
  rfl

theorem or_lt (a b : Nat) (ha : a < 18446744073709551616) (hb : b < 18446744073709551616) : a ||| b < 18446744073709551616 :=
  Nat.or_lt_two_pow (n := 64) ha hb

/-- The other part of a step: the difference with its factors of two removed. -/
def stepHi (u v : Nat) : Nat := (max u v - min u v) / 2 ^ Lib.ctz 64 (((v + 18446744073709551616 - u) % 18446744073709551616) ||| 9223372036854775808)

theorem step_ctz (D y : Nat) (h0 : 0 < D) (h : D < 18446744073709551616) (hy : y = D ∨ y = 18446744073709551616 - D) :
    Lib.ctz 64 (y ||| 9223372036854775808) = Lib.ctz 64 D := by
  obtain ⟨m, hm, hk⟩ := ctz_split D h0 h
  generalize Lib.ctz 64 D = k at *
  have hyo : ∃ o, y = 2 ^ k * o ∧ o % 2 = 1 := by
    rcases hy with rfl | hy
    · exact ⟨_, hm, by omega⟩
    · obtain ⟨c, hc⟩ : ∃ c, 64 = k + (c + 1) := ⟨63 - k, by omega⟩
      have e : (18446744073709551616 : Nat) = 2 ^ k * 2 ^ (c + 1) := by rw [← Nat.pow_add, ← hc]
      have hlt : 2 * m + 1 < 2 ^ (c + 1) := by
        rw [e, hm] at h
        exact Nat.lt_of_mul_lt_mul_left h
      refine ⟨2 ^ (c + 1) - (2 * m + 1), ?_, ?_⟩
      · rw [Nat.mul_sub, ← e, ← hm]; exact hy
      · rw [Nat.pow_succ] at hlt ⊢; omega
  obtain ⟨o, ho, hodd⟩ := hyo
  have e63 : (9223372036854775808 : Nat) = 2 ^ k * 2 ^ (63 - k) := by
    rw [← Nat.pow_add, show k + (63 - k) = 63 by omega]
  obtain ⟨m', hm'⟩ := or_odd o (2 ^ (63 - k)) hodd
  apply ctz_eq _ k m'
  · apply or_lt <;> omega
  · rw [ho, e63, pow_or, hm']

theorem step_law (u v : Nat) (hu : u < 18446744073709551616) (hv : v < 18446744073709551616) (ou : OddZ u) (ov : OddZ v) :
    OddZ (min u v) ∧ OddZ (stepHi u v) ∧ Nat.gcd (min u v) (stepHi u v) = Nat.gcd u v ∧ min u v + stepHi u v ≤ max u v := by
  have olo : OddZ (min u v) := by unfold OddZ at *; omega
  refine ⟨olo, ?_⟩
  by_cases he : u = v
  · subst he
    have : stepHi u u = 0 := by simp [stepHi]
    rw [this]
    exact ⟨Or.inl rfl, by simp, by omega⟩
  · have hD0 : 0 < max u v - min u v := by omega
    have hD : max u v - min u v < 18446744073709551616 := by omega
    have hs : stepHi u v = (max u v - min u v) / 2 ^ Lib.ctz 64 (max u v - min u v) := by
      unfold stepHi
      rw [step_ctz (max u v - min u v) _ hD0 hD (by omega)]
    obtain ⟨m, hm, hk⟩ := ctz_split _ hD0 hD
    generalize Lib.ctz 64 (max u v - min u v) = k at *
    have hval : stepHi u v = 2 * m + 1 := by
      rw [hs, hm, Nat.mul_div_cancel_left _ (Nat.two_pow_pos k)]
    have hle : stepHi u v ≤ max u v - min u v := by rw [hs]; exact Nat.div_le_self _ _
    refine ⟨Or.inr (by omega), ?_, by omega⟩
    have hg : Nat.gcd u v = Nat.gcd (min u v) (max u v - min u v) := by
      rw [Nat.gcd_sub_self_right (by omega)]
      rcases Nat.le_total u v with h | h
      · rw [Nat.min_eq_left h, Nat.max_eq_right h]
      · rw [Nat.min_eq_right h, Nat.max_eq_left h, Nat.gcd_comm]
    rw [hg, hval]
    rcases olo with h0 | h1
    · rw [h0, Nat.gcd_zero_left, Nat.gcd_zero_left]
      -- the larger is odd: nothing was removed
      have hk0 : k = 0 := by
        rw [h0] at hm
        apply pow_odd_unique k 0 m (max u v / 2)
        have : max u v % 2 = 1 := by unfold OddZ at *; omega
        rw [← hm]; simp; omega
      rw [hk0] at hm; omega
    · rw [hm]
      exact (Nat.Coprime.gcd_mul_left_cancel_right _ (odd_coprime_pow _ k h1)).symm

theorem stepHi_lt (u v : Nat) (hu : u < 18446744073709551616) (hv : v < 18446744073709551616) : stepHi u v < 18446744073709551616 := by
  have : stepHi u v ≤ max u v - min u v := Nat.div_le_self _ _
  omega

/-- A number without its factors of two; the mask tells nothing. -/
def oddPart (a : Nat) : Nat := a / 2 ^ (Lib.ctz 64 a % 64)

theorem oddPart_oddZ (a : Nat) (h : a < 18446744073709551616) : OddZ (oddPart a) := by
  by_cases h0 : a = 0
  · subst h0; left; simp [oddPart]
  · obtain ⟨m, hm, hk⟩ := ctz_split a (by omega) h
    right
    unfold oddPart
    rw [Nat.mod_eq_of_lt hk]
    generalize Lib.ctz 64 a = k at *
    rw [hm, Nat.mul_div_cancel_left _ (Nat.two_pow_pos k)]
    omega

theorem oddPart_le (a : Nat) : oddPart a ≤ a := Nat.div_le_self _ _

theorem oddPart_split (a : Nat) (h0 : 0 < a) (h : a < 18446744073709551616) : a = 2 ^ Lib.ctz 64 a * oddPart a ∧ oddPart a % 2 = 1 ∧ Lib.ctz 64 a < 64 := by
  obtain ⟨m, hm, hk⟩ := ctz_split a h0 h
  unfold oddPart
  rw [Nat.mod_eq_of_lt hk]
  generalize Lib.ctz 64 a = k at *
  rw [hm, Nat.mul_div_cancel_left _ (Nat.two_pow_pos k)]
  exact ⟨rfl, by omega, hk⟩

theorem start_half (i c u v : Nat) (hu : u % 2 = 1) (hl : 2 ^ i * u < 18446744073709551616) (hr : 2 ^ (i + c) * v < 18446744073709551616) (hi : i < 64) :
    Nat.gcd u v * 2 ^ (Lib.ctz 64 (2 ^ i * u ||| 2 ^ (i + c) * v) % 64) = Nat.gcd (2 ^ i * u) (2 ^ (i + c) * v) := by
  have e : 2 ^ (i + c) * v = 2 ^ i * (2 ^ c * v) := by rw [Nat.pow_add, Nat.mul_assoc]
  obtain ⟨m, hm⟩ := or_odd u (2 ^ c * v) hu
  have hc : Lib.ctz 64 (2 ^ i * u ||| 2 ^ (i + c) * v) = i := by
    apply ctz_eq _ i m (or_lt _ _ hl hr)
    rw [e, pow_or, hm]
  rw [hc, Nat.mod_eq_of_lt hi, e, Nat.gcd_mul_left, Nat.Coprime.gcd_mul_left_cancel_right _ (odd_coprime_pow _ c hu), Nat.mul_comm]

theorem start_law (a b : Nat) (ha : a < 18446744073709551616) (hb : b < 18446744073709551616) :
    Nat.gcd (oddPart a) (oddPart b) * 2 ^ (Lib.ctz 64 (a ||| b) % 64) = Nat.gcd a b := by
  by_cases ha0 : a = 0
  · subst ha0
    by_cases hb0 : b = 0
    · subst hb0; simp [oddPart]
    · obtain ⟨h1, h2, h3⟩ := oddPart_split b (by omega) hb
      have : oddPart 0 = 0 := by simp [oddPart]
      rw [this, Nat.zero_or, Nat.gcd_zero_left, Nat.gcd_zero_left, Nat.mod_eq_of_lt h3, Nat.mul_comm]
      exact h1.symm
  · obtain ⟨h1, h2, h3⟩ := oddPart_split a (by omega) ha
    by_cases hb0 : b = 0
    · subst hb0
      have : oddPart 0 = 0 := by simp [oddPart]
      rw [this, Nat.or_zero, Nat.gcd_zero_right, Nat.gcd_zero_right, Nat.mod_eq_of_lt h3, Nat.mul_comm]
      exact h1.symm
    · obtain ⟨k1, k2, k3⟩ := oddPart_split b (by omega) hb
      rcases Nat.le_total (Lib.ctz 64 a) (Lib.ctz 64 b) with h | h
      · obtain ⟨c, hc⟩ : ∃ c, Lib.ctz 64 b = Lib.ctz 64 a + c := ⟨_, (Nat.add_sub_cancel' h).symm⟩
        rw [hc] at k1
        have := start_half (Lib.ctz 64 a) c (oddPart a) (oddPart b) h2 (by rw [← h1]; exact ha) (by rw [← k1]; exact hb) h3
        rw [← h1, ← k1] at this
        exact this
      · obtain ⟨c, hc⟩ : ∃ c, Lib.ctz 64 a = Lib.ctz 64 b + c := ⟨_, (Nat.add_sub_cancel' h).symm⟩
        rw [hc] at h1
        have := start_half (Lib.ctz 64 b) c (oddPart b) (oddPart a) k2 (by rw [← k1]; exact hb) (by rw [← h1]; exact ha) k3
        rw [← h1, ← k1] at this
        rw [Nat.gcd_comm, Nat.or_comm, this, Nat.gcd_comm]

/-- The greatest common divisor, where one of the two is 0 or 1, read off as the program does. -/
theorem finish_law (u v : Nat) (hu : u < 18446744073709551616) (hv : v < 18446744073709551616) (h : u ≤ 1 ∨ v ≤ 1) :
    (min ((u + 18446744073709551615) % 18446744073709551616) ((v + 18446744073709551615) % 18446744073709551616) + 1) % 18446744073709551616 = Nat.gcd u v := by
  rcases h with h | h
  · have hu2 : u = 0 ∨ u = 1 := by omega
    rcases hu2 with rfl | rfl
    · rw [Nat.gcd_zero_left]; omega
    · rw [Nat.gcd_one_left]; omega
  · have hv2 : v = 0 ∨ v = 1 := by omega
    rcases hv2 with rfl | rfl
    · rw [Nat.gcd_zero_right]; omega
    · rw [Nat.gcd_one_right]; omega

/-- Cancelling crosswise brings a product of two numbers in lowest terms to lowest terms. -/
theorem cross_law (nx dx ny dy : Nat) (hx : Nat.gcd nx dx = 1) (hy : Nat.gcd ny dy = 1) (hdx : 0 < dx) (hdy : 0 < dy) :
    Nat.gcd (nx * ny) (dx * dy) = Nat.gcd nx dy * Nat.gcd ny dx ∧
    nx * ny / Nat.gcd (nx * ny) (dx * dy) = nx / Nat.gcd nx dy * (ny / Nat.gcd ny dx) ∧
    dx * dy / Nat.gcd (nx * ny) (dx * dy) = dx / Nat.gcd ny dx * (dy / Nat.gcd nx dy) := by
  have g1 : 0 < Nat.gcd nx dy := Nat.gcd_pos_of_pos_right _ hdy
  have g2 : 0 < Nat.gcd ny dx := Nat.gcd_pos_of_pos_right _ hdx
  have c1 := Nat.coprime_div_gcd_div_gcd g1
  have c2 := Nat.coprime_div_gcd_div_gcd g2
  have e1 : nx = Nat.gcd nx dy * (nx / Nat.gcd nx dy) := (Nat.mul_div_cancel' (Nat.gcd_dvd_left _ _)).symm
  have e2 : dy = Nat.gcd nx dy * (dy / Nat.gcd nx dy) := (Nat.mul_div_cancel' (Nat.gcd_dvd_right _ _)).symm
  have e3 : ny = Nat.gcd ny dx * (ny / Nat.gcd ny dx) := (Nat.mul_div_cancel' (Nat.gcd_dvd_left _ _)).symm
  have e4 : dx = Nat.gcd ny dx * (dx / Nat.gcd ny dx) := (Nat.mul_div_cancel' (Nat.gcd_dvd_right _ _)).symm
  have d1 : nx / Nat.gcd nx dy ∣ nx := ⟨Nat.gcd nx dy, by rw [Nat.mul_comm]; exact e1⟩
  have d2 : dy / Nat.gcd nx dy ∣ dy := ⟨Nat.gcd nx dy, by rw [Nat.mul_comm]; exact e2⟩
  have d3 : ny / Nat.gcd ny dx ∣ ny := ⟨Nat.gcd ny dx, by rw [Nat.mul_comm]; exact e3⟩
  have d4 : dx / Nat.gcd ny dx ∣ dx := ⟨Nat.gcd ny dx, by rw [Nat.mul_comm]; exact e4⟩
  have c3 : (nx / Nat.gcd nx dy).Coprime (dx / Nat.gcd ny dx) := Nat.Coprime.coprime_dvd_left d1 (Nat.Coprime.coprime_dvd_right d4 hx)
  have c4 : (ny / Nat.gcd ny dx).Coprime (dy / Nat.gcd nx dy) := Nat.Coprime.coprime_dvd_left d3 (Nat.Coprime.coprime_dvd_right d2 hy)
  generalize hga : Nat.gcd nx dy = ga at *
  generalize hgb : Nat.gcd ny dx = gb at *
  generalize nx / ga = a at *
  generalize dy / ga = d at *
  generalize ny / gb = b at *
  generalize dx / gb = c at *
  have em : nx * ny = (ga * gb) * (a * b) := by
    rw [e1, e3]; ac_rfl
  have ed : dx * dy = (ga * gb) * (c * d) := by
    rw [e4, e2]; ac_rfl
  have hc : Nat.gcd (a * b) (c * d) = 1 := by
    apply Nat.Coprime.mul_left
    · exact Nat.Coprime.mul_right c3 c1
    · exact Nat.Coprime.mul_right c2 c4
  have hg : Nat.gcd (nx * ny) (dx * dy) = ga * gb := by
    rw [em, ed, Nat.gcd_mul_left, hc, Nat.mul_one]
  have hpos : 0 < ga * gb := Nat.mul_pos g1 g2
  refine ⟨hg, ?_, ?_⟩
  · rw [hg, em, Nat.mul_div_cancel_left _ hpos]
  · rw [hg, ed, Nat.mul_div_cancel_left _ hpos]

end Go.Proofs.YbulksayDoor
