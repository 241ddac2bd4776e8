import Derived.Test.YbulksayDoorGcd
namespace Go.Proofs.YbulksayDoor
open Go.RowKit

/-- A pair under way: odd or 0, in range, with the divisor that it began with. -/
def Pair (G x y : Nat) : Prop := x < 18446744073709551616 ∧ y < 18446744073709551616 ∧ OddZ x ∧ OddZ y ∧ Nat.gcd x y = G

theorem Pair.step {G x y : Nat} (h : Pair G x y) : Pair G (min x y) (stepHi x y) ∧ min x y + stepHi x y ≤ max x y := by
  obtain ⟨h1, h2, h3, h4, h5⟩ := h
  obtain ⟨k1, k2, k3, k4⟩ := step_law x y h1 h2 h3 h4
  exact ⟨⟨by omega, stepHi_lt x y h1 h2, k1, k2, k3.trans h5⟩, k4⟩

theorem Pair.call {G x y : Nat} (h : Pair G x y) (w : World) (hT : Hid (Tab w)) :
    Calls Ybad.prog 35 #[.int .u64 x, .int .u64 y] w fun e w' => e = .returned (.tuple #[.int .u64 ((min x y : Nat) : Int), .int .u64 ((stepHi x y : Nat) : Int)]) ∧ w' = w :=
  c35 x y h.1 h.2.1 w hT.out

theorem Pair.finish {G x y : Nat} (s : Nat) (h : Pair G x y) (hs : s < 64) (hG : G * 2 ^ s < 18446744073709551616) (w : World) (hT : Hid (Tab w)) :
    Calls Ybad.prog 36 #[.int .u64 x, .int .u64 y, .int .u64 s] w fun e w' => e = .returned (.int .u64 ((G * 2 ^ s : Nat) : Int)) ∧ w' = w := by
  obtain ⟨h1, h2, h3, h4, h5⟩ := h
  subst h5
  exact c36 x y s h1 h2 h3 h4 hs hG w hT

theorem c24 (a1 b1 a2 b2 : Nat) (ha1 : a1 < 18446744073709551616) (hb1 : b1 < 18446744073709551616) (ha2 : a2 < 18446744073709551616) (hb2 : b2 < 18446744073709551616) (h01 : 0 < b1) (h02 : 0 < b2) (w : World) (hT : Hid (Tab w)) :
    Calls Ybad.prog 24 #[.int .u64 a1, .int .u64 b1, .int .u64 a2, .int .u64 b2] w fun e w' => e = .returned (.tuple #[.int .u64 ((Nat.gcd a1 b1 : Nat) : Int), .int .u64 ((Nat.gcd a2 b2 : Nat) : Int)]) ∧ w' = w := by
  have HS1 : Hid _ := c34 a1 b1 ha1 hb1 w hT
  have HS2 : Hid _ := c34 a2 b2 ha2 hb2 w hT
  have hgl1 : Nat.gcd a1 b1 < 18446744073709551616 := Nat.lt_of_le_of_lt (Nat.gcd_le_right a1 h01) hb1
  have hgl2 : Nat.gcd a2 b2 < 18446744073709551616 := Nat.lt_of_le_of_lt (Nat.gcd_le_right a2 h02) hb2
  go_enter Ybad.func24, Ybad.ntmps24
  go_wp2_with fail
  refine Calls.mono HS1.out ?_
  rintro e w' ⟨⟨u1, v1, s1, rfl, ou1, ov1, hu1, hv1, hs1, hg1⟩, rfl⟩
  have P1 : Pair (Nat.gcd u1 v1) u1 v1 := ⟨hu1, hv1, ou1, ov1, rfl⟩
  have HP1 : Hid (Pair (Nat.gcd u1 v1) u1 v1 ∧ _) := ⟨P1, hg1⟩
  clear P1 hg1 ou1 ov1 hu1 hv1 HS1
  go_wp2_with fail
  refine Calls.mono HS2.out ?_
  rintro e w' ⟨⟨u2, v2, s2, rfl, ou2, ov2, hu2, hv2, hs2, hg2⟩, rfl⟩
  have P2 : Pair (Nat.gcd u2 v2) u2 v2 := ⟨hu2, hv2, ou2, ov2, rfl⟩
  have HP2 : Hid (Pair (Nat.gcd u2 v2) u2 v2 ∧ _) := ⟨P2, hg2⟩
  clear P2 hg2 ou2 ov2 hu2 hv2 HS2
  rename World => w
  go_wp2_with fail
  go_loopg [10, 11, 13, 14] (u1 + v1 + (u2 + v2)) (fun g s10 s11 s13 s14 wx => ∃ x1 y1 x2 y2 : Nat, s10 = .int .u64 x1 ∧ s11 = .int .u64 y1 ∧ s13 = .int .u64 x2 ∧ s14 = .int .u64 y2 ∧ g = x1 + y1 + (x2 + y2) ∧ Pair (Nat.gcd u1 v1) x1 y1 ∧ Pair (Nat.gcd u2 v2) x2 y2 ∧ wx = w)
  case atStart => exact ⟨u1, v1, u2, v2, rfl, rfl, rfl, rfl, rfl, HP1.out.1, HP2.out.1, rfl⟩
  case round =>
    obtain ⟨x1, y1, x2, y2, rfl, rfl, rfl, rfl, hg, q1, q2, rfl⟩ := hrel
    rename World => w
    have HF1 : Hid _ := Pair.finish s1 q1 hs1 (by rw [HP1.out.2]; exact hgl1) w hT
    have HF2 : Hid _ := Pair.finish s2 q2 hs2 (by rw [HP2.out.2]; exact hgl2) w hT
    rw [HP1.out.2] at HF1
    rw [HP2.out.2] at HF2
    have HQ : Hid (_ ∧ _) := ⟨q1, q2⟩
    clear q1 q2
    by_cases h1 : 1 < x1
    · have d1 : decide ((1 : Int) < (x1 : Int)) = true := decide_eq_true (by omega)
      by_cases h2 : 1 < y1
      · have d2 : decide ((1 : Int) < (y1 : Int)) = true := decide_eq_true (by omega)
        by_cases h3 : 1 < x2
        · have d3 : decide ((1 : Int) < (x2 : Int)) = true := decide_eq_true (by omega)
          by_cases h4 : 1 < y2
          · have d4 : decide ((1 : Int) < (y2 : Int)) = true := decide_eq_true (by omega)
            clear HF1 HF2
            have H5 : Hid (_ ∧ _ ∧ _ ∧ _ ∧ _) := ⟨h1, h2, h3, h4, hg⟩
            clear h1 h2 h3 h4 hg
            go_wp2_with fail
            refine Calls.mono (Pair.call HQ.out.1 w hT) ?_
            rintro e w' ⟨rfl, rfl⟩
            go_wp2_with fail
            refine Calls.mono (Pair.call HQ.out.2 w' hT) ?_
            rintro e w' ⟨rfl, rfl⟩
            go_wp2_with fail
            refine Calls.mono (Pair.call HQ.out.1.step.1 w' hT) ?_
            rintro e w' ⟨rfl, rfl⟩
            go_wp2_with fail
            refine Calls.mono (Pair.call HQ.out.2.step.1 w' hT) ?_
            rintro e w' ⟨rfl, rfl⟩
            go_wp2_with fail
            obtain ⟨h1, h2, h3, h4, hg⟩ := H5.out
            have p1 := HQ.out.1.step
            have p2 := HQ.out.2.step
            have r1 := p1.1.step
            have r2 := p2.1.step
            go_roundg (min (min x1 y1) (stepHi x1 y1) + stepHi (min x1 y1) (stepHi x1 y1) + (min (min x2 y2) (stepHi x2 y2) + stepHi (min x2 y2) (stepHi x2 y2)))
            case measure =>
              have := p1.2; have := p2.2; have := r1.2; have := r2.2
              omega
            case rel => exact ⟨_, _, _, _, by rw [Nat.min_assoc], rfl, by rw [Nat.min_assoc], rfl, rfl, r1.1, r2.1, rfl⟩
          · have d4 : decide ((1 : Int) < (y2 : Int)) = false := decide_eq_false (by omega)
            clear h1 h2 h3 h4
            go_wp2_with fail
            refine Calls.mono HF1.out ?_
            rintro e w' ⟨rfl, rfl⟩
            go_wp2_with fail
            refine Calls.mono HF2.out ?_
            rintro e w' ⟨rfl, rfl⟩
            go_wp2_with fail
            go_ret2
            exact ⟨rfl, rfl⟩
        · have d3 : decide ((1 : Int) < (x2 : Int)) = false := decide_eq_false (by omega)
          clear h1 h2 h3
          go_wp2_with fail
          refine Calls.mono HF1.out ?_
          rintro e w' ⟨rfl, rfl⟩
          go_wp2_with fail
          refine Calls.mono HF2.out ?_
          rintro e w' ⟨rfl, rfl⟩
          go_wp2_with fail
          go_ret2
          exact ⟨rfl, rfl⟩
      · have d2 : decide ((1 : Int) < (y1 : Int)) = false := decide_eq_false (by omega)
        clear h1 h2
        go_wp2_with fail
        refine Calls.mono HF1.out ?_
        rintro e w' ⟨rfl, rfl⟩
        go_wp2_with fail
        refine Calls.mono HF2.out ?_
        rintro e w' ⟨rfl, rfl⟩
        go_wp2_with fail
        go_ret2
        exact ⟨rfl, rfl⟩
    · have d1 : decide ((1 : Int) < (x1 : Int)) = false := decide_eq_false (by omega)
      clear h1
      go_wp2_with fail
      refine Calls.mono HF1.out ?_
      rintro e w' ⟨rfl, rfl⟩
      go_wp2_with fail
      refine Calls.mono HF2.out ?_
      rintro e w' ⟨rfl, rfl⟩
      go_wp2_with fail
      go_ret2
      exact ⟨rfl, rfl⟩

end Go.Proofs.YbulksayDoor
