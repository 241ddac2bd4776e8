import Derived.Test.YbulksayDoorStep
namespace Go.Proofs.YbulksayDoor
open Go.RowKit

theorem shl_law (u v s : Nat) (hu : u < 18446744073709551616) (hv : v < 18446744073709551616) (h : u ≤ 1 ∨ v ≤ 1) (hG : Nat.gcd u v * 2 ^ s < 18446744073709551616) :
    IntKind.u64.wrap (IntKind.u64.wrap (min (IntKind.u64.wrap ((u : Int) - 1)) (IntKind.u64.wrap ((v : Int) - 1)) + 1) * 2 ^ s) = ((Nat.gcd u v * 2 ^ s : Nat) : Int) := by
  have h1 : IntKind.u64.wrap ((u : Int) - 1) = (((u + 18446744073709551615) % 18446744073709551616 : Nat) : Int) := by rw [IntKind.wrap_u64]; omega
  have h2 : IntKind.u64.wrap ((v : Int) - 1) = (((v + 18446744073709551615) % 18446744073709551616 : Nat) : Int) := by rw [IntKind.wrap_u64]; omega
  have h3 := finish_law u v hu hv h
  rw [h1, h2, min_cast]
  have h4 : IntKind.u64.wrap (((min ((u + 18446744073709551615) % 18446744073709551616) ((v + 18446744073709551615) % 18446744073709551616) : Nat) : Int) + 1) = ((Nat.gcd u v : Nat) : Int) := by
    rw [IntKind.wrap_u64]; omega
  rw [h4]
  have h5 : ((Nat.gcd u v : Nat) : Int) * 2 ^ s = ((Nat.gcd u v * 2 ^ s : Nat) : Int) := by rw [Int.natCast_mul, Int.natCast_pow]; rfl
  rw [h5, IntKind.wrap_u64]
  omega

theorem c36 (u v s : Nat) (hu : u < 18446744073709551616) (hv : v < 18446744073709551616) (ou : OddZ u) (ov : OddZ v) (hs : s < 64) (hG : Nat.gcd u v * 2 ^ s < 18446744073709551616) (w : World) (hT : Hid (Tab w)) :
    Calls Ybad.prog 36 #[.int .u64 u, .int .u64 v, .int .u64 s] w fun e w' => e = .returned (.int .u64 ((Nat.gcd u v * 2 ^ s : Nat) : Int)) ∧ w' = w := by
  have HP : Hid (_ ∧ _ ∧ _ ∧ _ ∧ _) := ⟨hu, hv, ou, ov, hG⟩
  clear hu hv ou ov hG
  go_enter Ybad.func36, Ybad.ntmps36
  go_wp2_with fail
  go_loopg [0, 1] (u + v) (fun g s0 s1 wx => ∃ x y : Nat, s0 = .int .u64 x ∧ s1 = .int .u64 y ∧ g = x + y ∧ x < 18446744073709551616 ∧ y < 18446744073709551616 ∧ OddZ x ∧ OddZ y ∧ Nat.gcd x y = Nat.gcd u v ∧ wx = w)
  case atStart => exact ⟨u, v, rfl, rfl, rfl, HP.out.1, HP.out.2.1, HP.out.2.2.1, HP.out.2.2.2.1, rfl, rfl⟩
  case round =>
    obtain ⟨x, y, rfl, rfl, hg, hx, hy, ox, oy, hgcd, rfl⟩ := hrel
    rename World => w
    have HQ : Hid (_ ∧ _ ∧ _ ∧ _ ∧ _) := ⟨hgcd, ox, oy, hx, hy⟩
    clear hgcd ox oy
    by_cases h1 : 1 < x
    · by_cases h2 : 1 < y
      · have b1 : decide ((1 : Int) < (x : Int)) = true := decide_eq_true (by omega)
        have b2 : decide ((1 : Int) < (y : Int)) = true := decide_eq_true (by omega)
        have HS : Hid _ := c35 x y hx hy w hT.out
        have HL : Hid _ := step_law x y hx hy HQ.out.2.1 HQ.out.2.2.1
        clear h1 h2 hx hy
        go_wp2_with fail
        refine Calls.mono HS.out ?_
        rintro e w' ⟨rfl, rfl⟩
        go_wp2_with fail
        have b3 := of_decide_eq_true b1
        have b4 := of_decide_eq_true b2
        obtain ⟨k1, k2, k3, k4⟩ := HL.out
        obtain ⟨j1, j2, j3, j4, j5⟩ := HQ.out
        go_roundg (min x y + stepHi x y)
        case measure => omega
        case rel => exact ⟨_, _, rfl, rfl, rfl, by omega, by omega, k1, k2, k3.trans j1, rfl⟩
      · have b1 : decide ((1 : Int) < (x : Int)) = true := decide_eq_true (by omega)
        have b2 : decide ((1 : Int) < (y : Int)) = false := decide_eq_false (by omega)
        have hF := shl_law x y s hx hy (by omega) (by rw [HQ.out.1]; exact HP.out.2.2.2.2)
        rw [HQ.out.1] at hF
        clear h1 h2 hx hy
        go_wp2_with fail
        go_ret
        exact ⟨rfl, rfl⟩
    · have b1 : decide ((1 : Int) < (x : Int)) = false := decide_eq_false (by omega)
      have hF := shl_law x y s hx hy (by omega) (by rw [HQ.out.1]; exact HP.out.2.2.2.2)
      rw [HQ.out.1] at hF
      clear h1 hx hy
      go_wp2_with fail
      go_ret
      exact ⟨rfl, rfl⟩

/-- gcd. -/
theorem c37 (a b : Nat) (ha : a < 18446744073709551616) (hb : b < 18446744073709551616) (h0 : 0 < b) (w : World) (hT : Hid (Tab w)) :
    Calls Ybad.prog 37 #[.int .u64 a, .int .u64 b] w fun e w' => e = .returned (.int .u64 ((Nat.gcd a b : Nat) : Int)) ∧ w' = w := by
  have HS : Hid _ := c34 a b ha hb w hT
  have hgl : Nat.gcd a b < 18446744073709551616 := Nat.lt_of_le_of_lt (Nat.gcd_le_right a h0) hb
  go_enter Ybad.func37, Ybad.ntmps37
  go_wp2_with fail
  refine Calls.mono HS.out ?_
  rintro e w' ⟨⟨u, v, s, rfl, ou, ov, hu, hv, hs, hg⟩, rfl⟩
  have HF : Hid _ := c36 u v s hu hv ou ov hs (by rw [hg]; exact hgl) w' hT
  rw [hg] at HF
  clear hg ou ov hu hv hs HS
  go_wp2_with fail
  refine Calls.mono HF.out ?_
  rintro e w' ⟨rfl, rfl⟩
  go_wp2_with fail
  go_ret
  exact ⟨rfl, rfl⟩

end Go.Proofs.YbulksayDoor
