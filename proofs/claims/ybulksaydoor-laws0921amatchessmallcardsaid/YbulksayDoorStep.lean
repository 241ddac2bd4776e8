import Derived.Test.YbulksayDoorBits
import Derived.Test.YbulksayDoorLen
import Derived.Lib.MinMax
import Derived.Laws.Bits64
import Derived.WalkLawsBesides
import Derived.Deep.LoopGhost
import Derived.Deep.QuietTactic
import Derived.BigQuiet
import Derived.Deep.CutBlock
import Derived.Deep.DeepCutAuto
namespace Go.Proofs.YbulksayDoor
open Go.RowKit

theorem xor_other (u v : Nat) (hu : u < 18446744073709551616) (hv : v < 18446744073709551616) :
    bits BinOp.xor IntKind.u64 (bits BinOp.xor IntKind.u64 (u : Int) (v : Int)) (min (u : Int) (v : Int)) = ((max u v : Nat) : Int) := by
  have hx : u ^^^ v < 18446744073709551616 := Nat.xor_lt_two_pow (n := 64) hu hv
  rw [bits_xor_u64_nat u v hu hv]
  rcases Nat.le_total u v with h | h
  · rw [show min (u : Int) (v : Int) = (u : Int) by omega, bits_xor_u64_nat _ u hx hu, Nat.max_eq_right h, Nat.xor_comm u v, Nat.xor_assoc, Nat.xor_self, Nat.xor_zero]
  · rw [show min (u : Int) (v : Int) = (v : Int) by omega, bits_xor_u64_nat _ v hx hv, Nat.max_eq_left h, Nat.xor_assoc, Nat.xor_self, Nat.xor_zero]

theorem min_cast (u v : Nat) : min (u : Int) (v : Int) = ((min u v : Nat) : Int) := by omega

theorem diff_shift (u v z : Nat) (hu : u < 18446744073709551616) (hv : v < 18446744073709551616) :
    IntKind.u64.wrap (bits BinOp.xor IntKind.u64 (bits BinOp.xor IntKind.u64 (u : Int) (v : Int)) (min (u : Int) (v : Int)) - min (u : Int) (v : Int)) / 2 ^ z = (((max u v - min u v) / 2 ^ z : Nat) : Int) := by
  rw [xor_other u v hu hv, min_cast, show ((max u v : Nat) : Int) - ((min u v : Nat) : Int) = ((max u v - min u v : Nat) : Int) by omega, IntKind.wrap_u64,
    show ((max u v - min u v : Nat) : Int) % 18446744073709551616 = ((max u v - min u v : Nat) : Int) by omega]
  rw [Int.natCast_ediv, Int.natCast_pow]
  rfl

theorem c35_core (u v y z : Nat) (hu : u < 18446744073709551616) (hv : v < 18446744073709551616) (hz : z < 64) (w : World)
    (e1 : bits BinOp.or IntKind.u64 (IntKind.u64.wrap ((v : Int) - (u : Int))) 9223372036854775808 = (y : Int))
    (H : Calls Ybad.prog 45 #[.int .u64 y] w fun e w' => e = .returned (.int .i64 z) ∧ w' = w) :
    Calls Ybad.prog 35 #[.int .u64 u, .int .u64 v] w fun e w' => e = .returned (.tuple #[.int .u64 ((min u v : Nat) : Int), .int .u64 (((max u v - min u v) / 2 ^ z : Nat) : Int)]) ∧ w' = w := by
  go_enter Ybad.func35, Ybad.ntmps35
  go_wp2_with fail
  refine Calls.mono H ?_
  rintro e w' ⟨rfl, rfl⟩
  clear e1 H
  go_wp2_with fail
  rw [diff_shift u v z hu hv, min_cast]
  go_ret2
  exact ⟨rfl, rfl⟩

/-- One step. -/
theorem c35 (u v : Nat) (hu : u < 18446744073709551616) (hv : v < 18446744073709551616) (w : World) (hT : Tab w) :
    Calls Ybad.prog 35 #[.int .u64 u, .int .u64 v] w fun e w' => e = .returned (.tuple #[.int .u64 ((min u v : Nat) : Int), .int .u64 ((stepHi u v : Nat) : Int)]) ∧ w' = w := by
  have e1 : bits BinOp.or IntKind.u64 (IntKind.u64.wrap ((v : Int) - (u : Int))) 9223372036854775808 = ((((v + 18446744073709551616 - u) % 18446744073709551616) ||| 9223372036854775808 : Nat) : Int) := by
    have h : IntKind.u64.wrap ((v : Int) - (u : Int)) = (((v + 18446744073709551616 - u) % 18446744073709551616 : Nat) : Int) := by
      rw [IntKind.wrap_u64]; omega
    rw [h]
    exact bits_or_u64_nat _ 9223372036854775808 (by omega) (by decide)
  have hx := or_lt ((v + 18446744073709551616 - u) % 18446744073709551616) 9223372036854775808 (by omega) (by omega)
  have hz : Lib.ctz 64 (((v + 18446744073709551616 - u) % 18446744073709551616) ||| 9223372036854775808) < 64 := by
    by_cases h0 : ((v + 18446744073709551616 - u) % 18446744073709551616) ||| 9223372036854775808 = 0
    · exact absurd h0 (by simp [Nat.or_eq_zero_iff])
    · exact (ctz_split _ (by omega) hx).choose_spec.2
  exact c35_core u v _ _ hu hv hz w e1 (tz64 _ hx w hT)

/-- What the walk is not to see. -/
def Hid (p : Prop) : Prop := p
theorem Hid.out {p : Prop} (h : Hid p) : p := h

theorem ctz_le (x : Nat) (h : x < 18446744073709551616) : Lib.ctz 64 x ≤ 64 := by
  by_cases h0 : x = 0
  · simp [Lib.ctz, h0]
  · exact Nat.le_of_lt (ctz_split x (by omega) h).choose_spec.2

theorem mask63 (z : Nat) (h : z ≤ 64) : bits BinOp.and IntKind.u64 (z : Int) 63 = ((z % 64 : Nat) : Int) := by
  have e := bits_and_u64_nat z 63 (by omega) (by decide)
  have e2 : z &&& 63 = z % 64 := Nat.and_two_pow_sub_one_eq_mod z 6
  rw [e2] at e
  exact e

/-- What gcdStart hands back. -/
def Started (a b : Nat) (e : Ending) : Prop := ∃ u v s : Nat, e = .returned (.tuple #[.int .u64 u, .int .u64 v, .int .u64 s]) ∧ OddZ u ∧ OddZ v ∧ u < 18446744073709551616 ∧ v < 18446744073709551616 ∧ s < 64 ∧ Nat.gcd u v * 2 ^ s = Nat.gcd a b

theorem c34 (a b : Nat) (ha : a < 18446744073709551616) (hb : b < 18446744073709551616) (w : World) (hT : Hid (Tab w)) :
    Calls Ybad.prog 34 #[.int .u64 a, .int .u64 b] w fun e w' => Started a b e ∧ w' = w := by
  obtain ⟨M, hM, hM0⟩ : ∃ M : Nat, max (a : Int) (b : Int) = (M : Int) ∧ M = max a b := ⟨max a b, by omega, rfl⟩
  obtain ⟨m, hm, hm0⟩ : ∃ m : Nat, min (a : Int) (b : Int) = (m : Int) ∧ m = min a b := ⟨min a b, by omega, rfl⟩
  have hMl : M < 18446744073709551616 := by omega
  have hml : m < 18446744073709551616 := by omega
  have hg : Nat.gcd M m = Nat.gcd a b := by
    rw [hM0, hm0]
    rcases Nat.le_total a b with h | h
    · rw [Nat.min_eq_left h, Nat.max_eq_right h, Nat.gcd_comm]
    · rw [Nat.min_eq_right h, Nat.max_eq_left h]
  have HG : Hid _ := hg
  clear hg hM0 hm0
  go_enter Ybad.func34, Ybad.ntmps34
  go_upto_region 2 with fail
  go_cut [22] from 13 to 21 (fun s22 wx => ∃ c : Bool, s22 = .bool c ∧ (c = true → m ≠ 0) ∧ wx = w)
  case first =>
    cases hc0 : ((m : Int) != 0) with
    | false =>
      go_wp2_with fail
      go_meet
      case rel => exact ⟨false, rfl, by simp, rfl⟩
    | true =>
      go_wp2_with (go_at_call 44; refine Calls.mono (len64 _ _ (by omega) (by omega)) ?_; rintro e w' ⟨rfl, rfl⟩)
      go_meet
      case rel =>
        refine ⟨_, rfl, ?_, rfl⟩
        intro _ h
        subst h
        simp at hc0
  case rest =>
    obtain ⟨c, rfl, hc, rfl⟩ := hcut
    rename World => w
    go_upto_if 22 with fail
    go_cut [0] from 23 to 25 (fun s0 wx => ∃ x : Nat, s0 = .int .u64 (x : Int) ∧ x < 18446744073709551616 ∧ Nat.gcd x m = Nat.gcd a b ∧ wx = w)
    case first =>
      cases c with
      | false =>
        go_wp2_with fail
        go_meet
        case rel => exact ⟨M, rfl, hMl, HG.out, rfl⟩
      | true =>
        have hm1 := hc rfl
        have hm2 : ((m : Int) == 0) = false := beq_eq_false_iff_ne.2 (by omega)
        go_wp2_with fail
        go_meet
        case rel =>
          refine ⟨M % m, by rw [Int.natCast_emod], ?_, ?_, rfl⟩
          · exact Nat.lt_of_le_of_lt (Nat.mod_le _ _) hMl
          · have := HG.out
            rw [← this, Nat.gcd_comm M m, Nat.gcd_rec m M]
    case rest =>
      obtain ⟨x, rfl, hx, hg, rfl⟩ := hcut
      rename World => w
      clear hM hm hc HG hMl
      obtain ⟨z1, hz1⟩ : ∃ z, Lib.ctz 64 (x ||| m) = z := ⟨_, rfl⟩
      obtain ⟨z2, hz2⟩ : ∃ z, Lib.ctz 64 x = z := ⟨_, rfl⟩
      obtain ⟨z3, hz3⟩ : ∃ z, Lib.ctz 64 m = z := ⟨_, rfl⟩
      have l1 := ctz_le _ (or_lt x m hx hml)
      have l2 := ctz_le _ hx
      have l3 := ctz_le _ hml
      have H1 := tz64 _ (or_lt x m hx hml) w hT.out
      have H2 := tz64 _ hx w hT.out
      have H3 := tz64 _ hml w hT.out
      rw [hz1] at H1 l1
      rw [hz2] at H2 l2
      rw [hz3] at H3 l3
      have HS : Hid (Started a b (.returned (.tuple #[.int .u64 ((x / 2 ^ (z2 % 64) : Nat) : Int), .int .u64 ((m / 2 ^ (z3 % 64) : Nat) : Int), .int .u64 ((z1 % 64 : Nat) : Int)]))) := by
        refine ⟨_, _, _, rfl, ?_, ?_, ?_, ?_, by omega, ?_⟩
        · have := oddPart_oddZ x hx
          unfold oddPart at this
          rw [hz2] at this
          exact this
        · have := oddPart_oddZ m hml
          unfold oddPart at this
          rw [hz3] at this
          exact this
        · exact Nat.lt_of_le_of_lt (Nat.div_le_self _ _) hx
        · exact Nat.lt_of_le_of_lt (Nat.div_le_self _ _) hml
        · have := start_law x m hx hml
          unfold oddPart at this
          rw [hz1, hz2, hz3] at this
          rw [this, hg]
      have hor : bits BinOp.or IntKind.u64 (x : Int) (m : Int) = ((x ||| m : Nat) : Int) := bits_or_u64_nat _ _ hx hml
      have m1 := mask63 z1 l1
      have m2 := mask63 z2 l2
      have m3 := mask63 z3 l3
      have HX1 : Hid _ := H1
      have HX2 : Hid _ := H2
      have HX3 : Hid _ := H3
      clear H1 H2 H3 hz1 hz2 hz3 hg
      have d2 : (x : Int) / 2 ^ (z2 % 64) = ((x / 2 ^ (z2 % 64) : Nat) : Int) := by rw [Int.natCast_ediv, Int.natCast_pow]; rfl
      have d3 : (m : Int) / 2 ^ (z3 % 64) = ((m / 2 ^ (z3 % 64) : Nat) : Int) := by rw [Int.natCast_ediv, Int.natCast_pow]; rfl
      generalize (x / 2 ^ (z2 % 64) : Nat) = X2 at *
      generalize (m / 2 ^ (z3 % 64) : Nat) = X3 at *
      generalize x ||| m = y at *
      obtain ⟨p1, hp1, q1⟩ : ∃ p, p = z1 % 64 ∧ p < 64 := ⟨_, rfl, by omega⟩
      obtain ⟨p2, hp2, q2⟩ : ∃ p, p = z2 % 64 ∧ p < 64 := ⟨_, rfl, by omega⟩
      obtain ⟨p3, hp3, q3⟩ : ∃ p, p = z3 % 64 ∧ p < 64 := ⟨_, rfl, by omega⟩
      rw [← hp1] at m1 HS
      rw [← hp2] at m2 d2
      rw [← hp3] at m3 d3
      clear hp1 hp2 hp3
      go_wp2_with fail
      refine Calls.mono HX1.out ?_
      rintro e w' ⟨rfl, rfl⟩
      go_wp2_with fail
      refine Calls.mono HX2.out ?_
      rintro e w' ⟨rfl, rfl⟩
      go_wp2_with fail
      refine Calls.mono HX3.out ?_
      rintro e w' ⟨rfl, rfl⟩
      go_wp2_with fail
      go_ret3
      exact ⟨HS.out, rfl⟩
end Go.Proofs.YbulksayDoor
