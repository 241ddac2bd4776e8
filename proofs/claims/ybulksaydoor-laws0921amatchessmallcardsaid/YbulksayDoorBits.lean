import Derived.Test.YbulksayDoorChecked
import Derived.Test.YbulksayDoorPlain
import Derived.WalkKit
import Derived.Laws.Bits64b
import Derived.Lib.Mul64
import Derived.Lib.TrailingZeros
import Derived.Shelf.Spec.TrailingZeros
import Derived.Shelf.Bits.Mul64
namespace Go.Proofs.YbulksayDoor
open Go.RowKit

/-- The table of math/bits in its variable. -/
def Tab (w : World) : Prop := TabAt 3 Lib.deBruijn64tab w

theorem tz_core (x k idx : Nat) (w : World) (hx0 : ((x : Int) == 0) = false)
    (key : IntKind.u64.wrap (bits BinOp.and IntKind.u64 (x : Int) (IntKind.u64.wrap (-(x : Int))) * 285870213051353865) / 288230376151711744 = (idx : Int))
    (hi : idx < 64) (hk : k < 64) (hcell : w.cell? ⟨3, idx, none⟩ = some (.int .u8 k)) :
    Calls Ybad.prog 45 #[.int .u64 x] w fun e w' => e = .returned (.int .i64 k) ∧ w' = w := by
  go_enter Ybad.func45, Ybad.ntmps45
  go_wp2_with (simp only [key])
  go_ret
  exact ⟨rfl, rfl⟩

theorem tz_zero (w : World) :
    Calls Ybad.prog 45 #[.int .u64 0] w fun e w' => e = .returned (.int .i64 64) ∧ w' = w := by
  go_enter Ybad.func45, Ybad.ntmps45
  go_wp2
  go_ret
  exact ⟨rfl, rfl⟩

/-- math/bits.TrailingZeros64. -/
theorem tz64 (x : Nat) (hx : x < 18446744073709551616) (w : World) (hT : Tab w) :
    Calls Ybad.prog 45 #[.int .u64 x] w fun e w' => e = .returned (.int .i64 (Lib.ctz 64 x)) ∧ w' = w := by
  by_cases hx0 : x = 0
  · subst hx0
    exact tz_zero w
  · obtain ⟨hlow, hk⟩ := Lib.lowest_bit 64 x hx0 hx
    obtain ⟨hi, htab⟩ := Lib.deBruijn64_at _ hk
    have hcell := hT _ hi
    rw [htab] at hcell
    exact tz_core x _ _ w (by simp; omega) (tz64_key x _ hx hx0 hlow) hi hk hcell

set_option maxHeartbeats 1000000 in
/-- math/bits.Mul64. -/
theorem mul64_bits (x y : Nat) (hx : x < 18446744073709551616) (hy : y < 18446744073709551616) (w : World) :
    Calls Ybad.prog 22 #[.int .u64 x, .int .u64 y] w fun e w' => e = .returned (.tuple #[.int .u64 ((x * y / 18446744073709551616 : Nat) : Int), .int .u64 ((x * y % 18446744073709551616 : Nat) : Int)]) ∧ w' = w := by
  obtain ⟨bd, bt, bw, hhi⟩ := Lib.mul64_hi x y hx hy
  have ba := Lib.half_mul_le (a := x / 4294967296) (b := y / 4294967296) (by omega) (by omega)
  have bb := Lib.half_mul_le (a := x / 4294967296) (b := y % 4294967296) (by omega) (by omega)
  have bc := Lib.half_mul_le (a := x % 4294967296) (b := y / 4294967296) (by omega) (by omega)
  have ba' : x / 4294967296 * (y / 4294967296) < 18446744073709551616 := by omega
  have bb' : x / 4294967296 * (y % 4294967296) < 18446744073709551616 := by omega
  have bc' : x % 4294967296 * (y / 4294967296) < 18446744073709551616 := by omega
  have bh1 : x / 4294967296 * (y / 4294967296) + (x / 4294967296 * (y % 4294967296) + x % 4294967296 * (y % 4294967296) / 4294967296) / 4294967296 < 18446744073709551616 := by omega
  have bh : x / 4294967296 * (y / 4294967296) + (x / 4294967296 * (y % 4294967296) + x % 4294967296 * (y % 4294967296) / 4294967296) / 4294967296 + ((x / 4294967296 * (y % 4294967296) + x % 4294967296 * (y % 4294967296) / 4294967296) % 4294967296 + x % 4294967296 * (y / 4294967296)) / 4294967296 < 18446744073709551616 := by omega
  go_enter Ybad.func22, Ybad.ntmps22
  go_wp2
  simp only [Mul64.maskN x hx, Mul64.maskN y hy, Mul64.divN, Mul64.mulN, Mul64.addN, Mul64.wrapN _ bd, Mul64.wrapN _ bb', Mul64.wrapN _ bt, Mul64.maskN _ bt, Mul64.wrapN _ bc', Mul64.wrapN _ bw, Mul64.wrapN _ ba', Mul64.wrapN _ bh1, Mul64.wrapN _ bh, Mul64.wrapM (x * y)]
  rw [hhi]
  go_ret2
  exact ⟨rfl, rfl⟩

end Go.Proofs.YbulksayDoor
