/-
  DERIVED. GIVEN WITH THE SEED: THE PROGRAM's TIES (one call each: nine closed facts by the kernel) AND EACH ROW's TIE, after the 31st guide's Derived/Test/Toyas{Tie, Card}.lean. No idea stands in it: it is a product of the set-up. Laid BY PROGRAM, IN A SANDBOX (cutbox-door.mjs). By AI agents, Wed Nov 11 2026. No macro, syntax, notation, axiom, sorry.
-/
import Derived.Test.YbulksayDoorRows
import Derived.LaidByTextLater
import Derived.SevenTiedAt
import Derived.LaidSub
import Derived.LaidOnce
namespace Go.Proofs.YbulksayDoor
open Go
set_option maxRecDepth 100000
theorem seatTie1 : Ybad.prog.laidByTextLater [("math/bits.deBruijn64tab", Rows.laid_math_bits_deBruijn64tab), ("unicode/utf8.acceptRanges", Rows.laid_unicode_utf8_acceptRanges), ("example.com/numden/numden.ErrNumOverflow", Rows.laid_example_com_numden_numden_ErrNumOverflow), ("example.com/numden/numden.ErrDenOverflow", Rows.laid_example_com_numden_numden_ErrDenOverflow), ("example.com/numden/numden.ErrDivByZero", Rows.laid_example_com_numden_numden_ErrDivByZero)] [.data, .data, .sentinel, .sentinel, .sentinel] true :=
  Program.laidByTextLater_by_one 81 8 65 (by kernel_rfl) (by kernel_rfl) (by kernel_rfl) (by kernel_rfl) (by kernel_rfl) (by kernel_rfl) (fun _ _ => by kernel_rfl)
theorem pin_laid_unicode_utf8_first : Ybad.pinned.checked.prog.pinnedFits "unicode/utf8.first" = true := by kernel_rfl
theorem noOwnUnsafe : Ybad.pinned.checked.prog.headLifts.contains "ownunsafe" = false := by kernel_rfl
theorem tie : Ybad.prog.laidByTextLater [("math/bits.deBruijn64tab", Rows.laid_math_bits_deBruijn64tab), ("example.com/numden/numden.ErrNumOverflow", Rows.laid_example_com_numden_numden_ErrNumOverflow), ("example.com/numden/numden.ErrDenOverflow", Rows.laid_example_com_numden_numden_ErrDenOverflow), ("example.com/numden/numden.ErrDivByZero", Rows.laid_example_com_numden_numden_ErrDivByZero)] [.data, .sentinel, .sentinel, .sentinel] true :=
  Program.laidByTextLater.sub seatTie1 ["math/bits.deBruijn64tab", "example.com/numden/numden.ErrNumOverflow", "example.com/numden/numden.ErrDenOverflow", "example.com/numden/numden.ErrDivByZero"] (by kernel_rfl) (by kernel_rfl)
theorem lawS0921AMatchesSmall_row_tie : Rows.lawS0921AMatchesSmallRow.laidByTextAt .later Ybad.pinned [.data, .sentinel, .sentinel, .sentinel] true :=
  OpenClaim.laidByTextAt_later rfl rfl tie noOwnUnsafe
theorem lawS0921ACommutes_row_tie : Rows.lawS0921ACommutesRow.laidByTextAt .later Ybad.pinned [.data, .sentinel, .sentinel, .sentinel] true :=
  OpenClaim.laidByTextAt_later rfl rfl tie noOwnUnsafe
theorem lawS0921AIdentity_row_tie : Rows.lawS0921AIdentityRow.laidByTextAt .later Ybad.pinned [.data, .sentinel, .sentinel, .sentinel] true :=
  OpenClaim.laidByTextAt_later rfl rfl tie noOwnUnsafe
theorem fits2 : Ybad.pinned.checked.prog.listedFits [("unicode/utf8.acceptRanges", Rows.laid_unicode_utf8_acceptRanges), ("unicode/utf8.first", Rows.laid_unicode_utf8_first)] = true := by
  unfold Program.listedFits
  rw [noOwnUnsafe]
  kernel_rfl
theorem tie2 : Ybad.prog.laidByTextLater [("unicode/utf8.acceptRanges", Rows.laid_unicode_utf8_acceptRanges)] [.data] true :=
  Program.laidByTextLater.sub seatTie1 ["unicode/utf8.acceptRanges"] (by kernel_rfl) (by kernel_rfl)
theorem lawS0921BModel_row_tie : Rows.lawS0921BModelRow.laidByTextAt .later Ybad.pinned [.data, .pinned] true :=
  OpenClaim.laidByTextAt_pinned rfl rfl tie2 rfl rfl rfl rfl (fun y hy _e => by
    simp only [Rows.lawS0921BModelRow, List.zip_cons_cons, List.zip_nil_right, List.mem_cons, List.mem_nil_iff, or_false] at hy
    rcases hy with rfl | rfl
    · cases _e
    · exact ⟨pin_laid_unicode_utf8_first, by kernel_rfl⟩) fits2
theorem lawS0921BBuilt_row_tie : Rows.lawS0921BBuiltRow.laidByTextAt .later Ybad.pinned [.data, .pinned] true :=
  OpenClaim.laidByTextAt_pinned rfl rfl tie2 rfl rfl rfl rfl (fun y hy _e => by
    simp only [Rows.lawS0921BBuiltRow, List.zip_cons_cons, List.zip_nil_right, List.mem_cons, List.mem_nil_iff, or_false] at hy
    rcases hy with rfl | rfl
    · cases _e
    · exact ⟨pin_laid_unicode_utf8_first, by kernel_rfl⟩) fits2
theorem lawS0921BSign_row_tie : Rows.lawS0921BSignRow.laidByTextAt .later Ybad.pinned [.data, .pinned] true :=
  OpenClaim.laidByTextAt_pinned rfl rfl tie2 rfl rfl rfl rfl (fun y hy _e => by
    simp only [Rows.lawS0921BSignRow, List.zip_cons_cons, List.zip_nil_right, List.mem_cons, List.mem_nil_iff, or_false] at hy
    rcases hy with rfl | rfl
    · cases _e
    · exact ⟨pin_laid_unicode_utf8_first, by kernel_rfl⟩) fits2
theorem tie3 : Ybad.prog.laidByTextLater [("example.com/numden/numden.ErrNumOverflow", Rows.laid_example_com_numden_numden_ErrNumOverflow), ("example.com/numden/numden.ErrDenOverflow", Rows.laid_example_com_numden_numden_ErrDenOverflow)] [.sentinel, .sentinel] true :=
  Program.laidByTextLater.sub seatTie1 ["example.com/numden/numden.ErrNumOverflow", "example.com/numden/numden.ErrDenOverflow"] (by kernel_rfl) (by kernel_rfl)
theorem lawS0921CSingle_row_tie : Rows.lawS0921CSingleRow.laidByTextAt .later Ybad.pinned [.sentinel, .sentinel] true :=
  OpenClaim.laidByTextAt_later rfl rfl tie3 noOwnUnsafe
theorem lawS0921CScaled_row_tie : Rows.lawS0921CScaledRow.laidByTextAt .later Ybad.pinned [.sentinel, .sentinel] true :=
  OpenClaim.laidByTextAt_later rfl rfl tie3 noOwnUnsafe
end Go.Proofs.YbulksayDoor
