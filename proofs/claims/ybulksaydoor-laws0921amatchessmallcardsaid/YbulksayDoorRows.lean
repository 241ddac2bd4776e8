/-
  NARROWER THAN 'FOR EVERY INPUT', by the rows' own cells (each row's printed sentence says how): LawS0921AMatchesSmall: ifaces, laid · LawS0921ACommutes: ifaces, laid · LawS0921AIdentity: ifaces, laid · LawS0921BModel: laid · LawS0921BBuilt: laid · LawS0921BSign: laid · LawS0921CSingle: ifaces, laid · LawS0921CScaled: ifaces, laid.
  DERIVED. THE GIVEN ROWS OF THIS SEAT. 8 by the template 'for every input the law returns true; each argument reads behind the call as it read before'; 0 by the template 'total and deterministic' (their statements: YbulksayDoorTotals.lean).
  GIVEN WITH THE SEED: the statements are not yours to turn. If you find one false, say at which input.
  Laid BY PROGRAM, IN A SANDBOX (cutbox-rows.mjs): the forced cells as the released guide's own fill.sh prints them over the translation 05621be857f5663d… (all of the seat's roots in one cut). By AI agents, Wed Nov 11 2026. No macro, syntax, notation, axiom, sorry.
-/
import Derived.Test.YbulksayDoorChecked
import GoSem.PinnedTables
import GoSem.Claim
import GoSem.ClaimJoined
import GoSem.ClaimMapViews
import Derived.JoinedTies
import Derived.KernelRfl
namespace Go.Proofs.YbulksayDoor
/- THE CELL 'sum', in the pinned program and in every row, IS THE sha256 OF THE DUMP (.gsa) THAT YbulksayDoorProg.lean LOADS. Nothing in Lean hashes anything: it is a label: what it is worth is what the hold of that sum in a sandbox is worth. -/
noncomputable def Ybad.pinned : Pinned := { name := "ybulksaydoor", sum := "05621be857f5663dd35bf0a97d0a3c472f1b26fc9e53be2205098f208739223a", checked := Ybad.checked }
namespace Rows
def none {H : Type} : Left H := { results := [], args := [] }

/- WHAT THE LISTED PACKAGE-LEVEL VARIABLES READ AS WHEN THE CALL BEGINS. Each datum BY PROGRAM (the guide's laid-datum.mjs) off the statement by which the dump's own 'gosem.cut.vars' lays the variable. In a bare row this is a premise. The card (YbulksayDoorCards.lean) ties it to the program's text. -/
def laid_math_bits_deBruijn64tab {H : Type} : DataW H := .agg [.lit (.int .u8 0), .lit (.int .u8 1), .lit (.int .u8 56), .lit (.int .u8 2), .lit (.int .u8 57), .lit (.int .u8 49), .lit (.int .u8 28), .lit (.int .u8 3), .lit (.int .u8 61), .lit (.int .u8 58), .lit (.int .u8 42), .lit (.int .u8 50), .lit (.int .u8 38), .lit (.int .u8 29), .lit (.int .u8 17), .lit (.int .u8 4), .lit (.int .u8 62), .lit (.int .u8 47), .lit (.int .u8 59), .lit (.int .u8 36), .lit (.int .u8 45), .lit (.int .u8 43), .lit (.int .u8 51), .lit (.int .u8 22), .lit (.int .u8 53), .lit (.int .u8 39), .lit (.int .u8 33), .lit (.int .u8 30), .lit (.int .u8 24), .lit (.int .u8 18), .lit (.int .u8 12), .lit (.int .u8 5), .lit (.int .u8 63), .lit (.int .u8 55), .lit (.int .u8 48), .lit (.int .u8 27), .lit (.int .u8 60), .lit (.int .u8 41), .lit (.int .u8 37), .lit (.int .u8 16), .lit (.int .u8 46), .lit (.int .u8 35), .lit (.int .u8 44), .lit (.int .u8 21), .lit (.int .u8 52), .lit (.int .u8 32), .lit (.int .u8 23), .lit (.int .u8 11), .lit (.int .u8 54), .lit (.int .u8 26), .lit (.int .u8 40), .lit (.int .u8 15), .lit (.int .u8 34), .lit (.int .u8 20), .lit (.int .u8 31), .lit (.int .u8 10), .lit (.int .u8 25), .lit (.int .u8 14), .lit (.int .u8 19), .lit (.int .u8 9), .lit (.int .u8 13), .lit (.int .u8 8), .lit (.int .u8 7), .lit (.int .u8 6)]
def laid_example_com_numden_numden_ErrNumOverflow {H : Type} : DataW H := .iface "*errors.errorString" (.ptr (.agg [.lit (.string [110, 117, 109, 100, 101, 110, 58, 32, 110, 117, 109, 101, 114, 97, 116, 111, 114, 32, 111, 118, 101, 114, 102, 108, 111, 119])]))
def laid_example_com_numden_numden_ErrDenOverflow {H : Type} : DataW H := .iface "*errors.errorString" (.ptr (.agg [.lit (.string [110, 117, 109, 100, 101, 110, 58, 32, 100, 101, 110, 111, 109, 105, 110, 97, 116, 111, 114, 32, 111, 118, 101, 114, 102, 108, 111, 119])]))
def laid_example_com_numden_numden_ErrDivByZero {H : Type} : DataW H := .iface "*errors.errorString" (.ptr (.agg [.lit (.string [110, 117, 109, 100, 101, 110, 58, 32, 100, 105, 118, 105, 115, 105, 111, 110, 32, 98, 121, 32, 122, 101, 114, 111])]))
def laid_unicode_utf8_acceptRanges {H : Type} : DataW H := .agg [.agg [.lit (.int .u8 128), .lit (.int .u8 191)], .agg [.lit (.int .u8 160), .lit (.int .u8 191)], .agg [.lit (.int .u8 128), .lit (.int .u8 159)], .agg [.lit (.int .u8 144), .lit (.int .u8 191)], .agg [.lit (.int .u8 128), .lit (.int .u8 143)], .agg [.lit (.int .u8 0), .lit (.int .u8 0)], .agg [.lit (.int .u8 0), .lit (.int .u8 0)], .agg [.lit (.int .u8 0), .lit (.int .u8 0)], .agg [.lit (.int .u8 0), .lit (.int .u8 0)], .agg [.lit (.int .u8 0), .lit (.int .u8 0)], .agg [.lit (.int .u8 0), .lit (.int .u8 0)], .agg [.lit (.int .u8 0), .lit (.int .u8 0)], .agg [.lit (.int .u8 0), .lit (.int .u8 0)], .agg [.lit (.int .u8 0), .lit (.int .u8 0)], .agg [.lit (.int .u8 0), .lit (.int .u8 0)], .agg [.lit (.int .u8 0), .lit (.int .u8 0)]]
/-- One of Go's own tables, pinned by name: the form's constant. -/
def laid_unicode_utf8_first : DataW Unit := Go.Pinned.utf8First

/-- 'numden.LawS0921AMatchesSmall': WHATEVER THE INPUT: true; the input reads as it did. -/
def lawS0921AMatchesSmallSpec : ChangeSpec := { name := "lawS0921AMatchesSmall", vars := ["example.com/numden/numden.ErrDivByZero", "example.com/numden/numden.ErrNumOverflow", "example.com/numden/numden.ErrDenOverflow"], fn := fun _ => fun
  | [d1, d2, d3, d4, g1, g2, g3] => { results := [.lit (.bool true)], args := [d1, d2, d3, d4], vars := [g1, g2, g3] }
  | _ => none }
def lawS0921AMatchesSmallRow : OpenClaim := { program := "ybulksaydoor", sum := "05621be857f5663dd35bf0a97d0a3c472f1b26fc9e53be2205098f208739223a", func := "example.com/numden/numden.LawS0921AMatchesSmall", spec := "lawS0921AMatchesSmall", named := ["example.com/numden/numden.ErrDivByZero", "math/bits.deBruijn64tab", "example.com/numden/numden.ErrNumOverflow", "example.com/numden/numden.ErrDenOverflow"], ifaces := true, apart := false, laid := [("math/bits.deBruijn64tab", laid_math_bits_deBruijn64tab), ("example.com/numden/numden.ErrNumOverflow", laid_example_com_numden_numden_ErrNumOverflow), ("example.com/numden/numden.ErrDenOverflow", laid_example_com_numden_numden_ErrDenOverflow), ("example.com/numden/numden.ErrDivByZero", laid_example_com_numden_numden_ErrDivByZero)] }
def LawS0921AMatchesSmallSaid : Prop := lawS0921AMatchesSmallRow.holds Ybad.pinned (OpenSpec.ofChange lawS0921AMatchesSmallSpec)

/-- ITS FALSE NEIGHBOUR: 'it returns false'. Refute it at one input. -/
def lawS0921AMatchesSmallWrong : ChangeSpec := { name := "lawS0921AMatchesSmall", vars := ["example.com/numden/numden.ErrDivByZero", "example.com/numden/numden.ErrNumOverflow", "example.com/numden/numden.ErrDenOverflow"], fn := fun _ => fun
  | [d1, d2, d3, d4, g1, g2, g3] => { results := [.lit (.bool false)], args := [d1, d2, d3, d4], vars := [g1, g2, g3] }
  | _ => none }
def LawS0921AMatchesSmallWrongFalsely : Prop := lawS0921AMatchesSmallRow.holds Ybad.pinned (OpenSpec.ofChange lawS0921AMatchesSmallWrong)

/-- 'numden.LawS0921ACommutes': WHATEVER THE INPUT: true; the input reads as it did. -/
def lawS0921ACommutesSpec : ChangeSpec := { name := "lawS0921ACommutes", vars := ["example.com/numden/numden.ErrNumOverflow", "example.com/numden/numden.ErrDenOverflow", "example.com/numden/numden.ErrDivByZero"], fn := fun _ => fun
  | [d1, d2, d3, d4, g1, g2, g3] => { results := [.lit (.bool true)], args := [d1, d2, d3, d4], vars := [g1, g2, g3] }
  | _ => none }
def lawS0921ACommutesRow : OpenClaim := { program := "ybulksaydoor", sum := "05621be857f5663dd35bf0a97d0a3c472f1b26fc9e53be2205098f208739223a", func := "example.com/numden/numden.LawS0921ACommutes", spec := "lawS0921ACommutes", named := ["example.com/numden/numden.ErrNumOverflow", "example.com/numden/numden.ErrDenOverflow", "example.com/numden/numden.ErrDivByZero", "math/bits.deBruijn64tab"], ifaces := true, apart := false, laid := [("math/bits.deBruijn64tab", laid_math_bits_deBruijn64tab), ("example.com/numden/numden.ErrNumOverflow", laid_example_com_numden_numden_ErrNumOverflow), ("example.com/numden/numden.ErrDenOverflow", laid_example_com_numden_numden_ErrDenOverflow), ("example.com/numden/numden.ErrDivByZero", laid_example_com_numden_numden_ErrDivByZero)] }
def LawS0921ACommutesSaid : Prop := lawS0921ACommutesRow.holds Ybad.pinned (OpenSpec.ofChange lawS0921ACommutesSpec)

/-- ITS FALSE NEIGHBOUR: 'it returns false'. Refute it at one input. -/
def lawS0921ACommutesWrong : ChangeSpec := { name := "lawS0921ACommutes", vars := ["example.com/numden/numden.ErrNumOverflow", "example.com/numden/numden.ErrDenOverflow", "example.com/numden/numden.ErrDivByZero"], fn := fun _ => fun
  | [d1, d2, d3, d4, g1, g2, g3] => { results := [.lit (.bool false)], args := [d1, d2, d3, d4], vars := [g1, g2, g3] }
  | _ => none }
def LawS0921ACommutesWrongFalsely : Prop := lawS0921ACommutesRow.holds Ybad.pinned (OpenSpec.ofChange lawS0921ACommutesWrong)

/-- 'numden.LawS0921AIdentity': WHATEVER THE INPUT: true; the input reads as it did. -/
def lawS0921AIdentitySpec : ChangeSpec := { name := "lawS0921AIdentity", vars := ["example.com/numden/numden.ErrDivByZero", "example.com/numden/numden.ErrNumOverflow", "example.com/numden/numden.ErrDenOverflow"], fn := fun _ => fun
  | [d1, d2, g1, g2, g3] => { results := [.lit (.bool true)], args := [d1, d2], vars := [g1, g2, g3] }
  | _ => none }
def lawS0921AIdentityRow : OpenClaim := { program := "ybulksaydoor", sum := "05621be857f5663dd35bf0a97d0a3c472f1b26fc9e53be2205098f208739223a", func := "example.com/numden/numden.LawS0921AIdentity", spec := "lawS0921AIdentity", named := ["example.com/numden/numden.ErrDivByZero", "math/bits.deBruijn64tab", "example.com/numden/numden.ErrNumOverflow", "example.com/numden/numden.ErrDenOverflow"], ifaces := true, apart := false, laid := [("math/bits.deBruijn64tab", laid_math_bits_deBruijn64tab), ("example.com/numden/numden.ErrNumOverflow", laid_example_com_numden_numden_ErrNumOverflow), ("example.com/numden/numden.ErrDenOverflow", laid_example_com_numden_numden_ErrDenOverflow), ("example.com/numden/numden.ErrDivByZero", laid_example_com_numden_numden_ErrDivByZero)] }
def LawS0921AIdentitySaid : Prop := lawS0921AIdentityRow.holds Ybad.pinned (OpenSpec.ofChange lawS0921AIdentitySpec)

/-- ITS FALSE NEIGHBOUR: 'it returns false'. Refute it at one input. -/
def lawS0921AIdentityWrong : ChangeSpec := { name := "lawS0921AIdentity", vars := ["example.com/numden/numden.ErrDivByZero", "example.com/numden/numden.ErrNumOverflow", "example.com/numden/numden.ErrDenOverflow"], fn := fun _ => fun
  | [d1, d2, g1, g2, g3] => { results := [.lit (.bool false)], args := [d1, d2], vars := [g1, g2, g3] }
  | _ => none }
def LawS0921AIdentityWrongFalsely : Prop := lawS0921AIdentityRow.holds Ybad.pinned (OpenSpec.ofChange lawS0921AIdentityWrong)

/-- 'numden.LawS0921BModel': WHATEVER THE INPUT: true; the input reads as it did. -/
def lawS0921BModelSpec : ChangeSpec := { name := "lawS0921BModel", fn := fun _ => fun
  | [d] => { results := [.lit (.bool true)], args := [d] }
  | _ => none }
def lawS0921BModelRow : OpenClaim := { program := "ybulksaydoor", sum := "05621be857f5663dd35bf0a97d0a3c472f1b26fc9e53be2205098f208739223a", func := "example.com/numden/numden.LawS0921BModel", spec := "lawS0921BModel", inPlace := ["internal/bytealg.IndexByteString", "internal/bytealg.IndexString"], named := ["unicode/utf8.first", "unicode/utf8.acceptRanges", "internal/bytealg.MaxLen"], apart := false, laid := [("unicode/utf8.acceptRanges", laid_unicode_utf8_acceptRanges), ("unicode/utf8.first", laid_unicode_utf8_first)] }
def LawS0921BModelSaid : Prop := lawS0921BModelRow.holds Ybad.pinned (OpenSpec.ofChange lawS0921BModelSpec)

/-- ITS FALSE NEIGHBOUR: 'it returns false'. Refute it at one input. -/
def lawS0921BModelWrong : ChangeSpec := { name := "lawS0921BModel", fn := fun _ => fun
  | [d] => { results := [.lit (.bool false)], args := [d] }
  | _ => none }
def LawS0921BModelWrongFalsely : Prop := lawS0921BModelRow.holds Ybad.pinned (OpenSpec.ofChange lawS0921BModelWrong)

/-- 'numden.LawS0921BBuilt': WHATEVER THE INPUT: true; the input reads as it did. -/
def lawS0921BBuiltSpec : ChangeSpec := { name := "lawS0921BBuilt", fn := fun _ => fun
  | [d1, d2, d3] => { results := [.lit (.bool true)], args := [d1, d2, d3] }
  | _ => none }
def lawS0921BBuiltRow : OpenClaim := { program := "ybulksaydoor", sum := "05621be857f5663dd35bf0a97d0a3c472f1b26fc9e53be2205098f208739223a", func := "example.com/numden/numden.LawS0921BBuilt", spec := "lawS0921BBuilt", inPlace := ["internal/bytealg.IndexByteString", "internal/bytealg.IndexString"], named := ["unicode/utf8.first", "unicode/utf8.acceptRanges", "internal/bytealg.MaxLen"], apart := false, laid := [("unicode/utf8.acceptRanges", laid_unicode_utf8_acceptRanges), ("unicode/utf8.first", laid_unicode_utf8_first)] }
def LawS0921BBuiltSaid : Prop := lawS0921BBuiltRow.holds Ybad.pinned (OpenSpec.ofChange lawS0921BBuiltSpec)

/-- ITS FALSE NEIGHBOUR: 'it returns false'. Refute it at one input. -/
def lawS0921BBuiltWrong : ChangeSpec := { name := "lawS0921BBuilt", fn := fun _ => fun
  | [d1, d2, d3] => { results := [.lit (.bool false)], args := [d1, d2, d3] }
  | _ => none }
def LawS0921BBuiltWrongFalsely : Prop := lawS0921BBuiltRow.holds Ybad.pinned (OpenSpec.ofChange lawS0921BBuiltWrong)

/-- 'numden.LawS0921BSign': WHATEVER THE INPUT: true; the input reads as it did. -/
def lawS0921BSignSpec : ChangeSpec := { name := "lawS0921BSign", fn := fun _ => fun
  | [d] => { results := [.lit (.bool true)], args := [d] }
  | _ => none }
def lawS0921BSignRow : OpenClaim := { program := "ybulksaydoor", sum := "05621be857f5663dd35bf0a97d0a3c472f1b26fc9e53be2205098f208739223a", func := "example.com/numden/numden.LawS0921BSign", spec := "lawS0921BSign", inPlace := ["internal/bytealg.IndexByteString", "internal/bytealg.IndexString"], named := ["unicode/utf8.first", "unicode/utf8.acceptRanges", "internal/bytealg.MaxLen"], apart := false, laid := [("unicode/utf8.acceptRanges", laid_unicode_utf8_acceptRanges), ("unicode/utf8.first", laid_unicode_utf8_first)] }
def LawS0921BSignSaid : Prop := lawS0921BSignRow.holds Ybad.pinned (OpenSpec.ofChange lawS0921BSignSpec)

/-- ITS FALSE NEIGHBOUR: 'it returns false'. Refute it at one input. -/
def lawS0921BSignWrong : ChangeSpec := { name := "lawS0921BSign", fn := fun _ => fun
  | [d] => { results := [.lit (.bool false)], args := [d] }
  | _ => none }
def LawS0921BSignWrongFalsely : Prop := lawS0921BSignRow.holds Ybad.pinned (OpenSpec.ofChange lawS0921BSignWrong)

/-- 'numden.LawS0921CSingle': WHATEVER THE INPUT: true; the input reads as it did. -/
def lawS0921CSingleSpec : ChangeSpec := { name := "lawS0921CSingle", vars := ["example.com/numden/numden.ErrNumOverflow", "example.com/numden/numden.nttPrimes", "example.com/numden/numden.ErrDenOverflow"], fn := fun _ => fun
  | [d1, d2, d3, g1, g2, g3] => { results := [.lit (.bool true)], args := [d1, d2, d3], vars := [g1, g2, g3] }
  | _ => none }
def lawS0921CSingleRow : OpenClaim := { program := "ybulksaydoor", sum := "05621be857f5663dd35bf0a97d0a3c472f1b26fc9e53be2205098f208739223a", func := "example.com/numden/numden.LawS0921CSingle", spec := "lawS0921CSingle", inPlace := ["math/bits.Add64", "math/bits.Sub64"], recurses := true, named := ["example.com/numden/numden.ErrNumOverflow", "math/bits.divideError", "math/bits.overflowError", "example.com/numden/numden.nttPrimes", "example.com/numden/numden.ErrDenOverflow"], ifaces := true, apart := false, laid := [("example.com/numden/numden.ErrNumOverflow", laid_example_com_numden_numden_ErrNumOverflow), ("example.com/numden/numden.ErrDenOverflow", laid_example_com_numden_numden_ErrDenOverflow)] }
def LawS0921CSingleSaid : Prop := lawS0921CSingleRow.holds Ybad.pinned (OpenSpec.ofChange lawS0921CSingleSpec)

/-- ITS FALSE NEIGHBOUR: 'it returns false'. Refute it at one input. -/
def lawS0921CSingleWrong : ChangeSpec := { name := "lawS0921CSingle", vars := ["example.com/numden/numden.ErrNumOverflow", "example.com/numden/numden.nttPrimes", "example.com/numden/numden.ErrDenOverflow"], fn := fun _ => fun
  | [d1, d2, d3, g1, g2, g3] => { results := [.lit (.bool false)], args := [d1, d2, d3], vars := [g1, g2, g3] }
  | _ => none }
def LawS0921CSingleWrongFalsely : Prop := lawS0921CSingleRow.holds Ybad.pinned (OpenSpec.ofChange lawS0921CSingleWrong)

/-- 'numden.LawS0921CScaled': WHATEVER THE INPUT: true; the input reads as it did. -/
def lawS0921CScaledSpec : ChangeSpec := { name := "lawS0921CScaled", vars := ["example.com/numden/numden.ErrNumOverflow", "example.com/numden/numden.nttPrimes", "example.com/numden/numden.ErrDenOverflow"], fn := fun _ => fun
  | [d1, d2, d3, d4, g1, g2, g3] => { results := [.lit (.bool true)], args := [d1, d2, d3, d4], vars := [g1, g2, g3] }
  | _ => none }
def lawS0921CScaledRow : OpenClaim := { program := "ybulksaydoor", sum := "05621be857f5663dd35bf0a97d0a3c472f1b26fc9e53be2205098f208739223a", func := "example.com/numden/numden.LawS0921CScaled", spec := "lawS0921CScaled", inPlace := ["math/bits.Add64", "math/bits.Sub64"], recurses := true, named := ["example.com/numden/numden.ErrNumOverflow", "math/bits.divideError", "math/bits.overflowError", "example.com/numden/numden.nttPrimes", "example.com/numden/numden.ErrDenOverflow"], ifaces := true, apart := false, laid := [("example.com/numden/numden.ErrNumOverflow", laid_example_com_numden_numden_ErrNumOverflow), ("example.com/numden/numden.ErrDenOverflow", laid_example_com_numden_numden_ErrDenOverflow)] }
def LawS0921CScaledSaid : Prop := lawS0921CScaledRow.holds Ybad.pinned (OpenSpec.ofChange lawS0921CScaledSpec)

/-- ITS FALSE NEIGHBOUR: 'it returns false'. Refute it at one input. -/
def lawS0921CScaledWrong : ChangeSpec := { name := "lawS0921CScaled", vars := ["example.com/numden/numden.ErrNumOverflow", "example.com/numden/numden.nttPrimes", "example.com/numden/numden.ErrDenOverflow"], fn := fun _ => fun
  | [d1, d2, d3, d4, g1, g2, g3] => { results := [.lit (.bool false)], args := [d1, d2, d3, d4], vars := [g1, g2, g3] }
  | _ => none }
def LawS0921CScaledWrongFalsely : Prop := lawS0921CScaledRow.holds Ybad.pinned (OpenSpec.ofChange lawS0921CScaledWrong)

end Rows
end Go.Proofs.YbulksayDoor
