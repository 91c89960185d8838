/-
  NARROWER THAN 'FOR EVERY INPUT', by the rows' own cells (each row's printed sentence says how): FnNotDigitExactlyOwnNumerals: laid · FnStepKeyReadsBack: laid · FnStepInjectiveByKeyWidth: laid.
  DERIVED. THE GIVEN ROWS OF THIS SEAT. 3 by the template 'for every input the law returns true; each argument reads behind the call as it read before'; 0 by the template 'total and deterministic' (their statements: Qxb6608862aDoorTotals.lean).
  GIVEN WITH THE SEED: the statements are not yours to turn. If you find one false, say at which input.
  Laid BY PROGRAM, IN A SANDBOX (cutbox-rows.mjs): the forced cells as the released guide's own fill.sh prints them over the translation 93789532ad500bd0… (all of the seat's roots in one cut). By AI agents, Wed Nov 11 2026. No macro, syntax, notation, axiom, sorry.
-/
import Derived.Test.Qxb6608862aDoorChecked
import GoSem.Claim
import GoSem.ClaimJoined
import GoSem.ClaimMapViews
import Derived.JoinedTies
import Derived.KernelRfl
namespace Go.Proofs.Qxb6608862aDoor
/- THE CELL 'sum', in the pinned program and in every row, IS THE sha256 OF THE DUMP (.gsa) THAT Qxb6608862aDoorProg.lean LOADS. Nothing in Lean hashes anything: it is a label: what it is worth is what the hold of that sum in a sandbox is worth. -/
noncomputable def Tryd.pinned : Pinned := { name := "qxb6608862adoor", sum := "93789532ad500bd0db27854eee0b9e0bff127c73492fcefc2d0d72b071932971", checked := Tryd.checked }
namespace Rows
def none {H : Type} : Left H := { results := [], args := [] }

/- WHAT THE LISTED PACKAGE-LEVEL VARIABLES READ AS WHEN THE CALL BEGINS. Each datum BY PROGRAM (the guide's laid-datum.mjs) off the statement by which the dump's own 'gosem.cut.vars' lays the variable. In a bare row this is a premise. The card (Qxb6608862aDoorCards.lean) ties it to the program's text. -/
def laid_math_bits_deBruijn32tab {H : Type} : DataW H := .agg [.lit (.int .u8 0), .lit (.int .u8 1), .lit (.int .u8 28), .lit (.int .u8 2), .lit (.int .u8 29), .lit (.int .u8 14), .lit (.int .u8 24), .lit (.int .u8 3), .lit (.int .u8 30), .lit (.int .u8 22), .lit (.int .u8 20), .lit (.int .u8 15), .lit (.int .u8 25), .lit (.int .u8 17), .lit (.int .u8 4), .lit (.int .u8 8), .lit (.int .u8 31), .lit (.int .u8 27), .lit (.int .u8 13), .lit (.int .u8 23), .lit (.int .u8 21), .lit (.int .u8 19), .lit (.int .u8 16), .lit (.int .u8 7), .lit (.int .u8 26), .lit (.int .u8 12), .lit (.int .u8 18), .lit (.int .u8 6), .lit (.int .u8 11), .lit (.int .u8 5), .lit (.int .u8 10), .lit (.int .u8 9)]
def laid_math_bits_deBruijn64tab {H : Type} : DataW H := .agg [.lit (.int .u8 0), .lit (.int .u8 1), .lit (.int .u8 56), .lit (.int .u8 2), .lit (.int .u8 57), .lit (.int .u8 49), .lit (.int .u8 28), .lit (.int .u8 3), .lit (.int .u8 61), .lit (.int .u8 58), .lit (.int .u8 42), .lit (.int .u8 50), .lit (.int .u8 38), .lit (.int .u8 29), .lit (.int .u8 17), .lit (.int .u8 4), .lit (.int .u8 62), .lit (.int .u8 47), .lit (.int .u8 59), .lit (.int .u8 36), .lit (.int .u8 45), .lit (.int .u8 43), .lit (.int .u8 51), .lit (.int .u8 22), .lit (.int .u8 53), .lit (.int .u8 39), .lit (.int .u8 33), .lit (.int .u8 30), .lit (.int .u8 24), .lit (.int .u8 18), .lit (.int .u8 12), .lit (.int .u8 5), .lit (.int .u8 63), .lit (.int .u8 55), .lit (.int .u8 48), .lit (.int .u8 27), .lit (.int .u8 60), .lit (.int .u8 41), .lit (.int .u8 37), .lit (.int .u8 16), .lit (.int .u8 46), .lit (.int .u8 35), .lit (.int .u8 44), .lit (.int .u8 21), .lit (.int .u8 52), .lit (.int .u8 32), .lit (.int .u8 23), .lit (.int .u8 11), .lit (.int .u8 54), .lit (.int .u8 26), .lit (.int .u8 40), .lit (.int .u8 15), .lit (.int .u8 34), .lit (.int .u8 20), .lit (.int .u8 31), .lit (.int .u8 10), .lit (.int .u8 25), .lit (.int .u8 14), .lit (.int .u8 19), .lit (.int .u8 9), .lit (.int .u8 13), .lit (.int .u8 8), .lit (.int .u8 7), .lit (.int .u8 6)]
def laid_internal_strconv_uint64pow10 {H : Type} : DataW H := .agg [.lit (.int .u64 1), .lit (.int .u64 10), .lit (.int .u64 100), .lit (.int .u64 1000), .lit (.int .u64 10000), .lit (.int .u64 100000), .lit (.int .u64 1000000), .lit (.int .u64 10000000), .lit (.int .u64 100000000), .lit (.int .u64 1000000000), .lit (.int .u64 10000000000), .lit (.int .u64 100000000000), .lit (.int .u64 1000000000000), .lit (.int .u64 10000000000000), .lit (.int .u64 100000000000000), .lit (.int .u64 1000000000000000), .lit (.int .u64 10000000000000000), .lit (.int .u64 100000000000000000), .lit (.int .u64 1000000000000000000), .lit (.int .u64 10000000000000000000)]
def laid_example_com_batonpass_batonpass_pkg_asn1_kindNames {H : Type} : DataW H := .agg [.lit (.string [105, 110, 118, 97, 108, 105, 100]), .lit (.string [66, 79, 79, 76, 69, 65, 78]), .lit (.string [78, 85, 76, 76]), .lit (.string [73, 78, 84, 69, 71, 69, 82]), .lit (.string [69, 78, 85, 77, 69, 82, 65, 84, 69, 68]), .lit (.string [66, 73, 84, 32, 83, 84, 82, 73, 78, 71]), .lit (.string [79, 67, 84, 69, 84, 32, 83, 84, 82, 73, 78, 71]), .lit (.string [99, 104, 97, 114, 97, 99, 116, 101, 114, 32, 115, 116, 114, 105, 110, 103]), .lit (.string [79, 66, 74, 69, 67, 84, 32, 73, 68, 69, 78, 84, 73, 70, 73, 69, 82]), .lit (.string [83, 69, 81, 85, 69, 78, 67, 69]), .lit (.string [83, 69, 81, 85, 69, 78, 67, 69, 32, 79, 70]), .lit (.string [67, 72, 79, 73, 67, 69]), .lit (.string [111, 112, 101, 110, 32, 116, 121, 112, 101])]

/-- 'zzlaws_pkg_asn1_b1.FnNotDigitExactlyOwnNumerals': WHATEVER THE INPUT: true; the input reads as it did. -/
def fnNotDigitExactlyOwnNumeralsSpec : ChangeSpec := { name := "fnNotDigitExactlyOwnNumerals", vars := ["example.com/batonpass/batonpass/pkg/asn1.kindNames"], fn := fun _ => fun
  | [d, g1] => { results := [.lit (.bool true)], args := [d], vars := [g1] }
  | _ => none }
def fnNotDigitExactlyOwnNumeralsRow : OpenClaim := { program := "qxb6608862adoor", sum := "93789532ad500bd0db27854eee0b9e0bff127c73492fcefc2d0d72b071932971", func := "example.com/batonpass/batonpass/zzlaws_pkg_asn1_b1.FnNotDigitExactlyOwnNumerals", spec := "fnNotDigitExactlyOwnNumerals", named := ["internal/strconv.uint64pow10", "math/bits.deBruijn32tab", "math/bits.deBruijn64tab", "example.com/batonpass/batonpass/pkg/asn1.kindNames"], apart := false, laid := [("math/bits.deBruijn32tab", laid_math_bits_deBruijn32tab), ("math/bits.deBruijn64tab", laid_math_bits_deBruijn64tab), ("internal/strconv.uint64pow10", laid_internal_strconv_uint64pow10), ("example.com/batonpass/batonpass/pkg/asn1.kindNames", laid_example_com_batonpass_batonpass_pkg_asn1_kindNames)] }
def FnNotDigitExactlyOwnNumeralsSaid : Prop := fnNotDigitExactlyOwnNumeralsRow.holds Tryd.pinned (OpenSpec.ofChange fnNotDigitExactlyOwnNumeralsSpec)

/-- ITS FALSE NEIGHBOUR: 'it returns false'. Refute it at one input. -/
def fnNotDigitExactlyOwnNumeralsWrong : ChangeSpec := { name := "fnNotDigitExactlyOwnNumerals", vars := ["example.com/batonpass/batonpass/pkg/asn1.kindNames"], fn := fun _ => fun
  | [d, g1] => { results := [.lit (.bool false)], args := [d], vars := [g1] }
  | _ => none }
def FnNotDigitExactlyOwnNumeralsWrongFalsely : Prop := fnNotDigitExactlyOwnNumeralsRow.holds Tryd.pinned (OpenSpec.ofChange fnNotDigitExactlyOwnNumeralsWrong)

/-- 'zzlaws_pkg_asn1_b1.FnStepKeyReadsBack': WHATEVER THE INPUT: true; the input reads as it did. -/
def fnStepKeyReadsBackSpec : ChangeSpec := { name := "fnStepKeyReadsBack", vars := ["example.com/batonpass/batonpass/pkg/asn1.kindNames"], fn := fun _ => fun
  | [d1, d2, d3, d4, d5, d6, g1] => { results := [.lit (.bool true)], args := [d1, d2, d3, d4, d5, d6], vars := [g1] }
  | _ => none }
def fnStepKeyReadsBackRow : OpenClaim := { program := "qxb6608862adoor", sum := "93789532ad500bd0db27854eee0b9e0bff127c73492fcefc2d0d72b071932971", func := "example.com/batonpass/batonpass/zzlaws_pkg_asn1_b1.FnStepKeyReadsBack", spec := "fnStepKeyReadsBack", named := ["internal/strconv.uint64pow10", "math/bits.deBruijn32tab", "math/bits.deBruijn64tab", "example.com/batonpass/batonpass/pkg/asn1.kindNames"], apart := false, laid := [("math/bits.deBruijn32tab", laid_math_bits_deBruijn32tab), ("math/bits.deBruijn64tab", laid_math_bits_deBruijn64tab), ("internal/strconv.uint64pow10", laid_internal_strconv_uint64pow10), ("example.com/batonpass/batonpass/pkg/asn1.kindNames", laid_example_com_batonpass_batonpass_pkg_asn1_kindNames)] }
def FnStepKeyReadsBackSaid : Prop := fnStepKeyReadsBackRow.holds Tryd.pinned (OpenSpec.ofChange fnStepKeyReadsBackSpec)

/-- ITS FALSE NEIGHBOUR: 'it returns false'. Refute it at one input. -/
def fnStepKeyReadsBackWrong : ChangeSpec := { name := "fnStepKeyReadsBack", vars := ["example.com/batonpass/batonpass/pkg/asn1.kindNames"], fn := fun _ => fun
  | [d1, d2, d3, d4, d5, d6, g1] => { results := [.lit (.bool false)], args := [d1, d2, d3, d4, d5, d6], vars := [g1] }
  | _ => none }
def FnStepKeyReadsBackWrongFalsely : Prop := fnStepKeyReadsBackRow.holds Tryd.pinned (OpenSpec.ofChange fnStepKeyReadsBackWrong)

/-- 'zzlaws_pkg_asn1_b1.FnStepInjectiveByKeyWidth': WHATEVER THE INPUT: true; the input reads as it did. -/
def fnStepInjectiveByKeyWidthSpec : ChangeSpec := { name := "fnStepInjectiveByKeyWidth", vars := ["example.com/batonpass/batonpass/pkg/asn1.kindNames"], fn := fun _ => fun
  | [d1, d2, d3, d4, d5, d6, d7, g1] => { results := [.lit (.bool true)], args := [d1, d2, d3, d4, d5, d6, d7], vars := [g1] }
  | _ => none }
def fnStepInjectiveByKeyWidthRow : OpenClaim := { program := "qxb6608862adoor", sum := "93789532ad500bd0db27854eee0b9e0bff127c73492fcefc2d0d72b071932971", func := "example.com/batonpass/batonpass/zzlaws_pkg_asn1_b1.FnStepInjectiveByKeyWidth", spec := "fnStepInjectiveByKeyWidth", named := ["internal/strconv.uint64pow10", "math/bits.deBruijn32tab", "math/bits.deBruijn64tab", "example.com/batonpass/batonpass/pkg/asn1.kindNames"], apart := false, laid := [("math/bits.deBruijn32tab", laid_math_bits_deBruijn32tab), ("math/bits.deBruijn64tab", laid_math_bits_deBruijn64tab), ("internal/strconv.uint64pow10", laid_internal_strconv_uint64pow10), ("example.com/batonpass/batonpass/pkg/asn1.kindNames", laid_example_com_batonpass_batonpass_pkg_asn1_kindNames)] }
def FnStepInjectiveByKeyWidthSaid : Prop := fnStepInjectiveByKeyWidthRow.holds Tryd.pinned (OpenSpec.ofChange fnStepInjectiveByKeyWidthSpec)

/-- ITS FALSE NEIGHBOUR: 'it returns false'. Refute it at one input. -/
def fnStepInjectiveByKeyWidthWrong : ChangeSpec := { name := "fnStepInjectiveByKeyWidth", vars := ["example.com/batonpass/batonpass/pkg/asn1.kindNames"], fn := fun _ => fun
  | [d1, d2, d3, d4, d5, d6, d7, g1] => { results := [.lit (.bool false)], args := [d1, d2, d3, d4, d5, d6, d7], vars := [g1] }
  | _ => none }
def FnStepInjectiveByKeyWidthWrongFalsely : Prop := fnStepInjectiveByKeyWidthRow.holds Tryd.pinned (OpenSpec.ofChange fnStepInjectiveByKeyWidthWrong)

end Rows
end Go.Proofs.Qxb6608862aDoor
