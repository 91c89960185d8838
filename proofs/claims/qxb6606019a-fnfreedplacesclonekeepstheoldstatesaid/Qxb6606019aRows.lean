/-
  No cell of these rows narrows 'for every input' (looked for: loops, veiled, ifaces, maps, wideKeys, modest, calm, conditions, laid).
  DERIVED. THE GIVEN ROWS OF THIS SEAT. 5 by the template 'for every input the law returns true; each argument reads behind the call as it read before'; 0 by the template 'total and deterministic' (their statements: Qxb6606019aTotals.lean).
  GIVEN WITH THE SEED: the statements are not yours to turn. If you find one false, say at which input.
  Laid BY PROGRAM, IN A SANDBOX (cutbox-rows.mjs): the forced cells as the released guide's own fill.sh prints them over the translation d40d814f2a6d8efd… (all of the seat's roots in one cut). By AI agents, Wed Nov 11 2026. No macro, syntax, notation, axiom, sorry.
-/
import Derived.Test.Qxb6606019aChecked
import GoSem.Claim
import GoSem.ClaimJoined
import GoSem.ClaimMapViews
import Derived.JoinedTies
import Derived.KernelRfl
namespace Go.Proofs.Qxb6606019a
/- THE CELL 'sum', in the pinned program and in every row, IS THE sha256 OF THE DUMP (.gsa) THAT Qxb6606019aProg.lean LOADS. Nothing in Lean hashes anything: it is a label: what it is worth is what the hold of that sum in a sandbox is worth. -/
noncomputable def Try.pinned : Pinned := { name := "qxb6606019a", sum := "d40d814f2a6d8efd1786e8dc3a0541c976e949fb1f8affc28dc9ad362247e572", checked := Try.checked }
namespace Rows
def none {H : Type} : Left H := { results := [], args := [] }

/-- 'zzlaws_internal_testrun_b1.FnTookIsSaturatedDifference': WHATEVER THE INPUT: true; the input reads as it did. -/
def fnTookIsSaturatedDifferenceSpec : ChangeSpec := { name := "fnTookIsSaturatedDifference", fn := fun _ => fun
  | [d1, d2] => { results := [.lit (.bool true)], args := [d1, d2] }
  | _ => none }
def fnTookIsSaturatedDifferenceRow : OpenClaim := { program := "qxb6606019a", sum := "d40d814f2a6d8efd1786e8dc3a0541c976e949fb1f8affc28dc9ad362247e572", func := "example.com/abreast/abreast/zzlaws_internal_testrun_b1.FnTookIsSaturatedDifference", spec := "fnTookIsSaturatedDifference", apart := false }
def FnTookIsSaturatedDifferenceSaid : Prop := fnTookIsSaturatedDifferenceRow.holds Try.pinned (OpenSpec.ofChange fnTookIsSaturatedDifferenceSpec)

/-- ITS FALSE NEIGHBOUR: 'it returns false'. Refute it at one input. -/
def fnTookIsSaturatedDifferenceWrong : ChangeSpec := { name := "fnTookIsSaturatedDifference", fn := fun _ => fun
  | [d1, d2] => { results := [.lit (.bool false)], args := [d1, d2] }
  | _ => none }
def FnTookIsSaturatedDifferenceWrongFalsely : Prop := fnTookIsSaturatedDifferenceRow.holds Try.pinned (OpenSpec.ofChange fnTookIsSaturatedDifferenceWrong)

/-- 'zzlaws_internal_testrun_b1.FnTookSignOrderAndSum': WHATEVER THE INPUT: true; the input reads as it did. -/
def fnTookSignOrderAndSumSpec : ChangeSpec := { name := "fnTookSignOrderAndSum", fn := fun _ => fun
  | [d1, d2, d3] => { results := [.lit (.bool true)], args := [d1, d2, d3] }
  | _ => none }
def fnTookSignOrderAndSumRow : OpenClaim := { program := "qxb6606019a", sum := "d40d814f2a6d8efd1786e8dc3a0541c976e949fb1f8affc28dc9ad362247e572", func := "example.com/abreast/abreast/zzlaws_internal_testrun_b1.FnTookSignOrderAndSum", spec := "fnTookSignOrderAndSum", apart := false }
def FnTookSignOrderAndSumSaid : Prop := fnTookSignOrderAndSumRow.holds Try.pinned (OpenSpec.ofChange fnTookSignOrderAndSumSpec)

/-- ITS FALSE NEIGHBOUR: 'it returns false'. Refute it at one input. -/
def fnTookSignOrderAndSumWrong : ChangeSpec := { name := "fnTookSignOrderAndSum", fn := fun _ => fun
  | [d1, d2, d3] => { results := [.lit (.bool false)], args := [d1, d2, d3] }
  | _ => none }
def FnTookSignOrderAndSumWrongFalsely : Prop := fnTookSignOrderAndSumRow.holds Try.pinned (OpenSpec.ofChange fnTookSignOrderAndSumWrong)

/-- 'zzlaws_internal_testrun_b1.FnNewReadingsAreApart': WHATEVER THE INPUT: true; the input reads as it did. -/
def fnNewReadingsAreApartSpec : ChangeSpec := { name := "fnNewReadingsAreApart", fn := fun _ => fun
  | [d1, d2] => { results := [.lit (.bool true)], args := [d1, d2] }
  | _ => none }
def fnNewReadingsAreApartRow : OpenClaim := { program := "qxb6606019a", sum := "d40d814f2a6d8efd1786e8dc3a0541c976e949fb1f8affc28dc9ad362247e572", func := "example.com/abreast/abreast/zzlaws_internal_testrun_b1.FnNewReadingsAreApart", spec := "fnNewReadingsAreApart", apart := false }
def FnNewReadingsAreApartSaid : Prop := fnNewReadingsAreApartRow.holds Try.pinned (OpenSpec.ofChange fnNewReadingsAreApartSpec)

/-- ITS FALSE NEIGHBOUR: 'it returns false'. Refute it at one input. -/
def fnNewReadingsAreApartWrong : ChangeSpec := { name := "fnNewReadingsAreApart", fn := fun _ => fun
  | [d1, d2] => { results := [.lit (.bool false)], args := [d1, d2] }
  | _ => none }
def FnNewReadingsAreApartWrongFalsely : Prop := fnNewReadingsAreApartRow.holds Try.pinned (OpenSpec.ofChange fnNewReadingsAreApartWrong)

/-- 'zzlaws_internal_testrun_b1.FnFreedPlacesCloneIsEqualAndApart': WHATEVER THE INPUT: true; the input reads as it did. -/
def fnFreedPlacesCloneIsEqualAndApartSpec : ChangeSpec := { name := "fnFreedPlacesCloneIsEqualAndApart", fn := fun _ => fun
  | [d1, d2, d3, d4, d5, d6, d7, d8, d9, d10] => { results := [.lit (.bool true)], args := [d1, d2, d3, d4, d5, d6, d7, d8, d9, d10] }
  | _ => none }
def fnFreedPlacesCloneIsEqualAndApartRow : OpenClaim := { program := "qxb6606019a", sum := "d40d814f2a6d8efd1786e8dc3a0541c976e949fb1f8affc28dc9ad362247e572", func := "example.com/abreast/abreast/zzlaws_internal_testrun_b1.FnFreedPlacesCloneIsEqualAndApart", spec := "fnFreedPlacesCloneIsEqualAndApart", apart := false }
def FnFreedPlacesCloneIsEqualAndApartSaid : Prop := fnFreedPlacesCloneIsEqualAndApartRow.holds Try.pinned (OpenSpec.ofChange fnFreedPlacesCloneIsEqualAndApartSpec)

/-- ITS FALSE NEIGHBOUR: 'it returns false'. Refute it at one input. -/
def fnFreedPlacesCloneIsEqualAndApartWrong : ChangeSpec := { name := "fnFreedPlacesCloneIsEqualAndApart", fn := fun _ => fun
  | [d1, d2, d3, d4, d5, d6, d7, d8, d9, d10] => { results := [.lit (.bool false)], args := [d1, d2, d3, d4, d5, d6, d7, d8, d9, d10] }
  | _ => none }
def FnFreedPlacesCloneIsEqualAndApartWrongFalsely : Prop := fnFreedPlacesCloneIsEqualAndApartRow.holds Try.pinned (OpenSpec.ofChange fnFreedPlacesCloneIsEqualAndApartWrong)

/-- 'zzlaws_internal_testrun_b1.FnFreedPlacesCloneKeepsTheOldState': WHATEVER THE INPUT: true; the input reads as it did. -/
def fnFreedPlacesCloneKeepsTheOldStateSpec : ChangeSpec := { name := "fnFreedPlacesCloneKeepsTheOldState", fn := fun _ => fun
  | [d1, d2, d3, d4, d5, d6, d7, d8, d9, d10] => { results := [.lit (.bool true)], args := [d1, d2, d3, d4, d5, d6, d7, d8, d9, d10] }
  | _ => none }
def fnFreedPlacesCloneKeepsTheOldStateRow : OpenClaim := { program := "qxb6606019a", sum := "d40d814f2a6d8efd1786e8dc3a0541c976e949fb1f8affc28dc9ad362247e572", func := "example.com/abreast/abreast/zzlaws_internal_testrun_b1.FnFreedPlacesCloneKeepsTheOldState", spec := "fnFreedPlacesCloneKeepsTheOldState", apart := false }
def FnFreedPlacesCloneKeepsTheOldStateSaid : Prop := fnFreedPlacesCloneKeepsTheOldStateRow.holds Try.pinned (OpenSpec.ofChange fnFreedPlacesCloneKeepsTheOldStateSpec)

/-- ITS FALSE NEIGHBOUR: 'it returns false'. Refute it at one input. -/
def fnFreedPlacesCloneKeepsTheOldStateWrong : ChangeSpec := { name := "fnFreedPlacesCloneKeepsTheOldState", fn := fun _ => fun
  | [d1, d2, d3, d4, d5, d6, d7, d8, d9, d10] => { results := [.lit (.bool false)], args := [d1, d2, d3, d4, d5, d6, d7, d8, d9, d10] }
  | _ => none }
def FnFreedPlacesCloneKeepsTheOldStateWrongFalsely : Prop := fnFreedPlacesCloneKeepsTheOldStateRow.holds Try.pinned (OpenSpec.ofChange fnFreedPlacesCloneKeepsTheOldStateWrong)

end Rows
end Go.Proofs.Qxb6606019a
