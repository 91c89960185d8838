/-
  No cell of these rows narrows 'for every input' (looked for: loops, veiled, ifaces, maps, wideKeys, modest, calm, conditions, laid).
  DERIVED. THE GIVEN ROWS OF THIS SEAT. 4 by the template 'for every input the law returns true; each argument reads behind the call as it read before'; 0 by the template 'total and deterministic' (their statements: Qxb6608862aTotals.lean).
  GIVEN WITH THE SEED: the statements are not yours to turn. If you find one false, say at which input.
  Laid BY PROGRAM, IN A SANDBOX (cutbox-rows.mjs): the forced cells as the released guide's own fill.sh prints them over the translation 7c8caba71462d5da… (all of the seat's roots in one cut). By AI agents, Wed Nov 11 2026. No macro, syntax, notation, axiom, sorry.
-/
import Derived.Test.Qxb6608862aChecked
import GoSem.Claim
import GoSem.ClaimJoined
import GoSem.ClaimMapViews
import Derived.JoinedTies
import Derived.KernelRfl
namespace Go.Proofs.Qxb6608862a
/- THE CELL 'sum', in the pinned program and in every row, IS THE sha256 OF THE DUMP (.gsa) THAT Qxb6608862aProg.lean LOADS. Nothing in Lean hashes anything: it is a label: what it is worth is what the hold of that sum in a sandbox is worth. -/
noncomputable def Try.pinned : Pinned := { name := "qxb6608862a", sum := "7c8caba71462d5dae0a3f1f052b99ebde41a8c8da9d217d63897f45ce217b0ce", checked := Try.checked }
namespace Rows
def none {H : Type} : Left H := { results := [], args := [] }

/-- 'zzlaws_pkg_asn1_b1.FnPunctLenLongestToken': WHATEVER THE INPUT: true; the input reads as it did. -/
def fnPunctLenLongestTokenSpec : ChangeSpec := { name := "fnPunctLenLongestToken", fn := fun _ => fun
  | [d] => { results := [.lit (.bool true)], args := [d] }
  | _ => none }
def fnPunctLenLongestTokenRow : OpenClaim := { program := "qxb6608862a", sum := "7c8caba71462d5dae0a3f1f052b99ebde41a8c8da9d217d63897f45ce217b0ce", func := "example.com/batonpass/batonpass/zzlaws_pkg_asn1_b1.FnPunctLenLongestToken", spec := "fnPunctLenLongestToken", inPlace := ["internal/bytealg.IndexByteString"], apart := false }
def FnPunctLenLongestTokenSaid : Prop := fnPunctLenLongestTokenRow.holds Try.pinned (OpenSpec.ofChange fnPunctLenLongestTokenSpec)

/-- ITS FALSE NEIGHBOUR: 'it returns false'. Refute it at one input. -/
def fnPunctLenLongestTokenWrong : ChangeSpec := { name := "fnPunctLenLongestToken", fn := fun _ => fun
  | [d] => { results := [.lit (.bool false)], args := [d] }
  | _ => none }
def FnPunctLenLongestTokenWrongFalsely : Prop := fnPunctLenLongestTokenRow.holds Try.pinned (OpenSpec.ofChange fnPunctLenLongestTokenWrong)

/-- 'zzlaws_pkg_asn1_b1.FnPunctLenExtension': WHATEVER THE INPUT: true; the input reads as it did. -/
def fnPunctLenExtensionSpec : ChangeSpec := { name := "fnPunctLenExtension", fn := fun _ => fun
  | [d1, d2] => { results := [.lit (.bool true)], args := [d1, d2] }
  | _ => none }
def fnPunctLenExtensionRow : OpenClaim := { program := "qxb6608862a", sum := "7c8caba71462d5dae0a3f1f052b99ebde41a8c8da9d217d63897f45ce217b0ce", func := "example.com/batonpass/batonpass/zzlaws_pkg_asn1_b1.FnPunctLenExtension", spec := "fnPunctLenExtension", inPlace := ["internal/bytealg.IndexByteString"], apart := false }
def FnPunctLenExtensionSaid : Prop := fnPunctLenExtensionRow.holds Try.pinned (OpenSpec.ofChange fnPunctLenExtensionSpec)

/-- ITS FALSE NEIGHBOUR: 'it returns false'. Refute it at one input. -/
def fnPunctLenExtensionWrong : ChangeSpec := { name := "fnPunctLenExtension", fn := fun _ => fun
  | [d1, d2] => { results := [.lit (.bool false)], args := [d1, d2] }
  | _ => none }
def FnPunctLenExtensionWrongFalsely : Prop := fnPunctLenExtensionRow.holds Try.pinned (OpenSpec.ofChange fnPunctLenExtensionWrong)

/-- 'zzlaws_pkg_asn1_b1.FnFindFirstAcrossAnyCut': WHATEVER THE INPUT: true; the input reads as it did. -/
def fnFindFirstAcrossAnyCutSpec : ChangeSpec := { name := "fnFindFirstAcrossAnyCut", fn := fun _ => fun
  | [d1, d2, d3, d4] => { results := [.lit (.bool true)], args := [d1, d2, d3, d4] }
  | _ => none }
def fnFindFirstAcrossAnyCutRow : OpenClaim := { program := "qxb6608862a", sum := "7c8caba71462d5dae0a3f1f052b99ebde41a8c8da9d217d63897f45ce217b0ce", func := "example.com/batonpass/batonpass/zzlaws_pkg_asn1_b1.FnFindFirstAcrossAnyCut", spec := "fnFindFirstAcrossAnyCut", unfollowed := true, recurses := true, apart := false }
def FnFindFirstAcrossAnyCutSaid : Prop := fnFindFirstAcrossAnyCutRow.holds Try.pinned (OpenSpec.ofChange fnFindFirstAcrossAnyCutSpec)

/-- ITS FALSE NEIGHBOUR: 'it returns false'. Refute it at one input. -/
def fnFindFirstAcrossAnyCutWrong : ChangeSpec := { name := "fnFindFirstAcrossAnyCut", fn := fun _ => fun
  | [d1, d2, d3, d4] => { results := [.lit (.bool false)], args := [d1, d2, d3, d4] }
  | _ => none }
def FnFindFirstAcrossAnyCutWrongFalsely : Prop := fnFindFirstAcrossAnyCutRow.holds Try.pinned (OpenSpec.ofChange fnFindFirstAcrossAnyCutWrong)

/-- 'zzlaws_pkg_asn1_b1.FnFindInsertedComponent': WHATEVER THE INPUT: true; the input reads as it did. -/
def fnFindInsertedComponentSpec : ChangeSpec := { name := "fnFindInsertedComponent", fn := fun _ => fun
  | [d1, d2, d3, d4] => { results := [.lit (.bool true)], args := [d1, d2, d3, d4] }
  | _ => none }
def fnFindInsertedComponentRow : OpenClaim := { program := "qxb6608862a", sum := "7c8caba71462d5dae0a3f1f052b99ebde41a8c8da9d217d63897f45ce217b0ce", func := "example.com/batonpass/batonpass/zzlaws_pkg_asn1_b1.FnFindInsertedComponent", spec := "fnFindInsertedComponent", unfollowed := true, recurses := true, apart := false }
def FnFindInsertedComponentSaid : Prop := fnFindInsertedComponentRow.holds Try.pinned (OpenSpec.ofChange fnFindInsertedComponentSpec)

/-- ITS FALSE NEIGHBOUR: 'it returns false'. Refute it at one input. -/
def fnFindInsertedComponentWrong : ChangeSpec := { name := "fnFindInsertedComponent", fn := fun _ => fun
  | [d1, d2, d3, d4] => { results := [.lit (.bool false)], args := [d1, d2, d3, d4] }
  | _ => none }
def FnFindInsertedComponentWrongFalsely : Prop := fnFindInsertedComponentRow.holds Try.pinned (OpenSpec.ofChange fnFindInsertedComponentWrong)

end Rows
end Go.Proofs.Qxb6608862a
