/-
  DERIVED. GIVEN WITH THE SEED: THE CARDS: each row of Qxb6608862aDoorRows.lean that lists a variable, with what it lists TIED to the program's text (the seventh form; the later family's looks); each row that meets fmt, with fmt's text TOLD by the authors' own Lean function (tested against real Go, not proved from fmt's source: count such statements apart). THE CARD IS WHAT COUNTS. Prove the row's statement (the work); the ties are given (Qxb6608862aDoorTie.lean); close each card by the builder's one call (the guide's Derived/Test/ToyasCard.lean, 'card_holds'). Laid BY PROGRAM, IN A SANDBOX (cutbox-door.mjs). By AI agents, Wed Nov 11 2026. No macro, syntax, notation, axiom, sorry.
-/
import Derived.Test.Qxb6608862aDoorRows
import GoSem.ClaimSeven
namespace Go.Proofs.Qxb6608862aDoor
namespace Rows

/-- THE TIED CARD OF 'zzlaws_pkg_asn1_b1.FnNotDigitExactlyOwnNumerals'. -/
def fnNotDigitExactlyOwnNumeralsCard : Claim7 := { stood := { row := fnNotDigitExactlyOwnNumeralsRow, standIns := [], harness := (true, "bdc7817202261bd98657b15fb854ad93b21e00a28bce0894ab2aea6f169cabb5"), looks := false }, kinds := [], alts := [], laidByText := true, laidKinds := [.data, .data, .data, .data], laidTests := true, laidLooks := .later }
def FnNotDigitExactlyOwnNumeralsCardSaid : Prop := Claim7.holds Tryd.pinned (.plain (OpenSpec.ofChange fnNotDigitExactlyOwnNumeralsSpec)) fnNotDigitExactlyOwnNumeralsCard

/-- THE TIED CARD OF 'zzlaws_pkg_asn1_b1.FnStepKeyReadsBack'. -/
def fnStepKeyReadsBackCard : Claim7 := { stood := { row := fnStepKeyReadsBackRow, standIns := [], harness := (true, "bdc7817202261bd98657b15fb854ad93b21e00a28bce0894ab2aea6f169cabb5"), looks := false }, kinds := [], alts := [], laidByText := true, laidKinds := [.data, .data, .data, .data], laidTests := true, laidLooks := .later }
def FnStepKeyReadsBackCardSaid : Prop := Claim7.holds Tryd.pinned (.plain (OpenSpec.ofChange fnStepKeyReadsBackSpec)) fnStepKeyReadsBackCard

/-- THE TIED CARD OF 'zzlaws_pkg_asn1_b1.FnStepInjectiveByKeyWidth'. -/
def fnStepInjectiveByKeyWidthCard : Claim7 := { stood := { row := fnStepInjectiveByKeyWidthRow, standIns := [], harness := (true, "bdc7817202261bd98657b15fb854ad93b21e00a28bce0894ab2aea6f169cabb5"), looks := false }, kinds := [], alts := [], laidByText := true, laidKinds := [.data, .data, .data, .data], laidTests := true, laidLooks := .later }
def FnStepInjectiveByKeyWidthCardSaid : Prop := Claim7.holds Tryd.pinned (.plain (OpenSpec.ofChange fnStepInjectiveByKeyWidthSpec)) fnStepInjectiveByKeyWidthCard
end Rows
end Go.Proofs.Qxb6608862aDoor
