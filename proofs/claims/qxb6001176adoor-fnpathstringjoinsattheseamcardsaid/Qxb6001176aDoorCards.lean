/-
  DERIVED. GIVEN WITH THE SEED: THE CARDS: each row of Qxb6001176aDoorRows.lean that lists a variable, with what it lists TIED to the program's text (the seventh form; the later family's looks); each row that meets fmt, with fmt's text TOLD by the authors' own Lean function (tested against real Go, not proved from fmt's source: count such statements apart). THE CARD IS WHAT COUNTS. Prove the row's statement (the work); the ties are given (Qxb6001176aDoorTie.lean); close each card by the builder's one call (the guide's Derived/Test/ToyasCard.lean, 'card_holds'). Laid BY PROGRAM, IN A SANDBOX (cutbox-door.mjs). By AI agents, Wed Nov 11 2026. No macro, syntax, notation, axiom, sorry.
-/
import Derived.Test.Qxb6001176aDoorRows
import GoSem.ClaimSeven
namespace Go.Proofs.Qxb6001176aDoor
namespace Rows

/-- THE TIED CARD OF 'zzlaws_internal_jsonvalue_b1.FnPathStringJoinsAtTheSeam'. -/
def fnPathStringJoinsAtTheSeamCard : Claim7 := { stood := { row := fnPathStringJoinsAtTheSeamRow, standIns := [], harness := (true, "3c782bb15ca66d0523447f0783c948a47a200cc64f95e10c8427d1a1331395a5"), looks := false }, kinds := [], alts := [], laidByText := true, laidKinds := [.data, .data, .data], laidTests := true, laidLooks := .later }
def FnPathStringJoinsAtTheSeamCardSaid : Prop := Claim7.holds Tryd.pinned (.plain (OpenSpec.ofChange fnPathStringJoinsAtTheSeamSpec)) fnPathStringJoinsAtTheSeamCard

/-- THE TIED CARD OF 'zzlaws_internal_jsonvalue_b1.FnPathStringLengthAgreesWithDigits'. -/
def fnPathStringLengthAgreesWithDigitsCard : Claim7 := { stood := { row := fnPathStringLengthAgreesWithDigitsRow, standIns := [], harness := (true, "3c782bb15ca66d0523447f0783c948a47a200cc64f95e10c8427d1a1331395a5"), looks := false }, kinds := [], alts := [], laidByText := true, laidKinds := [.data, .data, .data], laidTests := true, laidLooks := .later }
def FnPathStringLengthAgreesWithDigitsCardSaid : Prop := Claim7.holds Tryd.pinned (.plain (OpenSpec.ofChange fnPathStringLengthAgreesWithDigitsSpec)) fnPathStringLengthAgreesWithDigitsCard
end Rows
end Go.Proofs.Qxb6001176aDoor
