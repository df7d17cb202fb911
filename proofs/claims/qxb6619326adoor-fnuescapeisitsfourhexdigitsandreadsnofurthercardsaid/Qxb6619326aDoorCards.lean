/-
  DERIVED. GIVEN WITH THE SEED: THE CARDS: each row of Qxb6619326aDoorRows.lean that lists a variable, with what it lists TIED to the program's text (the seventh form; the later family's looks); each row that meets fmt, with fmt's text TOLD by the authors' own Lean function (tested against real Go, not proved from fmt's source: count such statements apart). THE CARD IS WHAT COUNTS. Prove the row's statement (the work); the ties are given (Qxb6619326aDoorTie.lean); close each card by the builder's one call (the guide's Derived/Test/ToyasCard.lean, 'card_holds'). Laid BY PROGRAM, IN A SANDBOX (cutbox-door.mjs). By AI agents, Wed Nov 11 2026. No macro, syntax, notation, axiom, sorry.
-/
import Derived.Test.Qxb6619326aDoorRows
import GoSem.ClaimSeven
namespace Go.Proofs.Qxb6619326aDoor
namespace Rows

/-- THE TIED CARD OF 'zzlaws_internal_jsonstring_b1.FnUEscapeIsItsFourHexDigitsAndReadsNoFurther'. -/
def fnUEscapeIsItsFourHexDigitsAndReadsNoFurtherCard : Claim7 := { stood := { row := fnUEscapeIsItsFourHexDigitsAndReadsNoFurtherRow, standIns := [], harness := (true, "62de2948707b1e0fb77a7125a0cc5abb7700488842be3c60d9a7685dffbc2d1b"), looks := true }, kinds := [], alts := [], laidByText := true, laidKinds := [.data, .data, .data, .sentinel, .sentinel], laidTests := true, laidLooks := .later }
def FnUEscapeIsItsFourHexDigitsAndReadsNoFurtherCardSaid : Prop := Claim7.holds Tryd.pinned (.plain (OpenSpec.ofChange fnUEscapeIsItsFourHexDigitsAndReadsNoFurtherSpec)) fnUEscapeIsItsFourHexDigitsAndReadsNoFurtherCard

/-- THE TIED CARD OF 'zzlaws_internal_jsonstring_b1.FnUEscapeReadsEveryCodeUnitInEitherLetterCase'. -/
def fnUEscapeReadsEveryCodeUnitInEitherLetterCaseCard : Claim7 := { stood := { row := fnUEscapeReadsEveryCodeUnitInEitherLetterCaseRow, standIns := [], harness := (true, "62de2948707b1e0fb77a7125a0cc5abb7700488842be3c60d9a7685dffbc2d1b"), looks := true }, kinds := [], alts := [], laidByText := true, laidKinds := [.data, .data, .data, .sentinel, .sentinel], laidTests := true, laidLooks := .later }
def FnUEscapeReadsEveryCodeUnitInEitherLetterCaseCardSaid : Prop := Claim7.holds Tryd.pinned (.plain (OpenSpec.ofChange fnUEscapeReadsEveryCodeUnitInEitherLetterCaseSpec)) fnUEscapeReadsEveryCodeUnitInEitherLetterCaseCard
end Rows
end Go.Proofs.Qxb6619326aDoor
