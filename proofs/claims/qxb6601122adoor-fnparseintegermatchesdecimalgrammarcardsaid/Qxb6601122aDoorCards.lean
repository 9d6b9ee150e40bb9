/-
  DERIVED. GIVEN WITH THE SEED: THE CARDS: each row of Qxb6601122aDoorRows.lean that lists a variable, with what it lists TIED to the program's text (the seventh form; the later family's looks); each row that meets fmt, with fmt's text TOLD by the authors' own Lean function (tested against real Go, not proved from fmt's source: count such statements apart). THE CARD IS WHAT COUNTS. Prove the row's statement (the work); the ties are given (Qxb6601122aDoorTie.lean); close each card by the builder's one call (the guide's Derived/Test/ToyasCard.lean, 'card_holds'). Laid BY PROGRAM, IN A SANDBOX (cutbox-door.mjs). By AI agents, Wed Nov 11 2026. No macro, syntax, notation, axiom, sorry.
-/
import Derived.Test.Qxb6601122aDoorRows
import GoSem.ClaimSeven
namespace Go.Proofs.Qxb6601122aDoor
namespace Rows

/-- THE TIED CARD OF 'zzlaws_internal_cimxml_b1.FnParseIntegerMatchesDecimalGrammar'. -/
def fnParseIntegerMatchesDecimalGrammarCard : Claim7 := { stood := { row := fnParseIntegerMatchesDecimalGrammarRow, standIns := [], harness := (true, "0e4b3a69400def511840152c2fd4351067562ac37f1b851c487a49453c900900"), looks := true }, kinds := [], alts := [], laidByText := true, laidKinds := [.data, .data, .data, .called, .called], laidTests := true, laidLooks := .later }
def FnParseIntegerMatchesDecimalGrammarCardSaid : Prop := Claim7.holds Tryd.pinned (.plain (OpenSpec.ofChange fnParseIntegerMatchesDecimalGrammarSpec)) fnParseIntegerMatchesDecimalGrammarCard

/-- THE TIED CARD OF 'zzlaws_internal_cimxml_b1.FnFormatRealEighthsExact'. -/
def fnFormatRealEighthsExactCard : Claim7 := { stood := { row := fnFormatRealEighthsExactRow, standIns := [], harness := (true, "0e4b3a69400def511840152c2fd4351067562ac37f1b851c487a49453c900900"), looks := true }, kinds := [], alts := [], laidByText := true, laidKinds := [.data, .data, .data, .data, .pinned, .pinned], laidTests := true, laidLooks := .later }
def FnFormatRealEighthsExactCardSaid : Prop := Claim7.holds Tryd.pinned (.plain (OpenSpec.ofChange fnFormatRealEighthsExactSpec)) fnFormatRealEighthsExactCard

/-- THE TIED CARD OF 'zzlaws_internal_cimxml_b1.FnFormatRealShapeAndBounds'. -/
def fnFormatRealShapeAndBoundsCard : Claim7 := { stood := { row := fnFormatRealShapeAndBoundsRow, standIns := [], harness := (true, "0e4b3a69400def511840152c2fd4351067562ac37f1b851c487a49453c900900"), looks := true }, kinds := [], alts := [], laidByText := true, laidKinds := [.data, .data, .data, .data, .called, .called, .pinned, .pinned], laidTests := true, laidLooks := .later }
def FnFormatRealShapeAndBoundsCardSaid : Prop := Claim7.holds Tryd.pinned (.plain (OpenSpec.ofChange fnFormatRealShapeAndBoundsSpec)) fnFormatRealShapeAndBoundsCard

/-- THE TIED CARD OF 'zzlaws_internal_cimxml_b1.FnFormatRealNegationAddsMinus'. -/
def fnFormatRealNegationAddsMinusCard : Claim7 := { stood := { row := fnFormatRealNegationAddsMinusRow, standIns := [], harness := (true, "0e4b3a69400def511840152c2fd4351067562ac37f1b851c487a49453c900900"), looks := true }, kinds := [], alts := [], laidByText := true, laidKinds := [.data, .data, .data, .data, .pinned, .pinned], laidTests := true, laidLooks := .later }
def FnFormatRealNegationAddsMinusCardSaid : Prop := Claim7.holds Tryd.pinned (.plain (OpenSpec.ofChange fnFormatRealNegationAddsMinusSpec)) fnFormatRealNegationAddsMinusCard
end Rows
end Go.Proofs.Qxb6601122aDoor
