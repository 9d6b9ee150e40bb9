/-
  DERIVED. GIVEN WITH THE SEED: THE CARDS: each row of Qxb6600336aDoorRows.lean that lists a variable, with what it lists TIED to the program's text (the seventh form; the later family's looks); each row that meets fmt, with fmt's text TOLD by the authors' own Lean function (tested against real Go, not proved from fmt's source: count such statements apart). THE CARD IS WHAT COUNTS. Prove the row's statement (the work); the ties are given (Qxb6600336aDoorTie.lean); close each card by the builder's one call (the guide's Derived/Test/ToyasCard.lean, 'card_holds'). Laid BY PROGRAM, IN A SANDBOX (cutbox-door.mjs). By AI agents, Wed Nov 11 2026. No macro, syntax, notation, axiom, sorry.
-/
import Derived.Test.Qxb6600336aDoorRows
import GoSem.ClaimSeven
namespace Go.Proofs.Qxb6600336aDoor
namespace Rows

/-- THE TIED CARD OF 'zzlaws_resp_b1.FnAppendEscapedMatchesEscapeTable'. -/
def fnAppendEscapedMatchesEscapeTableCard : Claim7 := { stood := { row := fnAppendEscapedMatchesEscapeTableRow, standIns := [], harness := (true, "94d47cffe255d68e0afbdaff12bbea95f8c9d25f44a0fc6baee2217277c274ef"), looks := true }, kinds := [], alts := [], laidByText := true, laidKinds := [.data, .data, .data, .sentinel, .sentinel], laidTests := true, laidLooks := .later }
def FnAppendEscapedMatchesEscapeTableCardSaid : Prop := Claim7.holds Tryd.pinned (.plain (OpenSpec.ofChange fnAppendEscapedMatchesEscapeTableSpec)) fnAppendEscapedMatchesEscapeTableCard

/-- THE TIED CARD OF 'zzlaws_resp_b1.FnAppendEscapedUndoesEscaping'. -/
def fnAppendEscapedUndoesEscapingCard : Claim7 := { stood := { row := fnAppendEscapedUndoesEscapingRow, standIns := [], harness := (true, "94d47cffe255d68e0afbdaff12bbea95f8c9d25f44a0fc6baee2217277c274ef"), looks := true }, kinds := [], alts := [], laidByText := true, laidKinds := [.data, .data, .data, .sentinel, .sentinel], laidTests := true, laidLooks := .later }
def FnAppendEscapedUndoesEscapingCardSaid : Prop := Claim7.holds Tryd.pinned (.plain (OpenSpec.ofChange fnAppendEscapedUndoesEscapingSpec)) fnAppendEscapedUndoesEscapingCard
end Rows
end Go.Proofs.Qxb6600336aDoor
