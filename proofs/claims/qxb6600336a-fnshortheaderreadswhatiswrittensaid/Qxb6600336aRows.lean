/-
  No cell of these rows narrows 'for every input' (looked for: loops, veiled, ifaces, maps, wideKeys, modest, calm, conditions, laid).
  DERIVED. THE GIVEN ROWS OF THIS SEAT. 5 by the template 'for every input the law returns true; each argument reads behind the call as it read before'; 0 by the template 'total and deterministic' (their statements: Qxb6600336aTotals.lean).
  GIVEN WITH THE SEED: the statements are not yours to turn. If you find one false, say at which input.
  Laid BY PROGRAM, IN A SANDBOX (cutbox-rows.mjs): the forced cells as the released guide's own fill.sh prints them over the translation e68d05668b0c2dcd… (all of the seat's roots in one cut). By AI agents, Wed Nov 11 2026. No macro, syntax, notation, axiom, sorry.
-/
import Derived.Test.Qxb6600336aChecked
import GoSem.Claim
import GoSem.ClaimJoined
import GoSem.ClaimMapViews
import Derived.JoinedTies
import Derived.KernelRfl
namespace Go.Proofs.Qxb6600336a
/- THE CELL 'sum', in the pinned program and in every row, IS THE sha256 OF THE DUMP (.gsa) THAT Qxb6600336aProg.lean LOADS. Nothing in Lean hashes anything: it is a label: what it is worth is what the hold of that sum in a sandbox is worth. -/
noncomputable def Try.pinned : Pinned := { name := "qxb6600336a", sum := "e68d05668b0c2dcd6e9b14f9fa6a8607398fc1f63993e1550e5fe6b397d4bc79", checked := Try.checked }
namespace Rows
def none {H : Type} : Left H := { results := [], args := [] }

/-- 'zzlaws_resp_b1.FnDecimalMatchesPositionalValue': WHATEVER THE INPUT: true; the input reads as it did. -/
def fnDecimalMatchesPositionalValueSpec : ChangeSpec := { name := "fnDecimalMatchesPositionalValue", fn := fun _ => fun
  | [d] => { results := [.lit (.bool true)], args := [d] }
  | _ => none }
def fnDecimalMatchesPositionalValueRow : OpenClaim := { program := "qxb6600336a", sum := "e68d05668b0c2dcd6e9b14f9fa6a8607398fc1f63993e1550e5fe6b397d4bc79", func := "example.com/epochwright/epochwright/zzlaws_resp_b1.FnDecimalMatchesPositionalValue", spec := "fnDecimalMatchesPositionalValue", apart := false }
def FnDecimalMatchesPositionalValueSaid : Prop := fnDecimalMatchesPositionalValueRow.holds Try.pinned (OpenSpec.ofChange fnDecimalMatchesPositionalValueSpec)

/-- ITS FALSE NEIGHBOUR: 'it returns false'. Refute it at one input. -/
def fnDecimalMatchesPositionalValueWrong : ChangeSpec := { name := "fnDecimalMatchesPositionalValue", fn := fun _ => fun
  | [d] => { results := [.lit (.bool false)], args := [d] }
  | _ => none }
def FnDecimalMatchesPositionalValueWrongFalsely : Prop := fnDecimalMatchesPositionalValueRow.holds Try.pinned (OpenSpec.ofChange fnDecimalMatchesPositionalValueWrong)

/-- 'zzlaws_resp_b1.FnDecimalReadsWhatItoaWrites': WHATEVER THE INPUT: true; the input reads as it did. -/
def fnDecimalReadsWhatItoaWritesSpec : ChangeSpec := { name := "fnDecimalReadsWhatItoaWrites", fn := fun _ => fun
  | [d1, d2] => { results := [.lit (.bool true)], args := [d1, d2] }
  | _ => none }
def fnDecimalReadsWhatItoaWritesRow : OpenClaim := { program := "qxb6600336a", sum := "e68d05668b0c2dcd6e9b14f9fa6a8607398fc1f63993e1550e5fe6b397d4bc79", func := "example.com/epochwright/epochwright/zzlaws_resp_b1.FnDecimalReadsWhatItoaWrites", spec := "fnDecimalReadsWhatItoaWrites", apart := false }
def FnDecimalReadsWhatItoaWritesSaid : Prop := fnDecimalReadsWhatItoaWritesRow.holds Try.pinned (OpenSpec.ofChange fnDecimalReadsWhatItoaWritesSpec)

/-- ITS FALSE NEIGHBOUR: 'it returns false'. Refute it at one input. -/
def fnDecimalReadsWhatItoaWritesWrong : ChangeSpec := { name := "fnDecimalReadsWhatItoaWrites", fn := fun _ => fun
  | [d1, d2] => { results := [.lit (.bool false)], args := [d1, d2] }
  | _ => none }
def FnDecimalReadsWhatItoaWritesWrongFalsely : Prop := fnDecimalReadsWhatItoaWritesRow.holds Try.pinned (OpenSpec.ofChange fnDecimalReadsWhatItoaWritesWrong)

/-- 'zzlaws_resp_b1.FnDecimalOrderFollowsTextOrder': WHATEVER THE INPUT: true; the input reads as it did. -/
def fnDecimalOrderFollowsTextOrderSpec : ChangeSpec := { name := "fnDecimalOrderFollowsTextOrder", fn := fun _ => fun
  | [d1, d2] => { results := [.lit (.bool true)], args := [d1, d2] }
  | _ => none }
def fnDecimalOrderFollowsTextOrderRow : OpenClaim := { program := "qxb6600336a", sum := "e68d05668b0c2dcd6e9b14f9fa6a8607398fc1f63993e1550e5fe6b397d4bc79", func := "example.com/epochwright/epochwright/zzlaws_resp_b1.FnDecimalOrderFollowsTextOrder", spec := "fnDecimalOrderFollowsTextOrder", apart := false }
def FnDecimalOrderFollowsTextOrderSaid : Prop := fnDecimalOrderFollowsTextOrderRow.holds Try.pinned (OpenSpec.ofChange fnDecimalOrderFollowsTextOrderSpec)

/-- ITS FALSE NEIGHBOUR: 'it returns false'. Refute it at one input. -/
def fnDecimalOrderFollowsTextOrderWrong : ChangeSpec := { name := "fnDecimalOrderFollowsTextOrder", fn := fun _ => fun
  | [d1, d2] => { results := [.lit (.bool false)], args := [d1, d2] }
  | _ => none }
def FnDecimalOrderFollowsTextOrderWrongFalsely : Prop := fnDecimalOrderFollowsTextOrderRow.holds Try.pinned (OpenSpec.ofChange fnDecimalOrderFollowsTextOrderWrong)

/-- 'zzlaws_resp_b1.FnShortHeaderAgreesWithDecimal': WHATEVER THE INPUT: true; the input reads as it did. -/
def fnShortHeaderAgreesWithDecimalSpec : ChangeSpec := { name := "fnShortHeaderAgreesWithDecimal", fn := fun _ => fun
  | [d1, d2, d3] => { results := [.lit (.bool true)], args := [d1, d2, d3] }
  | _ => none }
def fnShortHeaderAgreesWithDecimalRow : OpenClaim := { program := "qxb6600336a", sum := "e68d05668b0c2dcd6e9b14f9fa6a8607398fc1f63993e1550e5fe6b397d4bc79", func := "example.com/epochwright/epochwright/zzlaws_resp_b1.FnShortHeaderAgreesWithDecimal", spec := "fnShortHeaderAgreesWithDecimal", apart := false }
def FnShortHeaderAgreesWithDecimalSaid : Prop := fnShortHeaderAgreesWithDecimalRow.holds Try.pinned (OpenSpec.ofChange fnShortHeaderAgreesWithDecimalSpec)

/-- ITS FALSE NEIGHBOUR: 'it returns false'. Refute it at one input. -/
def fnShortHeaderAgreesWithDecimalWrong : ChangeSpec := { name := "fnShortHeaderAgreesWithDecimal", fn := fun _ => fun
  | [d1, d2, d3] => { results := [.lit (.bool false)], args := [d1, d2, d3] }
  | _ => none }
def FnShortHeaderAgreesWithDecimalWrongFalsely : Prop := fnShortHeaderAgreesWithDecimalRow.holds Try.pinned (OpenSpec.ofChange fnShortHeaderAgreesWithDecimalWrong)

/-- 'zzlaws_resp_b1.FnShortHeaderReadsWhatIsWritten': WHATEVER THE INPUT: true; the input reads as it did. -/
def fnShortHeaderReadsWhatIsWrittenSpec : ChangeSpec := { name := "fnShortHeaderReadsWhatIsWritten", fn := fun _ => fun
  | [d1, d2, d3, d4] => { results := [.lit (.bool true)], args := [d1, d2, d3, d4] }
  | _ => none }
def fnShortHeaderReadsWhatIsWrittenRow : OpenClaim := { program := "qxb6600336a", sum := "e68d05668b0c2dcd6e9b14f9fa6a8607398fc1f63993e1550e5fe6b397d4bc79", func := "example.com/epochwright/epochwright/zzlaws_resp_b1.FnShortHeaderReadsWhatIsWritten", spec := "fnShortHeaderReadsWhatIsWritten", apart := false }
def FnShortHeaderReadsWhatIsWrittenSaid : Prop := fnShortHeaderReadsWhatIsWrittenRow.holds Try.pinned (OpenSpec.ofChange fnShortHeaderReadsWhatIsWrittenSpec)

/-- ITS FALSE NEIGHBOUR: 'it returns false'. Refute it at one input. -/
def fnShortHeaderReadsWhatIsWrittenWrong : ChangeSpec := { name := "fnShortHeaderReadsWhatIsWritten", fn := fun _ => fun
  | [d1, d2, d3, d4] => { results := [.lit (.bool false)], args := [d1, d2, d3, d4] }
  | _ => none }
def FnShortHeaderReadsWhatIsWrittenWrongFalsely : Prop := fnShortHeaderReadsWhatIsWrittenRow.holds Try.pinned (OpenSpec.ofChange fnShortHeaderReadsWhatIsWrittenWrong)

end Rows
end Go.Proofs.Qxb6600336a
