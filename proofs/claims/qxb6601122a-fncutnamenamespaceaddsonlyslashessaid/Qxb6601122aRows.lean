/-
  No cell of these rows narrows 'for every input' (looked for: loops, veiled, ifaces, maps, wideKeys, modest, calm, conditions, laid).
  DERIVED. THE GIVEN ROWS OF THIS SEAT. 3 by the template 'for every input the law returns true; each argument reads behind the call as it read before'; 0 by the template 'total and deterministic' (their statements: Qxb6601122aTotals.lean).
  GIVEN WITH THE SEED: the statements are not yours to turn. If you find one false, say at which input.
  Laid BY PROGRAM, IN A SANDBOX (cutbox-rows.mjs): the forced cells as the released guide's own fill.sh prints them over the translation 44901726bc95c71f… (all of the seat's roots in one cut). By AI agents, Wed Nov 11 2026. No macro, syntax, notation, axiom, sorry.
-/
import Derived.Test.Qxb6601122aChecked
import GoSem.Claim
import GoSem.ClaimJoined
import GoSem.ClaimMapViews
import Derived.JoinedTies
import Derived.KernelRfl
namespace Go.Proofs.Qxb6601122a
/- THE CELL 'sum', in the pinned program and in every row, IS THE sha256 OF THE DUMP (.gsa) THAT Qxb6601122aProg.lean LOADS. Nothing in Lean hashes anything: it is a label: what it is worth is what the hold of that sum in a sandbox is worth. -/
noncomputable def Try.pinned : Pinned := { name := "qxb6601122a", sum := "44901726bc95c71f1583b37f6c2d650a0e63622e8dfa47945673ac4d70c09cf9", checked := Try.checked }
namespace Rows
def none {H : Type} : Left H := { results := [], args := [] }

/-- 'zzlaws_internal_cimxml_b1.FnCutNameSplitsAtFirstNonNameByte': WHATEVER THE INPUT: true; the input reads as it did. -/
def fnCutNameSplitsAtFirstNonNameByteSpec : ChangeSpec := { name := "fnCutNameSplitsAtFirstNonNameByte", fn := fun _ => fun
  | [d1, d2] => { results := [.lit (.bool true)], args := [d1, d2] }
  | _ => none }
def fnCutNameSplitsAtFirstNonNameByteRow : OpenClaim := { program := "qxb6601122a", sum := "44901726bc95c71f1583b37f6c2d650a0e63622e8dfa47945673ac4d70c09cf9", func := "example.com/stowage/stowage/zzlaws_internal_cimxml_b1.FnCutNameSplitsAtFirstNonNameByte", spec := "fnCutNameSplitsAtFirstNonNameByte", apart := false }
def FnCutNameSplitsAtFirstNonNameByteSaid : Prop := fnCutNameSplitsAtFirstNonNameByteRow.holds Try.pinned (OpenSpec.ofChange fnCutNameSplitsAtFirstNonNameByteSpec)

/-- ITS FALSE NEIGHBOUR: 'it returns false'. Refute it at one input. -/
def fnCutNameSplitsAtFirstNonNameByteWrong : ChangeSpec := { name := "fnCutNameSplitsAtFirstNonNameByte", fn := fun _ => fun
  | [d1, d2] => { results := [.lit (.bool false)], args := [d1, d2] }
  | _ => none }
def FnCutNameSplitsAtFirstNonNameByteWrongFalsely : Prop := fnCutNameSplitsAtFirstNonNameByteRow.holds Try.pinned (OpenSpec.ofChange fnCutNameSplitsAtFirstNonNameByteWrong)

/-- 'zzlaws_internal_cimxml_b1.FnCutNameNamespaceAddsOnlySlashes': WHATEVER THE INPUT: true; the input reads as it did. -/
def fnCutNameNamespaceAddsOnlySlashesSpec : ChangeSpec := { name := "fnCutNameNamespaceAddsOnlySlashes", fn := fun _ => fun
  | [d] => { results := [.lit (.bool true)], args := [d] }
  | _ => none }
def fnCutNameNamespaceAddsOnlySlashesRow : OpenClaim := { program := "qxb6601122a", sum := "44901726bc95c71f1583b37f6c2d650a0e63622e8dfa47945673ac4d70c09cf9", func := "example.com/stowage/stowage/zzlaws_internal_cimxml_b1.FnCutNameNamespaceAddsOnlySlashes", spec := "fnCutNameNamespaceAddsOnlySlashes", apart := false }
def FnCutNameNamespaceAddsOnlySlashesSaid : Prop := fnCutNameNamespaceAddsOnlySlashesRow.holds Try.pinned (OpenSpec.ofChange fnCutNameNamespaceAddsOnlySlashesSpec)

/-- ITS FALSE NEIGHBOUR: 'it returns false'. Refute it at one input. -/
def fnCutNameNamespaceAddsOnlySlashesWrong : ChangeSpec := { name := "fnCutNameNamespaceAddsOnlySlashes", fn := fun _ => fun
  | [d] => { results := [.lit (.bool false)], args := [d] }
  | _ => none }
def FnCutNameNamespaceAddsOnlySlashesWrongFalsely : Prop := fnCutNameNamespaceAddsOnlySlashesRow.holds Try.pinned (OpenSpec.ofChange fnCutNameNamespaceAddsOnlySlashesWrong)

/-- 'zzlaws_internal_cimxml_b1.FnCutNameRecutIsStable': WHATEVER THE INPUT: true; the input reads as it did. -/
def fnCutNameRecutIsStableSpec : ChangeSpec := { name := "fnCutNameRecutIsStable", fn := fun _ => fun
  | [d1, d2] => { results := [.lit (.bool true)], args := [d1, d2] }
  | _ => none }
def fnCutNameRecutIsStableRow : OpenClaim := { program := "qxb6601122a", sum := "44901726bc95c71f1583b37f6c2d650a0e63622e8dfa47945673ac4d70c09cf9", func := "example.com/stowage/stowage/zzlaws_internal_cimxml_b1.FnCutNameRecutIsStable", spec := "fnCutNameRecutIsStable", apart := false }
def FnCutNameRecutIsStableSaid : Prop := fnCutNameRecutIsStableRow.holds Try.pinned (OpenSpec.ofChange fnCutNameRecutIsStableSpec)

/-- ITS FALSE NEIGHBOUR: 'it returns false'. Refute it at one input. -/
def fnCutNameRecutIsStableWrong : ChangeSpec := { name := "fnCutNameRecutIsStable", fn := fun _ => fun
  | [d1, d2] => { results := [.lit (.bool false)], args := [d1, d2] }
  | _ => none }
def FnCutNameRecutIsStableWrongFalsely : Prop := fnCutNameRecutIsStableRow.holds Try.pinned (OpenSpec.ofChange fnCutNameRecutIsStableWrong)

end Rows
end Go.Proofs.Qxb6601122a
