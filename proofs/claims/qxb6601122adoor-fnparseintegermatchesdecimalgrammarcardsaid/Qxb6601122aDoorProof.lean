/-
  'Rows.FnParseIntegerMatchesDecimalGrammarCardSaid': the row's step and the tied card, after the guide's Derived/Test/MapyProofs and MapyCard and the skeleton tool's shells; the walk lies in Qxb6601122aDoorLaw.
-/
import Derived.Test.Qxb6601122aDoorLaw
import Derived.Test.Qxb6601122aDoorTie
import Derived.Test.Qxb6601122aDoorCards
import Derived.WalkKit
import Derived.ProofKit
import Derived.OpenShut
import Derived.ShutString
import Derived.ChangeOld
import Derived.Below
import Derived.LaidMore
import Derived.Lay
import Derived.Stop.Joined
import Derived.Stop.LaidErr
import Derived.SevenTiedAt
namespace Go.Proofs.Qxb6601122aDoor.fnParseIntegerMatchesDecimalGrammar
open Go.ChangeShapes Go.WideShapes Go.ChangeAt Go.RowKit
open Go.ChangeMaps (open_string shut_string)
set_option linter.unusedVariables false

theorem own : ownKnob Tryd.prog.godebug = none := by kernel_rfl
theorem gErr : Tryd.prog.globalNamed "strconv.ErrSyntax" = some 0 := by kernel_rfl
theorem gRng : Tryd.prog.globalNamed "strconv.ErrRange" = some 1 := by kernel_rfl
theorem tErr : (Tryd.prog.globals[0]?).map (·.type) = some 40 := by kernel_rfl
theorem tRng : (Tryd.prog.globals[1]?).map (·.type) = some 40 := by kernel_rfl

/-- The door's own heap meets the condition: three closed facts. -/
theorem door_met (os : Os) (args : Array Value) : laidMetH Tryd.prog Rows.fnParseIntegerMatchesDecimalGrammarRow.laid ((World.doorLaid Tryd.prog 400 os).forCall (fun _ _ => 0) ⟨#[], args, []⟩).memory :=
  laidMetH_of_parts3 (fuel := 8) (laidMet_of_run' 8 (by kernel_rfl) (by kernel_rfl)) (by kernel_rfl) (by kernel_rfl)

/-- What the condition gives the walk: both variables hold an interface value. -/
theorem of_laid {W : World} (h : laidMetH Tryd.prog Rows.fnParseIntegerMatchesDecimalGrammarRow.laid W) :
    (∃ t v, W.var? Tryd.prog "strconv.ErrSyntax" = some #[.iface t v]) ∧ (∃ t v, W.var? Tryd.prog "strconv.ErrRange" = some #[.iface t v]) := by
  rw [MakeChecks.laidMetH_plain _ _ _ (by kernel_rfl)] at h
  have h4 := h.tail.tail.tail.tail
  have h3 := h.tail.tail.tail
  clear h
  refine ⟨?_, ?_⟩
  · obtain ⟨ps, ⟨g0, t0, cs0, f0, p0, q0, hg0, ht0, hv0, hd0, _, _⟩, _, _⟩ := h4
    obtain rfl := Option.some.inj (gErr.symm.trans hg0)
    obtain rfl := Option.some.inj (tErr.symm.trans ht0)
    obtain ⟨f1, u, v, hcs, _⟩ := iface_of_trod Tryd.underlying40 hd0
    rw [Array.eq_one_of_toList hcs] at hv0
    exact ⟨u, v, hv0⟩
  · obtain ⟨ps, ⟨g0, t0, cs0, f0, p0, q0, hg0, ht0, hv0, hd0, _, _⟩, _, _⟩ := h3
    obtain rfl := Option.some.inj (gRng.symm.trans hg0)
    obtain rfl := Option.some.inj (tRng.symm.trans ht0)
    obtain ⟨f1, u, v, hcs, _⟩ := iface_of_trod Tryd.underlying40 hd0
    rw [Array.eq_one_of_toList hcs] at hv0
    exact ⟨u, v, hv0⟩

theorem w_sh1 (os : Os) : World.variablesZipB Tryd.prog ((World.doorLaid Tryd.prog 400 os).forCall (fun _ _ => 0) ⟨#[], #[.string ByteArray.empty], []⟩) = true := by kernel_rfl
theorem w_sh2 (os : Os) : List.take ((begin Tryd.prog (fun _ _ => 0) default).world.heap.size - Tryd.prog.globals.size) (List.drop Tryd.prog.globals.size ((World.doorLaid Tryd.prog 400 os).forCall (fun _ _ => 0) ⟨#[], #[.string ByteArray.empty], []⟩).heap.toList) = List.drop Tryd.prog.globals.size (begin Tryd.prog (fun _ _ => 0) default).world.heap.toList := by kernel_rfl
theorem w_ok (os : Os) : Input.okWideB Tryd.prog ((World.doorLaid Tryd.prog 400 os).forCall (fun _ _ => 0) ⟨#[], #[.string ByteArray.empty], []⟩) 3 ⟨#[], #[.string ByteArray.empty], []⟩ = true := by kernel_rfl
theorem w_pre (os : Os) (H : Type) (enc : TypeId × Value → H) : ChangeSpec.preB enc Tryd.prog Tryd.f3 Rows.fnParseIntegerMatchesDecimalGrammarSpec [] false ((World.doorLaid Tryd.prog 400 os).forCall (fun _ _ => 0) ⟨#[], #[.string ByteArray.empty], []⟩).memory #[.string ByteArray.empty] 8 = true := by kernel_rfl
theorem w_siz (os : Os) (H : Type) (enc : TypeId × Value → H) : ChangeSpec.sizedB enc Tryd.prog Tryd.f3 Rows.fnParseIntegerMatchesDecimalGrammarSpec false ((World.doorLaid Tryd.prog 400 os).forCall (fun _ _ => 0) ⟨#[], #[.string ByteArray.empty], []⟩).memory #[.string ByteArray.empty] 8 = true := by kernel_rfl
theorem w_ini : Tryd.prog.inits.idxOf? 3 = none := by kernel_rfl

set_option maxRecDepth 100000 in
theorem lifted (os : Os) (started : os.Started) (H : Type) (enc : TypeId × Value → H) :
    ReturnsInHanded {} Tryd.checked os 3 .any (fun w args => (Rows.fnParseIntegerMatchesDecimalGrammarSpec.pre enc Tryd.prog Tryd.f3 [] false w args ∧ laidMetH Tryd.prog Rows.fnParseIntegerMatchesDecimalGrammarRow.laid w) ∧ sizedMet enc Tryd.prog Tryd.f3 (OpenSpec.ofChange Rows.fnParseIntegerMatchesDecimalGrammarSpec) false w args)
      (Rows.fnParseIntegerMatchesDecimalGrammarSpec.post enc Tryd.prog Tryd.f3 false true false false) := by
  refine returnsInHanded_of_change_and (C := Tryd.checked) (X := fun w _ => laidMetH Tryd.prog Rows.fnParseIntegerMatchesDecimalGrammarRow.laid w) (fun _ _ _ hh h => h.of_heap hh) own started w_ini Tryd.func3
    (ChangeSpec.witness_shaped (enc := enc) (C := Tryd.checked) (os := os) (X := fun w _ => laidMetH Tryd.prog Rows.fnParseIntegerMatchesDecimalGrammarRow.laid w) false (World.doorLaid Tryd.prog 400 os) #[.string ByteArray.empty] 8 rfl (World.shaped_of_ZipB (w_sh1 os) (w_sh2 os)) (w_ok os) (w_pre os H enc) (w_siz os H enc) (door_met os _)) ?_
  intro W base args ds gs before hval0 hW _ _ hL _
  have hval : ∀ (j : Nat) t v, Tryd.f3.params[j]? = some t → args[j]? = some v → Value.okWide Tryd.prog W .any base t v := hval0
  have hW' := hW
  obtain ⟨p, q, hA0, hV, rfl, hfz, hnd⟩ := hW
  have hA : DataW.TrodAll enc Tryd.prog W 0 (fun _ => true) true Tryd.f3.params.toList args.toList ds p := hA0
  rw [Tryd.params3] at hA hval
  obtain ⟨v0, vs0, d0, ds0, p0, q0, hargs, rfl, rfl, h0, r0⟩ := trodAll_cons hA
  obtain ⟨rfl, rfl, rfl⟩ := trodAll_nil r0
  obtain rfl : args = #[v0] := by cases args; simp_all
  obtain ⟨rfl, rfl⟩ := trodVars_none hV
  obtain ⟨a0, rfl, rfl, rfl, w0⟩ := open_string Tryd.underlying9 (hval 0 9 v0 rfl rfl) h0
  obtain ⟨⟨tv, pv, hv⟩, ⟨tr, pr, hr⟩⟩ := of_laid hL
  clear hA0 hval0
  simp only [List.append_nil] at hW'
  refine (walk a0 W w0 tv tr pv pr hv hr).mono fun e W' ⟨he, bel⟩ => ?_
  subst he
  exact ⟨_, rfl, _, _, _, [], _, [], hW', trodAll_mk1 (shut_bool Tryd.underlying4 _), (trodAll_cons_mk (shut_string Tryd.underlying9 w0) trodAll_mk0), rfl, bel.frame _, fun h => by cases h⟩

theorem over : Rows.FnParseIntegerMatchesDecimalGrammarSaid :=
  OpenClaim.holds_of_wide 3 Tryd.f3 rfl rfl rfl rfl rfl rfl rfl ⟨rfl, rfl, rfl, rfl, rfl⟩ rfl rfl rfl rfl rfl (by kernel_rfl) Tryd.func3 (by kernel_rfl)
    (of_decide_eq_true (by kernel_rfl)) (by unfold Func.isWrapper; first | (rw [if_pos (by decide +kernel)]; kernel_rfl) | (rw [if_neg (by decide +kernel)]; exact ⟨rfl, rfl⟩))
    (fun os started H enc _ => lifted os started H enc)

/-- THE TIED CARD. -/
theorem proved : Rows.FnParseIntegerMatchesDecimalGrammarCardSaid :=
  Claim7.holds_tied_plain_at .later [] [.data, .data, .data, .called, .called] true Rows.fnParseIntegerMatchesDecimalGrammarCard.stood.harness true
    over (fun _ h => by cases h) (by kernel_rfl) (fun _ h => by cases h) fnParseIntegerMatchesDecimalGrammar_row_tie rfl ⟨rfl, rfl⟩ (by kernel_rfl) rfl
    (fun f fn hf hfn => by
      obtain rfl : f = 3 := Option.some.inj ((show Tryd.prog.funcNamed Tryd.f3.name = some 3 by kernel_rfl).symm.trans hf) |>.symm
      obtain rfl : fn = Tryd.f3 := (Option.some.inj (Tryd.func3.symm.trans hfn)).symm
      exact ⟨by kernel_rfl, fun j t ht => by
        rw [Tryd.params3] at ht
        have hm : t ∈ [9] := by simpa using Array.mem_of_getElem? ht
        have hall : ([9].all fun u => !Tryd.prog.wantsStandIn u) = true := by kernel_rfl
        exact (show Tryd.prog.wantsStandIn t = false by simpa using List.all_eq_true.1 hall t hm)⟩)
    (by kernel_rfl)
#print axioms proved
end Go.Proofs.Qxb6601122aDoor.fnParseIntegerMatchesDecimalGrammar
