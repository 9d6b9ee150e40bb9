/-
  SEAT b6601122aD: THE WALK OF 'FnParseIntegerMatchesDecimalGrammar' (3).
-/
import Derived.Test.Qxb6601122aDoorParse
namespace Go.Proofs.Qxb6601122aDoor.fnParseIntegerMatchesDecimalGrammar
open Go.ChangeShapes Go.WideShapes Go.ChangeAt Go.RowKit
open Go.Lib (parseUintB NumEnd)
set_option linter.unusedVariables false

set_option maxHeartbeats 1600000 in
theorem walk (a0 : ByteArray) (w : World) (hmax : a0.size ≤ maxLen) (tv tr : TypeId) (pv pr : Value) (hv : w.var? Tryd.prog "strconv.ErrSyntax" = some #[.iface tv pv]) (hr : w.var? Tryd.prog "strconv.ErrRange" = some #[.iface tr pr]) :
    Calls Tryd.prog 3 #[.string a0] w fun e w' => e = .returned (.bool true) ∧ Below w.heap.size w w' := by
  unfold maxLen at hmax
  by_cases h : 1048576 < a0.size
  · clear hv hr
    go_enter Tryd.func3, Tryd.ntmps3
    go_wp2
    go_ret
    exact ⟨rfl, Below.refl _ _⟩
  · have H1 := ZZparse_any a0 w (by omega) tv tr pv pr hv hr
    have H2 := fun W => model_any a0 W (by omega)
    generalize outN (parseUintB 64 (dOf a0)) = M at H1 H2
    generalize outB (parseUintB 64 (dOf a0)) = B at H1 H2
    generalize negB a0 = N at H1 H2
    have H2' : Hid _ := H2
    clear hv hr H2
    go_enter Tryd.func3, Tryd.ntmps3
    go_wp2_with (go_at_call 7; go_in)
    refine H1.mono ?_
    rintro e W1 ⟨rfl, hb1⟩
    clear H1
    go_wp2_with fail
    refine (H2'.out W1).mono ?_
    rintro e W2 ⟨rfl, hb2⟩
    clear H2'
    go_wp2
    go_ret
    exact ⟨by simp, hb1.trans (hb2.mono hb1.size)⟩

end Go.Proofs.Qxb6601122aDoor.fnParseIntegerMatchesDecimalGrammar
