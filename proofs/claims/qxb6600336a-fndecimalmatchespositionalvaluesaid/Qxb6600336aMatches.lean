/-
  SEAT b6600336a: THE WALK OF 'FnDecimalMatchesPositionalValue' (3).
-/
import Derived.Test.Qxb6600336aModel
namespace Go.Proofs.Qxb6600336a.fnDecimalMatchesPositionalValue
open Go.ChangeShapes Go.WideShapes Go.ChangeAt Go.RowKit
set_option linter.unusedVariables false

set_option maxHeartbeats 800000 in
theorem walk (a0 : Option Addr) (len0 cap0 : Nat) (z0 : List Int) (w : World) (w0 : IsRow .u8 w a0 len0 cap0 z0) :
    Calls Try.prog 3 #[.slice a0 len0 cap0] w fun e w' => e = .returned (.bool true) ∧ Below w.heap.size w w' := by
  have hl63 := w0.len_le
  by_cases hl : 1048576 < len0
  · clear w0
    go_enter Try.func3, Try.ntmps3
    go_wp2
    go_ret
    exact ⟨rfl, Below.refl _ _⟩
  · have hC := clone_any a0 len0 cap0 z0 w w0 (by omega)
    have hby := w0.bytes
    clear w0
    go_enter Try.func3, Try.ntmps3
    go_wp2_with (go_at_call 8; go_in)
    refine hC.mono ?_
    rintro e w1 ⟨v, rfl, ho, hB⟩
    have hm : len0 ≤ maxLen := by unfold maxLen; omega
    have HM := model_owned w.heap.size v len0 _ w1 ho hm hby
    have HD := ZZdecimal_owned w.heap.size v len0 _ w1 ho hm hby
    generalize decN (z0.take len0) = N at HM HD
    generalize decOk (z0.take len0) = O at HM HD
    obtain ⟨a, c, rfl⟩ := owned_shape ho
    clear ho hC hby hm
    go_wp2_with fail
    refine HM.mono ?_
    rintro e w' ⟨rfl, rfl⟩
    go_wp2_with fail
    refine HD.mono ?_
    rintro e w' ⟨rfl, rfl⟩
    clear HM HD
    go_wp2
    go_ret
    exact ⟨by simp, hB⟩

end Go.Proofs.Qxb6600336a.fnDecimalMatchesPositionalValue
