/-
  SEAT b6601122a: THE WALK OF 'FnCutNameSplitsAtFirstNonNameByte' (3).
-/
import Derived.Test.Qxb6601122aCut
namespace Go.Proofs.Qxb6601122a.fnCutNameSplitsAtFirstNonNameByte
open Go.ChangeShapes Go.WideShapes Go.ChangeAt Go.RowKit
set_option linter.unusedVariables false

theorem bt_left (s : ByteArray) (k j : Nat) (hk : k ≤ s.size) (hj : j < k) : bt (s.extract 0 k) j = bt s j := by
  unfold bt
  rw [Lib.extract_data]
  simp [List.getD, hj]

theorem bt_right (s : ByteArray) (k : Nat) (hk : k < s.size) : bt (s.extract k s.size) 0 = bt s k := by
  have h1 : k < s.data.toList.length := by simpa using hk
  unfold bt
  rw [Lib.extract_data]
  simp only [List.getD, List.getElem?_take, List.getElem?_drop]
  rw [if_pos (by omega), Nat.add_zero]

theorem bt_le (s : ByteArray) (j : Nat) : 0 ≤ bt s j ∧ bt s j ≤ 255 := by
  have := (s.data.toList.getD j 0).toNat_lt
  unfold bt; omega

set_option maxHeartbeats 1600000 in
theorem walk_in (s : ByteArray) (ns : Bool) (w : World) (hs : s.size ≤ 1048576) :
    Calls Try.prog 3 #[.string s, .bool ns] w fun e w' => e = .returned (.bool true) ∧ Below w.heap.size w w' := by
  have H := ZZcut_any s ns w hs
  go_enter Try.func3, Try.ntmps3
  go_wp2_with (go_at_call 6; go_in)
  refine H.mono ?_
  rintro e W1 ⟨k, hk, rfl, HN, hB⟩
  clear H
  have t1 : ((k : Int) + ((s.size - k : Nat) : Int) != (s.size : Int)) = false := by
    rw [bne_eq_false_iff_eq]; omega
  go_wp2_with fail
  clear t1
  have hPsz : (s.extract 0 k).size = k := by simp; omega
  have hQsz : (s.extract k s.size).size = s.size - k := by simp
  have hPn : ∀ j, j < k → nb ns (bt (s.extract 0 k) j) = true := fun j hj => by rw [bt_left s k j hk hj]; exact HN.out.1 j hj
  have hQn : k < s.size → nb ns (bt (s.extract k s.size) 0) = false := fun h => by rw [bt_right s k h]; exact HN.out.2 h
  generalize s.extract 0 k = P at *
  generalize s.extract k s.size = Q at *
  have HPN : Hid _ := hPn
  have HQN : Hid _ := hQn
  have hQ1 : P.size + Q.size ≤ s.size := by omega
  have hQ2 : s.size ≤ P.size + Q.size := by omega
  clear HN hPn hQn hQsz
  subst hPsz
  go_loop [7] (fun t => ∃ j : Nat, j ≤ P.size ∧ t = .int .i64 j) (fun t => P.size - (intOf t).toNat)
  case atStart => exact ⟨0, Nat.zero_le _, rfl⟩
  case round =>
    obtain ⟨j, hj, rfl⟩ := hrel
    by_cases hlt : j < P.size
    · have hbt := bt_get P j hlt
      have hN := nameByte_any (P[j].toNat : Int) ns (by omega) (by have := (bt_le P j).2; omega) W1
      rw [hbt, HPN.out j (by omega), ← hbt] at hN
      clear hbt
      go_wp2_with fail
      refine hN.mono ?_
      rintro e w' ⟨rfl, hw'⟩
      obtain rfl := hw'.symm
      clear hN
      go_wp2
      go_round
      case rel => exact ⟨j + 1, by omega, by go_num⟩
      case measure => simp [intOf]; omega
    · by_cases hq : 0 < Q.size
      · have hbt := bt_get Q 0 hq
        have hN := nameByte_any (Q[0].toNat : Int) ns (by omega) (by have := (bt_le Q 0).2; omega) W1
        rw [hbt, HQN.out (by omega), ← hbt] at hN
        clear hbt
        go_wp2_with fail
        refine hN.mono ?_
        rintro e w' ⟨rfl, rfl⟩
        clear hN
        go_wp2
        go_ret
        exact ⟨rfl, hB⟩
      · go_wp2
        go_ret
        exact ⟨rfl, hB⟩

theorem walk (a0 : ByteArray) (a1 : Bool) (w : World) (hmax : a0.size ≤ maxLen) :
    Calls Try.prog 3 #[.string a0, .bool a1] w fun e w' => e = .returned (.bool true) ∧ Below w.heap.size w w' := by
  unfold maxLen at hmax
  by_cases h : 1048576 < a0.size
  · go_enter Try.func3, Try.ntmps3
    go_wp2
    go_ret
    exact ⟨rfl, Below.refl _ _⟩
  · exact walk_in a0 a1 w (by omega)

end Go.Proofs.Qxb6601122a.fnCutNameSplitsAtFirstNonNameByte
