/-
  SEAT b6601122a: THE CONTRACTS OF 'cutName' (11), 'ZZcutName' (7) AND 'zzNameByte' (8).
-/
import Derived.Test.Qxb6601122aRows
import Derived.WalkKit
import Derived.ProofKit
import Derived.OpenShut
import Derived.ShutString
import Derived.ChangeOld
import Derived.Below
import Derived.WalkSmall
import Derived.WalkSpells
import Derived.Deep.QuietTactic
import Derived.BigQuiet
import Derived.Lib.Strings
namespace Go.Proofs.Qxb6601122a
open Go.ChangeShapes Go.WideShapes Go.ChangeAt Go.RowKit
set_option linter.unusedVariables false

/-- May the byte stand in a name? -/
def nb (ns : Bool) (c : Int) : Bool := (decide (97 ≤ c) && decide (c ≤ 122)) || (decide (65 ≤ c) && decide (c ≤ 90)) || (decide (48 ≤ c) && decide (c ≤ 57)) || decide (c = 95) || (ns && decide (c = 47))

theorem nb_iff (ns : Bool) (c : Int) : nb ns c = true ↔ (97 ≤ c ∧ c ≤ 122) ∨ (65 ≤ c ∧ c ≤ 90) ∨ (48 ≤ c ∧ c ≤ 57) ∨ c = 95 ∨ (ns = true ∧ c = 47) := by
  simp [nb, or_assoc]

/-- The byte at place j, as a number. -/
def bt (s : ByteArray) (j : Nat) : Int := ((s.data.toList.getD j 0).toNat : Int)

theorem bt_get (s : ByteArray) (j : Nat) (h : j < s.size) : (s[j].toNat : Int) = bt s j := by
  have h' : j < s.data.toList.length := by simpa using h
  simp only [bt, List.getD, List.getElem?_eq_getElem h', Option.getD_some]
  rfl

theorem nameByte_any (c : Int) (ns : Bool) (h0 : 0 ≤ c) (h1 : c ≤ 255) (w : World) :
    Calls Try.prog 8 #[.int .u8 c, .bool ns] w fun e w' => e = .returned (.bool (nb ns c)) ∧ w' = w := by
  by_cases a1 : 97 ≤ c
  · by_cases a2 : c ≤ 122
    · have e : nb ns c = true := (nb_iff ns c).2 (by omega)
      rw [e]
      go_enter Try.func8, Try.ntmps8
      go_wp2
      go_ret
      exact ⟨rfl, rfl⟩
    · have e : nb ns c = false := by rw [Bool.eq_false_iff]; intro h; have := (nb_iff ns c).1 h; omega
      have a3 : 65 ≤ c := by omega
      have a4 : ¬ c ≤ 90 := by omega
      have a5 : 48 ≤ c := by omega
      have a6 : ¬ c ≤ 57 := by omega
      have a7 : (c == 95) = false := beq_eq_false_iff_ne.2 (by omega)
      have a8 : (c == 47) = false := beq_eq_false_iff_ne.2 (by omega)
      rw [e]
      cases ns
      all_goals (
        go_enter Try.func8, Try.ntmps8
        go_wp2
        go_ret
        exact ⟨rfl, rfl⟩)
  · by_cases a3 : 65 ≤ c
    · by_cases a4 : c ≤ 90
      · have e : nb ns c = true := (nb_iff ns c).2 (by omega)
        rw [e]
        go_enter Try.func8, Try.ntmps8
        go_wp2
        go_ret
        exact ⟨rfl, rfl⟩
      · have a5 : 48 ≤ c := by omega
        have a6 : ¬ c ≤ 57 := by omega
        have a8 : (c == 47) = false := beq_eq_false_iff_ne.2 (by omega)
        by_cases a9 : c = 95
        · have e : nb ns c = true := (nb_iff ns c).2 (by omega)
          have a7 : (c == 95) = true := beq_iff_eq.2 a9
          rw [e]
          clear a9
          go_enter Try.func8, Try.ntmps8
          go_wp2
          go_ret
          exact ⟨rfl, rfl⟩
        · have a7 : (c == 95) = false := beq_eq_false_iff_ne.2 a9
          have e : nb ns c = false := by rw [Bool.eq_false_iff]; intro h; have := (nb_iff ns c).1 h; omega
          rw [e]
          clear a9
          cases ns
          all_goals (
            go_enter Try.func8, Try.ntmps8
            go_wp2
            go_ret
            exact ⟨rfl, rfl⟩)
    · have a7 : (c == 95) = false := beq_eq_false_iff_ne.2 (by omega)
      by_cases a5 : 48 ≤ c
      · by_cases a6 : c ≤ 57
        · have e : nb ns c = true := (nb_iff ns c).2 (by omega)
          rw [e]
          go_enter Try.func8, Try.ntmps8
          go_wp2
          go_ret
          exact ⟨rfl, rfl⟩
        · have a8 : (c == 47) = false := beq_eq_false_iff_ne.2 (by omega)
          have e : nb ns c = false := by rw [Bool.eq_false_iff]; intro h; have := (nb_iff ns c).1 h; omega
          rw [e]
          cases ns
          all_goals (
            go_enter Try.func8, Try.ntmps8
            go_wp2
            go_ret
            exact ⟨rfl, rfl⟩)
      · by_cases a9 : c = 47
        · have a8 : (c == 47) = true := beq_iff_eq.2 a9
          cases ns
          · have e : nb false c = false := by rw [Bool.eq_false_iff]; intro h; have := (nb_iff false c).1 h; simp at this; omega
            rw [e]
            clear a9
            go_enter Try.func8, Try.ntmps8
            go_wp2
            go_ret
            exact ⟨rfl, rfl⟩
          · have e : nb true c = true := (nb_iff true c).2 (by simp; omega)
            rw [e]
            clear a9
            go_enter Try.func8, Try.ntmps8
            go_wp2
            go_ret
            exact ⟨rfl, rfl⟩
        · have a8 : (c == 47) = false := beq_eq_false_iff_ne.2 a9
          have e : nb ns c = false := by rw [Bool.eq_false_iff]; intro h; have := (nb_iff ns c).1 h; omega
          rw [e]
          clear a9
          cases ns
          all_goals (
            go_enter Try.func8, Try.ntmps8
            go_wp2
            go_ret
            exact ⟨rfl, rfl⟩)

set_option maxHeartbeats 3200000 in
theorem cut_in (s : ByteArray) (ns : Bool) (w : World) (hs : s.size ≤ 1048576) :
    Calls Try.prog 11 #[.string s, .bool ns] w fun e w' => ∃ k, k ≤ s.size ∧ e = .returned (.tuple #[.string (s.extract 0 k), .string (s.extract k s.size)]) ∧
      Hid ((∀ j, j < k → nb ns (bt s j) = true) ∧ (k < s.size → nb ns (bt s k) = false)) ∧ Below w.heap.size w w' := by
  go_enter Try.func11, Try.ntmps11
  go_wp2
  go_loop [6] (fun t => ∃ k : Nat, k ≤ s.size ∧ t = .int .i64 k ∧ Hid (∀ j, j < k → nb ns (bt s j) = true)) (fun t => s.size - (intOf t).toNat)
  case atStart => exact ⟨0, Nat.zero_le _, rfl, fun j hj => absurd hj (by omega)⟩
  case round =>
    obtain ⟨k, hk, rfl, HA⟩ := hrel
    by_cases hlt : k < s.size
    · have hb := bt_get s k hlt
      have hb0 : 0 ≤ (s[k].toNat : Int) := by omega
      by_cases hn : nb ns (bt s k) = true
      · have HN : Hid (∀ j, j < k + 1 → nb ns (bt s j) = true) := fun j hj => by
          by_cases e : j = k
          · subst e; exact hn
          · exact HA.out j (by omega)
        have hq := (nb_iff ns _).1 hn
        rw [← hb] at hq
        clear hb hn
        rcases hq with ⟨q1, q2⟩ | ⟨q1, q2⟩ | ⟨q1, q2⟩ | q1 | ⟨rfl, q1⟩
        · go_wp2
          go_round
          case rel => exact ⟨k + 1, by omega, by go_num, HN⟩
          case measure => simp [intOf]; omega
        · have q3 : ¬ 97 ≤ (s[k].toNat : Int) := by omega
          go_wp2
          go_round
          case rel => exact ⟨k + 1, by omega, by go_num, HN⟩
          case measure => simp [intOf]; omega
        · have q3 : ¬ 97 ≤ (s[k].toNat : Int) := by omega
          have q4 : ¬ 65 ≤ (s[k].toNat : Int) := by omega
          go_wp2
          go_round
          case rel => exact ⟨k + 1, by omega, by go_num, HN⟩
          case measure => simp [intOf]; omega
        · have q3 : ¬ 97 ≤ (s[k].toNat : Int) := by omega
          have q4 : 65 ≤ (s[k].toNat : Int) := by omega
          have q5 : ¬ (s[k].toNat : Int) ≤ 90 := by omega
          have q6 : 48 ≤ (s[k].toNat : Int) := by omega
          have q7 : ¬ (s[k].toNat : Int) ≤ 57 := by omega
          have q8 : ((s[k].toNat : Int) == 95) = true := beq_iff_eq.2 q1
          clear q1
          go_wp2
          go_round
          case rel => exact ⟨k + 1, by omega, by go_num, HN⟩
          case measure => simp [intOf]; omega
        · have q3 : ¬ 97 ≤ (s[k].toNat : Int) := by omega
          have q4 : ¬ 65 ≤ (s[k].toNat : Int) := by omega
          have q5 : ¬ 48 ≤ (s[k].toNat : Int) := by omega
          have q8 : ((s[k].toNat : Int) == 95) = false := beq_eq_false_iff_ne.2 (by omega)
          have q9 : ((s[k].toNat : Int) == 47) = true := beq_iff_eq.2 q1
          clear q1
          go_wp2
          go_round
          case rel => exact ⟨k + 1, by omega, by go_num, HN⟩
          case measure => simp [intOf]; omega
      · have hnf : nb ns (bt s k) = false := by simpa using hn
        have HNO : Hid (nb ns (bt s k) = false) := hnf
        have hq : ¬ ((97 ≤ (s[k].toNat : Int) ∧ (s[k].toNat : Int) ≤ 122) ∨ (65 ≤ (s[k].toNat : Int) ∧ (s[k].toNat : Int) ≤ 90) ∨ (48 ≤ (s[k].toNat : Int) ∧ (s[k].toNat : Int) ≤ 57) ∨ (s[k].toNat : Int) = 95 ∨ (ns = true ∧ (s[k].toNat : Int) = 47)) := fun h => hn ((nb_iff ns _).2 (by rw [hb] at h; exact h))
        clear hb hn hnf
        have q8 : ((s[k].toNat : Int) == 95) = false := beq_eq_false_iff_ne.2 (by omega)
        by_cases a1 : 97 ≤ (s[k].toNat : Int)
        · have a2 : ¬ (s[k].toNat : Int) ≤ 122 := by omega
          have a3 : 65 ≤ (s[k].toNat : Int) := by omega
          have a4 : ¬ (s[k].toNat : Int) ≤ 90 := by omega
          have a5 : 48 ≤ (s[k].toNat : Int) := by omega
          have a6 : ¬ (s[k].toNat : Int) ≤ 57 := by omega
          have a7 : ((s[k].toNat : Int) == 47) = false := beq_eq_false_iff_ne.2 (by omega)
          clear hq
          cases ns
          all_goals (
            go_wp2
            go_quiet (fail)
            go_wp2
            go_ret2
            exact ⟨k, hk, rfl, ⟨HA.out, fun _ => HNO.out⟩, below_drewN (Below.refl _ _) _⟩)
        by_cases a3 : 65 ≤ (s[k].toNat : Int)
        · have a4 : ¬ (s[k].toNat : Int) ≤ 90 := by omega
          have a5 : 48 ≤ (s[k].toNat : Int) := by omega
          have a6 : ¬ (s[k].toNat : Int) ≤ 57 := by omega
          have a7 : ((s[k].toNat : Int) == 47) = false := beq_eq_false_iff_ne.2 (by omega)
          clear hq
          cases ns
          all_goals (
            go_wp2
            go_quiet (fail)
            go_wp2
            go_ret2
            exact ⟨k, hk, rfl, ⟨HA.out, fun _ => HNO.out⟩, below_drewN (Below.refl _ _) _⟩)
        by_cases a5 : 48 ≤ (s[k].toNat : Int)
        · have a6 : ¬ (s[k].toNat : Int) ≤ 57 := by omega
          have a7 : ((s[k].toNat : Int) == 47) = false := beq_eq_false_iff_ne.2 (by omega)
          clear hq
          cases ns
          all_goals (
            go_wp2
            go_quiet (fail)
            go_wp2
            go_ret2
            exact ⟨k, hk, rfl, ⟨HA.out, fun _ => HNO.out⟩, below_drewN (Below.refl _ _) _⟩)
        cases ns
        · clear hq
          go_wp2
          go_quiet (fail)
          go_wp2
          go_ret2
          exact ⟨k, hk, rfl, ⟨HA.out, fun _ => HNO.out⟩, below_drewN (Below.refl _ _) _⟩
        · have a7 : ((s[k].toNat : Int) == 47) = false := beq_eq_false_iff_ne.2 (by simp at hq; omega)
          clear hq
          go_wp2
          go_quiet (fail)
          go_wp2
          go_ret2
          exact ⟨k, hk, rfl, ⟨HA.out, fun _ => HNO.out⟩, below_drewN (Below.refl _ _) _⟩
    · have hkk : k = s.size := by omega
      subst hkk
      go_wp2
      go_quiet (fail)
      go_wp2
      go_ret2
      exact ⟨s.size, hk, by simp, ⟨HA.out, fun h => absurd h hlt⟩, below_drewN (Below.refl _ _) _⟩

theorem ZZcut_any (s : ByteArray) (ns : Bool) (w : World) (hs : s.size ≤ 1048576) :
    Calls Try.prog 7 #[.string s, .bool ns] w fun e w' => ∃ k, k ≤ s.size ∧ e = .returned (.tuple #[.string (s.extract 0 k), .string (s.extract k s.size)]) ∧
      Hid ((∀ j, j < k → nb ns (bt s j) = true) ∧ (k < s.size → nb ns (bt s k) = false)) ∧ Below w.heap.size w w' := by
  have H := cut_in s ns w hs
  go_enter Try.func7, Try.ntmps7
  go_wp2_with fail
  refine H.mono ?_
  rintro e w' ⟨k, hk, rfl, h1, h2⟩
  go_wp2
  go_ret2
  exact ⟨k, hk, rfl, h1, h2⟩

end Go.Proofs.Qxb6601122a
