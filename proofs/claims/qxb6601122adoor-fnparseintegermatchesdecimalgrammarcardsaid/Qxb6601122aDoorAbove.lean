/-
  SEAT b6601122aD: THE CONTRACT OF 'zzDecimalAboveMax' (16).
-/
import Derived.Test.Qxb6601122aDoorRows
import Derived.Test.Qxb6601122aDoorPlain
import Derived.WalkKit
import Derived.ProofKit
import Derived.OpenShut
import Derived.ShutString
import Derived.ChangeOld
import Derived.Below
import Derived.WalkSmall
import Derived.WalkSpells
import Derived.Deep.QuietTactic
import Derived.BigQuiet
import Derived.Lib.Strings
namespace Go.Proofs.Qxb6601122aDoor
open Go.ChangeShapes Go.WideShapes Go.ChangeAt Go.RowKit
set_option linter.unusedVariables false

/-- The byte at place j. -/
def by8 (s : ByteArray) (j : Nat) : UInt8 := s.data.toList.getD j 0

theorem by8_get (s : ByteArray) (j : Nat) (h : j < s.size) : s[j].toNat = (by8 s j).toNat := by
  have h' : j < s.data.toList.length := by simpa using h
  simp only [by8, List.getD, List.getElem?_eq_getElem h', Option.getD_some]
  rfl

theorem len_data (s : ByteArray) : s.data.toList.length = s.size := by simp

theorem above_len (t : ByteArray) (w : World) (ht : t.size ≤ 1048576) (h20 : t.size ≠ 20) :
    Calls Tryd.prog 16 #[.string t] w fun e w' => e = .returned (.bool (aboveB t.data.toList)) ∧ w' = w := by
  have e : aboveB t.data.toList = decide (20 < t.size) := by unfold aboveB; rw [len_data, if_neg h20]
  rw [e]
  have t1 : ((t.size : Int) != 20) = true := by rw [bne_iff_ne]; omega
  have HB : Hid (decide ((20 : Int) < (t.size : Int)) = decide (20 < t.size)) := by
    show decide _ = decide _
    rw [decide_eq_decide]; omega
  clear e h20
  go_enter Tryd.func16, Tryd.ntmps16
  go_wp2
  go_ret
  exact ⟨by first | rfl | (rw [← HB.out]; rfl), rfl⟩

theorem lex_ne (l m : List UInt8) (i : Nat) (hl : i < l.length) (hm : i < m.length) (h : (l.getD i 0).toNat ≠ (m.getD i 0).toNat) : lexGt (l.drop i) (m.drop i) = decide ((m.getD i 0).toNat < (l.getD i 0).toNat) := by
  simp only [List.getD, List.getElem?_eq_getElem hl, List.getElem?_eq_getElem hm, Option.getD_some] at h ⊢
  rw [List.drop_eq_getElem_cons hl, List.drop_eq_getElem_cons hm, lexGt, if_neg h]

theorem lex_eq (l m : List UInt8) (i : Nat) (hl : i < l.length) (hm : i < m.length) (h : (l.getD i 0).toNat = (m.getD i 0).toNat) : lexGt (l.drop i) (m.drop i) = lexGt (l.drop (i + 1)) (m.drop (i + 1)) := by
  simp only [List.getD, List.getElem?_eq_getElem hl, List.getElem?_eq_getElem hm, Option.getD_some] at h
  rw [List.drop_eq_getElem_cons hl, List.drop_eq_getElem_cons hm, lexGt, if_pos h]

theorem mx_get (i : Nat) (h : i < 20) : ((⟨#[49, 56, 52, 52, 54, 55, 52, 52, 48, 55, 51, 55, 48, 57, 53, 53, 49, 54, 49, 53]⟩ : ByteArray)[i]'h).toNat = (mx.getD i 0).toNat :=
  by8_get ⟨#[49, 56, 52, 52, 54, 55, 52, 52, 48, 55, 51, 55, 48, 57, 53, 53, 49, 54, 49, 53]⟩ i h

set_option maxHeartbeats 1600000 in
theorem above_20 (t : ByteArray) (w : World) (h20 : t.size = 20) :
    Calls Tryd.prog 16 #[.string t] w fun e w' => e = .returned (.bool (aboveB t.data.toList)) ∧ Below w.heap.size w w' := by
  have e : aboveB t.data.toList = lexGt t.data.toList mx := by unfold aboveB; rw [len_data, if_pos h20]
  rw [e]
  have t1 : ((t.size : Int) != 20) = false := by rw [bne_eq_false_iff_eq]; omega
  have hle : t.size ≤ 20 := by omega
  have hge : 20 ≤ t.size := by omega
  clear e h20
  go_enter Tryd.func16, Tryd.ntmps16
  go_wp2
  clear t1
  go_loopw [3] (fun u wr => ∃ i : Nat, i ≤ 20 ∧ u = .int .i64 i ∧ Hid (lexGt t.data.toList mx = lexGt (t.data.toList.drop i) (mx.drop i)) ∧ Below w.heap.size w wr) (fun u _ => 20 - (intOf u).toNat)
  case atStart => exact ⟨0, by omega, rfl, rfl, Below.refl _ _⟩
  case round =>
    obtain ⟨i, hi, rfl, HL, hB⟩ := hrel
    by_cases hlt : i < 20
    · have hi1 : (i : Int) < (t.size : Int) := by omega
      have hi2 : (i : Int) < 20 := by omega
      have hit : i < t.size := by omega
      have hA := by8_get t i hit
      have hM := mx_get i hlt
      have hll : i < t.data.toList.length := by rw [len_data]; exact hit
      have hml : i < mx.length := hlt
      by_cases hne : (by8 t i).toNat = (mx.getD i 0).toNat
      · have HN : Hid (lexGt t.data.toList mx = lexGt (t.data.toList.drop (i + 1)) (mx.drop (i + 1))) := HL.out.trans (lex_eq _ _ i hll hml hne)
        have q : ((t[i].toNat : Int) != (((⟨#[49, 56, 52, 52, 54, 55, 52, 52, 48, 55, 51, 55, 48, 57, 53, 53, 49, 54, 49, 53]⟩ : ByteArray)[i]'hlt).toNat : Int)) = false := by
          rw [bne_eq_false_iff_eq, hA, hM, hne]
        clear hA hM hne HL
        go_wp2
        go_quiet (fail)
        go_wp2
        go_roundw
        case rel => exact ⟨i + 1, by omega, by go_num, HN, below_drewN hB _⟩
        case measure => simp [intOf]; omega
      · have HN : Hid (lexGt t.data.toList mx = decide (((⟨#[49, 56, 52, 52, 54, 55, 52, 52, 48, 55, 51, 55, 48, 57, 53, 53, 49, 54, 49, 53]⟩ : ByteArray)[i]'hlt).toNat < t[i].toNat)) := by
          show lexGt _ _ = _
          rw [HL.out, lex_ne _ _ i hll hml hne, decide_eq_decide, hA, hM]
          exact Iff.rfl
        have q : ((t[i].toNat : Int) != (((⟨#[49, 56, 52, 52, 54, 55, 52, 52, 48, 55, 51, 55, 48, 57, 53, 53, 49, 54, 49, 53]⟩ : ByteArray)[i]'hlt).toNat : Int)) = true := by
          rw [bne_iff_ne, hA, hM]; omega
        clear hA hM hne HL
        go_wp2
        go_quiet (fail)
        go_wp2
        go_quiet (fail)
        go_wp2
        go_ret
        exact ⟨by rw [HN.out]; rfl, below_drewN (below_drewN hB _) _⟩
    · have hi20 : i = 20 := by omega
      subst hi20
      have HE : Hid (lexGt t.data.toList mx = false) := by
        have h := HL.out
        rw [List.drop_eq_nil_of_le (by rw [len_data]; omega)] at h
        exact h
      clear HL
      go_wp2
      go_ret
      exact ⟨by rw [HE.out]; rfl, hB⟩

theorem above_any (t : ByteArray) (w : World) (ht : t.size ≤ 1048576) :
    Calls Tryd.prog 16 #[.string t] w fun e w' => e = .returned (.bool (aboveB t.data.toList)) ∧ Below w.heap.size w w' := by
  by_cases h : t.size = 20
  · exact above_20 t w h
  · refine (above_len t w ht h).mono ?_
    rintro e w' ⟨rfl, rfl⟩
    exact ⟨rfl, Below.refl _ _⟩

end Go.Proofs.Qxb6601122aDoor
