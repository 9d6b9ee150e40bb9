/-
  SEAT b6600336a: THE CONTRACTS OF 'decimal' (19), 'ZZdecimal' (11) AND 'decimalModel' (10).
-/
import Derived.Test.Qxb6600336aRows
import Derived.Test.Qxb6600336aPlain
import Derived.WalkKit
import Derived.ProofKit
import Derived.OpenShut
import Derived.ShutString
import Derived.ChangeOld
import Derived.Below
namespace Go.Proofs.Qxb6600336a
open Go.ChangeShapes Go.WideShapes Go.ChangeAt Go.RowKit
set_option linter.unusedVariables false

theorem ret_dec {a b : Int} {p q : Bool} (h : a = b) (k : p = q) : Ending.returned (.tuple #[.int .i64 a, .bool p]) = .returned (.tuple #[.int .i64 b, .bool q]) := by rw [h, k]

/-- A text of no byte, or of more than nine. -/
theorem decimal_len (a : Option Addr) (n cap : Nat) (w : World) (hn : n = 0 ∨ 9 < n) (hm : n ≤ maxLen) :
    Calls Try.prog 19 #[.slice a n cap] w fun e w' => e = .returned (.tuple #[.int .i64 0, .bool false]) ∧ w' = w := by
  unfold maxLen at hm
  rcases hn with rfl | hn
  · go_enter Try.func19, Try.ntmps19
    go_wp2
    go_ret2
    exact ⟨rfl, rfl⟩
  · have h0 : ((n : Int) == 0) = false := beq_eq_false_iff_ne.2 (by omega)
    have h9 : (9 : Int) < (n : Int) := by omega
    go_enter Try.func19, Try.ntmps19
    go_wp2
    go_ret2
    exact ⟨rfl, rfl⟩

set_option maxHeartbeats 800000 in
/-- A text of one to nine bytes. -/
theorem decimal_cells (b off n cap : Nat) (bs : List Int) (w : World) (hn : bs.length = n) (h1 : 1 ≤ n) (h9 : n ≤ 9)
    (hbyte : ∀ i, i < n → 0 ≤ bs.getD i 0 ∧ bs.getD i 0 ≤ 255)
    (hc : ∀ i, i < n → w.cell? ⟨b, off + i, none⟩ = some (.int .u8 (bs.getD i 0))) :
    Calls Try.prog 19 #[.slice (some ⟨b, off, none⟩) n cap] w fun e w' => e = .returned (.tuple #[.int .i64 (decN bs), .bool (decOk bs)]) ∧ w' = w := by
  have h0 : ((n : Int) == 0) = false := beq_eq_false_iff_ne.2 (by omega)
  have g9 : ¬ (9 : Int) < (n : Int) := by omega
  go_enter Try.func19, Try.ntmps19
  go_wp2
  go_loop [4, 17] (fun v i => ∃ (k : Nat) (V : Int), k ≤ n ∧ i = .int .i64 k ∧ v = .int .i64 V ∧ 0 ≤ V ∧ V < 1000000000 ∧ Hid (allDig (bs.take k) = true ∧ V = val (bs.take k)))
    (fun _ i => n - (intOf i).toNat)
  case atStart => exact ⟨0, 0, Nat.zero_le _, rfl, rfl, by omega, by omega, ⟨rfl, rfl⟩⟩
  case round =>
    obtain ⟨k, V, hk, rfl, rfl, hV0, hV9, HV⟩ := hrel
    by_cases hlt : k < n
    · obtain ⟨c, hcv⟩ : ∃ c, c = bs.getD k 0 := ⟨_, rfl⟩
      have hcell : w.cell? ⟨b, off + k, none⟩ = some (.int .u8 c) := by rw [hcv]; exact hc k hlt
      have hcb := hbyte k hlt
      rw [← hcv] at hcb
      obtain ⟨hc0, hc255⟩ := hcb
      have HC : Hid (c = bs.getD k 0) := hcv
      clear hcv hc hbyte
      by_cases hd : 48 ≤ c ∧ c ≤ 57
      · obtain ⟨hd1, hd2⟩ := hd
        have S := dig_step bs k (by omega) c HC.out hd1 hd2 HV.out.1
        have bd := val_bound _ S.1
        have pw := pow10_le (k + 1) (by omega)
        have hle : (bs.take (k + 1)).length = k + 1 := by simp; omega
        rw [hle, S.2, ← HV.out.2] at bd
        have bd1 : 0 ≤ 10 * V + (c - 48) := bd.1
        have bd2 : 10 * V + (c - 48) < 1000000000 := by omega
        have HS : Hid (allDig (bs.take (k + 1)) = true ∧ 10 * V + (c - 48) = val (bs.take (k + 1))) := ⟨S.1, by rw [S.2, HV.out.2]⟩
        clear S bd pw hle
        go_wp2
        go_round
        case rel => exact ⟨k + 1, 10 * V + (c - 48), by omega, by go_num, by go_num, bd1, bd2, HS⟩
        case measure => simp [intOf]; omega
      · have hno := ok_of_bad bs k (by omega) (by rw [← HC.out]; exact hd)
        have hno2 := dec_no bs hno
        have HN : Hid (decN bs = 0 ∧ decOk bs = false) := ⟨hno2, hno⟩
        clear hno hno2
        by_cases hl : c < 48
        · go_wp2
          go_ret2
          exact ⟨ret_dec HN.out.1.symm HN.out.2.symm, rfl⟩
        · have hg : 57 < c := by omega
          go_wp2
          go_ret2
          exact ⟨ret_dec HN.out.1.symm HN.out.2.symm, rfl⟩
    · have e : bs.take k = bs := List.take_of_length_le (by omega)
      have HE : Hid (V = decN bs ∧ true = decOk bs) := by
        have h := HV.out
        rw [e] at h
        have y := dec_yes bs (by omega) (by omega) h.1
        exact ⟨by rw [y.2]; exact h.2, y.1.symm⟩
      clear e HV
      go_wp2
      go_ret2
      exact ⟨ret_dec HE.out.1 HE.out.2, rfl⟩

/-- 'decimal' at a row that the call owns. -/
theorem decimal_owned (base : Nat) (v : Value) (n : Nat) (bs : List Int) (w : World) (ho : w.ownsRow base 5 1 v n (bs.map (Value.int .u8))) (hm : n ≤ maxLen)
    (hbyte : ∀ c ∈ bs, 0 ≤ c ∧ c ≤ 255) :
    Calls Try.prog 19 #[v] w fun e w' => e = .returned (.tuple #[.int .i64 (decN bs), .bool (decOk bs)]) ∧ w' = w := by
  have hlen : bs.length = n := by have := ho.1; simpa using this
  by_cases hl : n = 0 ∨ 9 < n
  · have hno := ok_of_len bs (by omega)
    rw [dec_no bs hno, hno]
    rcases ho.2 with ⟨rfl, _⟩ | ⟨g, cap, cur, rfl, _⟩
    · exact decimal_len _ _ _ _ (Or.inl rfl) (by simp [maxLen])
    · exact decimal_len _ _ _ _ hl hm
  · rcases ho.2 with ⟨rfl, h0⟩ | ⟨g, cap, cur, rfl, _⟩
    · exact absurd (Or.inl h0) hl
    · refine decimal_cells g 0 n cap bs w hlen (by omega) (by omega) (fun i hi => hbyte _ (by simp [List.getD, show i < bs.length by omega])) (fun i hi => ?_)
      have := ho.cellAt i (by omega)
      rw [Nat.zero_add, this]
      simp [List.getD, show i < bs.length by omega]

theorem ZZdecimal_owned (base : Nat) (v : Value) (n : Nat) (bs : List Int) (w : World) (ho : w.ownsRow base 5 1 v n (bs.map (Value.int .u8))) (hm : n ≤ maxLen)
    (hbyte : ∀ c ∈ bs, 0 ≤ c ∧ c ≤ 255) :
    Calls Try.prog 11 #[v] w fun e w' => e = .returned (.tuple #[.int .i64 (decN bs), .bool (decOk bs)]) ∧ w' = w := by
  have H := decimal_owned base v n bs w ho hm hbyte
  go_enter Try.func11, Try.ntmps11
  go_wp2_with (go_at_call 19; refine H.mono ?_; rintro e w' ⟨rfl, rfl⟩)
  go_ret2
  exact ⟨rfl, rfl⟩

end Go.Proofs.Qxb6600336a
