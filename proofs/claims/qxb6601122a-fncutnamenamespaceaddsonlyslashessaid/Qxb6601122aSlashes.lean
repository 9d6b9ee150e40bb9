/-
  SEAT b6601122a: THE WALK OF 'FnCutNameNamespaceAddsOnlySlashes' (4).
-/
import Derived.Test.Qxb6601122aCut
namespace Go.Proofs.Qxb6601122a.fnCutNameNamespaceAddsOnlySlashes
open Go.ChangeShapes Go.WideShapes Go.ChangeAt Go.RowKit
set_option linter.unusedVariables false

theorem bt_left (s : ByteArray) (k j : Nat) (hk : k ≤ s.size) (hj : j < k) : bt (s.extract 0 k) j = bt s j := by
  unfold bt
  rw [Lib.extract_data]
  simp [List.getD, hj]

theorem nb_false_true {c : Int} (h : nb false c = true) : nb true c = true ∧ c ≠ 47 := by
  have := (nb_iff false c).1 h
  simp at this
  refine ⟨(nb_iff true c).2 (by simp; omega), by omega⟩

theorem nb_true_false {c : Int} (h : nb true c = true) (h47 : c ≠ 47) : nb false c = true := by
  have := (nb_iff true c).1 h
  refine (nb_iff false c).2 ?_
  simp at this ⊢
  omega

/-- THE PLAIN LAW: the first slash of the namespace name stands where the plain name ends. -/
theorem same_cut (s : ByteArray) (k0 k1 kk : Nat) (h0s : k0 ≤ s.size) (h1s : k1 ≤ s.size) (hkk : kk ≤ k1)
    (h0 : (∀ j, j < k0 → nb false (bt s j) = true) ∧ (k0 < s.size → nb false (bt s k0) = false)) (h1 : (∀ j, j < k1 → nb true (bt s j) = true) ∧ (k1 < s.size → nb true (bt s k1) = false))
    (hl : ∀ j, j < kk → bt s j ≠ 47) (he : kk = k1 ∨ bt s kk = 47) : kk = k0 := by
  by_cases a : k0 < kk
  · have := h0.2 (by omega)
    rw [nb_true_false (h1.1 k0 (by omega)) (hl k0 a)] at this
    cases this
  by_cases b : kk < k0
  · have h := nb_false_true (h0.1 kk b)
    rcases he with rfl | he
    · have := h1.2 (by omega)
      rw [h.1] at this
      cases this
    · exact absurd he h.2
  omega

theorem le_cut (s : ByteArray) (k0 k1 : Nat) (h0s : k0 ≤ s.size) (h1s : k1 ≤ s.size)
    (h0 : (∀ j, j < k0 → nb false (bt s j) = true) ∧ (k0 < s.size → nb false (bt s k0) = false)) (h1 : (∀ j, j < k1 → nb true (bt s j) = true) ∧ (k1 < s.size → nb true (bt s k1) = false)) : k0 ≤ k1 := by
  by_cases a : k1 < k0
  · have := h1.2 (by omega)
    rw [(nb_false_true (h0.1 k1 a)).1] at this
    cases this
  · omega

theorem extract_cut (s : ByteArray) (k0 k1 : Nat) (h : k0 ≤ k1) : (s.extract 0 k1).extract 0 k0 = s.extract 0 k0 := by
  apply ByteArray.ext
  apply Array.ext'
  rw [Lib.extract_data, Lib.extract_data, Lib.extract_data]
  simp only [Nat.sub_zero, List.drop_zero, List.take_take]
  congr 1; omega

set_option maxHeartbeats 1600000 in
theorem walk_in (s : ByteArray) (w : World) (hs : s.size ≤ 1048576) :
    Calls Try.prog 4 #[.string s] w fun e w' => e = .returned (.bool true) ∧ Below w.heap.size w w' := by
  have H0 := ZZcut_any s false w hs
  have H1 : Hid _ := fun W => ZZcut_any s true W hs
  go_enter Try.func4, Try.ntmps4
  go_wp2_with (go_at_call 9; go_in)
  refine H0.mono ?_
  rintro e W1 ⟨k0, hk0, rfl, HN0, hB1⟩
  clear H0
  go_wp2_with fail
  refine (H1.out W1).mono ?_
  rintro e W2 ⟨k1, hk1, rfl, HN1, hB2⟩
  clear H1
  have hB : Below w.heap.size w W2 := hB1.trans (hB2.mono hB1.size)
  clear hB1 hB2
  have hP0 : (s.extract 0 k0).size = k0 := by simp; omega
  have hP1 : (s.extract 0 k1).size = k1 := by simp; omega
  have hle := le_cut s k0 k1 hk0 hk1 HN0.out HN1.out
  have hex := extract_cut s k0 k1 hle
  have hbt : ∀ j, j < k1 → bt (s.extract 0 k1) j = bt s j := fun j hj => bt_left s k1 j hk1 hj
  obtain ⟨P0, hPd⟩ : ∃ P0, P0 = s.extract 0 k0 := ⟨_, rfl⟩
  obtain ⟨P1, hPe⟩ : ∃ P1, P1 = s.extract 0 k1 := ⟨_, rfl⟩
  rw [← hPd] at hP0 hex ⊢
  rw [← hPe] at hP1 hex hbt ⊢
  have HP0 : Hid (P0.size = k0) := hP0
  have HEX : Hid (P1.extract 0 k0 = P0) := hex
  have HBT : Hid (∀ j, j < k1 → bt P1 j = bt s j) := hbt
  clear hP0 hex hbt hPd hPe
  subst hP1
  go_wp2
  go_loop [7] (fun t => ∃ k : Nat, k ≤ P1.size ∧ t = .int .i64 k ∧ Hid (∀ j, j < k → bt s j ≠ 47)) (fun t => P1.size - (intOf t).toNat)
  case atStart => exact ⟨0, Nat.zero_le _, rfl, fun j hj => absurd hj (by omega)⟩
  case round =>
    obtain ⟨k, hk, rfl, HK⟩ := hrel
    by_cases hlt : k < P1.size
    · have hb := (bt_get P1 k hlt).trans (HBT.out k hlt)
      by_cases h47 : bt s k = 47
      · obtain rfl : k = k0 := same_cut s k0 P1.size k hk0 hk1 hk HN0.out HN1.out HK.out (Or.inr h47)
        have t1 : ((P1[k].toNat : Int) != 47) = false := by rw [hb, h47]; rfl
        clear hb h47
        have hsz := HP0.out
        have hex := HEX.out
        go_wp2
        go_ret
        exact ⟨by simp, hB⟩
      · have t1 : ((P1[k].toNat : Int) != 47) = true := by rw [hb]; simpa using h47
        have HK' : Hid (∀ j, j < k + 1 → bt s j ≠ 47) := fun j hj => by
          by_cases e : j = k
          · subst e; exact h47
          · exact HK.out j (by omega)
        clear hb h47
        go_wp2
        go_round
        case rel => exact ⟨k + 1, by omega, by go_num, HK'⟩
        case measure => simp [intOf]; omega
    · obtain rfl : k = k0 := same_cut s k0 P1.size k hk0 hk1 hk HN0.out HN1.out HK.out (Or.inl (by omega))
      have hsz := HP0.out
      have hex := HEX.out
      go_wp2
      go_ret
      exact ⟨by simp, hB⟩

theorem walk (a0 : ByteArray) (w : World) (hmax : a0.size ≤ maxLen) :
    Calls Try.prog 4 #[.string a0] w fun e w' => e = .returned (.bool true) ∧ Below w.heap.size w w' := by
  unfold maxLen at hmax
  by_cases h : 1048576 < a0.size
  · go_enter Try.func4, Try.ntmps4
    go_wp2
    go_ret
    exact ⟨rfl, Below.refl _ _⟩
  · exact walk_in a0 w (by omega)

end Go.Proofs.Qxb6601122a.fnCutNameNamespaceAddsOnlySlashes
