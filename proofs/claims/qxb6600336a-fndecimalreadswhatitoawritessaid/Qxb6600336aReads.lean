/-
  SEAT b6600336a: THE WALK OF 'FnDecimalReadsWhatItoaWrites' (4).
-/
import Derived.Test.Qxb6600336aItoa
namespace Go.Proofs.Qxb6600336a.fnDecimalReadsWhatItoaWrites
open Go.ChangeShapes Go.WideShapes Go.ChangeAt Go.RowKit
set_option linter.unusedVariables false

/-- The zeros laid, the text is read: what holds of the law's two answers. -/
theorem final_short (n z : Nat) (h63 : n ≤ 9223372036854775807) (hl : z + (itoa n).length ≤ 9) : decOk (List.replicate z 48 ++ itoa n) = true ∧ decN (List.replicate z 48 ++ itoa n) = n := by
  have ha : allDig (List.replicate z 48 ++ itoa n) = true := by rw [allDig_append, allDig_zeros, itoa_dig]; rfl
  have h1 := (itoa_len n).1
  have y := dec_yes (List.replicate z 48 ++ itoa n) (by simp; omega) (by simp; omega) ha
  refine ⟨y.1, ?_⟩
  rw [y.2, val_zeros, itoa_val n (Nat.lt_of_le_of_lt h63 (by decide))]

theorem final_long (n z : Nat) (hl : ¬ z + (itoa n).length ≤ 9) : decOk (List.replicate z 48 ++ itoa n) = false ∧ decN (List.replicate z 48 ++ itoa n) = 0 := by
  have h := ok_of_len (List.replicate z 48 ++ itoa n) (Or.inr (by simp; omega))
  exact ⟨h, dec_no _ h⟩

theorem byte_of_dig (bs : List Int) (h : allDig bs = true) : ∀ c ∈ bs, 0 ≤ c ∧ c ≤ 255 := by
  intro c hc
  have := (isDig_iff c).1 (List.all_eq_true.1 h c hc)
  omega

set_option maxHeartbeats 1600000 in
theorem walk_in (n z : Nat) (h63 : n ≤ 9223372036854775807) (hz : z ≤ 4096) (w : World) :
    Calls Try.prog 4 #[.int .i64 n, .int .i64 z] w fun e w' => e = .returned (.bool true) ∧ Below w.heap.size w w' := by
  obtain ⟨i0, hi, hz0, hz1, hz2⟩ := info_parts Try.info5
  go_enter Try.func4, Try.ntmps4
  go_wp2_with (at_make; refine wpList_make_own _ rfl _ _ 22 rfl w.heap.size 5 i0 (.int .u8 0) 1 Try.underlying22 hi hz0 hz1 _ _ _ (z + 24) rfl rfl (by omega) ?b2 ?b3 (Nat.le_refl _) ?_)
  case b2 => rw [hz2]; omega
  case b3 => unfold maxLen; omega
  intro w0 hown0 hgrow0
  go_wp2
  go_loopw [5, 6] (fun t i wr => ∃ k : Nat, k ≤ z ∧ i = .int .i64 k ∧ t = .slice (some ⟨w.heap.size, 0, none⟩) k (z + 24) ∧
      wr.ownsRow w.heap.size 5 1 (.slice (some ⟨w.heap.size, 0, none⟩) k (z + 24)) k ((List.replicate k (48 : Int)).map (Value.int .u8)) ∧ Below w.heap.size w wr)
    (fun _ i _ => z - (intOf i).toNat)
  case atStart => exact ⟨0, Nat.zero_le _, rfl, rfl, hown0, (Below.refl _ _).grown hgrow0 (Nat.le_refl _) (fun k h => by cases h)⟩
  case round =>
    obtain ⟨k, hk, rfl, rfl, hown, hnx⟩ := hrel
    by_cases hlt : k < z
    · go_wp2_with (at_builtin; refine wpList_append_fits _ rfl _ _ 22 rfl w.heap.size 5 i0 1 Try.underlying22 hi hz1 w.heap.size k (z + 24) ((List.replicate k (48 : Int)).map (Value.int .u8)) rfl (hown.alloc _) ⟨wr.heap.size, 0, none⟩ 1 1 [.int .u8 48] rfl rfl ?c1 ?c2 ?c3 ?_)
      case c1 =>
        intro j u hj
        match j, hj with
        | 0, hj => simp at hj; subst hj; simp [Addr.add]
      case c2 => intro u hu; simp at hu; subst hu; rfl
      case c3 => omega
      intro w1 hown1 hgrow1
      have R : w1.ownsRow w.heap.size 5 1 (.slice (some ⟨w.heap.size, 0, none⟩) (k + 1) (z + 24)) (k + 1) ((List.replicate (k + 1) (48 : Int)).map (Value.int .u8)) := by
        rw [List.map_replicate, List.replicate_succ']; exact hown1
      have hB : Below w.heap.size w w1 := (hnx.alloc hnx.size _).grown hgrow1 (by simp; have := hnx.size; omega) (fun k hk => by cases hk; exact Nat.le_refl _)
      clear hown1 hgrow1 hown hnx
      go_wp2
      go_roundw
      case rel => exact ⟨k + 1, by omega, by go_num, rfl, R, hB⟩
      case measure => simp [intOf]; omega
    · have hkz : k = z := by omega
      subst hkz
      go_wp2_with fail
      refine (itoa_any w.heap.size w.heap.size k (k + 24) (List.replicate k 48) n wr hown (by omega) h63).mono ?_
      rintro e w1 ⟨rfl, hown1, hgrow1⟩
      have hlen := itoa_len n
      have hda : allDig (List.replicate k 48 ++ itoa n) = true := by rw [allDig_append, allDig_zeros, itoa_dig]; rfl
      have hB : Below w.heap.size w w1 := hnx.grown hgrow1 hnx.size (fun k hk => by cases hk; exact Nat.le_refl _)
      have H := ZZdecimal_owned w.heap.size (.slice (some ⟨w.heap.size, 0, none⟩) (k + (itoa n).length) (k + 24)) _ _ w1 hown1 (by unfold maxLen; omega) (byte_of_dig _ hda)
      have fs := final_short n k h63
      have fl := final_long n k
      generalize decN (List.replicate k 48 ++ itoa n) = N at H fs fl
      generalize decOk (List.replicate k 48 ++ itoa n) = O at H fs fl
      generalize (itoa n).length = L at *
      clear hda hown1 hgrow1 hown hnx hown0 hgrow0
      by_cases hL : k + L ≤ 9
      · obtain ⟨rfl, rfl⟩ := fs hL
        clear fs fl
        go_wp2_with fail
        refine H.mono ?_
        rintro e w' ⟨rfl, rfl⟩
        clear H
        go_wp2
        go_ret
        exact ⟨by simp, hB⟩
      · obtain ⟨rfl, rfl⟩ := fl hL
        clear fs fl
        go_wp2_with fail
        refine H.mono ?_
        rintro e w' ⟨rfl, rfl⟩
        clear H
        go_wp2
        go_ret
        exact ⟨by simp, hB⟩

theorem walk (a0 : Int) (a1 : Int) (w0 : (Lit.int .i64 a0).wf = true) (w1 : (Lit.int .i64 a1).wf = true) (w : World) :
    Calls Try.prog 4 #[.int .i64 a0, .int .i64 a1] w fun e w' => e = .returned (.bool true) ∧ Below w.heap.size w w' := by
  by_cases h0 : a0 < 0
  · go_enter Try.func4, Try.ntmps4
    go_wp2
    go_ret
    exact ⟨rfl, Below.refl _ _⟩
  by_cases h1 : a1 < 0
  · go_enter Try.func4, Try.ntmps4
    go_wp2
    go_ret
    exact ⟨rfl, Below.refl _ _⟩
  by_cases h2 : 4096 < a1
  · go_enter Try.func4, Try.ntmps4
    go_wp2
    go_ret
    exact ⟨rfl, Below.refl _ _⟩
  have bd := bounds_i64 w0
  obtain ⟨n, rfl⟩ := Int.eq_ofNat_of_zero_le (show 0 ≤ a0 by omega)
  obtain ⟨z, rfl⟩ := Int.eq_ofNat_of_zero_le (show 0 ≤ a1 by omega)
  exact walk_in n z (by omega) (by omega) w

end Go.Proofs.Qxb6600336a.fnDecimalReadsWhatItoaWrites
