/-
  SEAT b6600336aD: THE CONTRACTS OF 'hexDigit' (14), 'equalBytes' (11) AND 'escapeAll' (10).
-/
import Derived.Test.Qxb6600336aDoorUndoPlain
import Derived.Deep.QuietTactic
import Derived.BigQuiet
namespace Go.Proofs.Qxb6600336aDoor
open Go.ChangeShapes Go.WideShapes Go.ChangeAt Go.RowKit
set_option linter.unusedVariables false

theorem hexDigit_any (v : Int) (up : Bool) (h0 : 0 ≤ v) (h1 : v ≤ 15) (w : World) :
    Calls Tryd.prog 14 #[.int .u8 v, .bool up] w fun e w' => e = .returned (.int .u8 (hexD v up)) ∧ w' = w := by
  by_cases h : v < 10
  · have e : hexD v up = 48 + v := if_pos h
    rw [e]
    go_enter Tryd.func14, Tryd.ntmps14
    go_wp2
    go_ret
    exact ⟨rfl, rfl⟩
  · cases up
    · have e : hexD v false = 97 + v - 10 := by rw [hexD, if_neg h]; rfl
      rw [e]
      go_enter Tryd.func14, Tryd.ntmps14
      go_wp2
      go_ret
      exact ⟨rfl, rfl⟩
    · have e : hexD v true = 65 + v - 10 := by rw [hexD, if_neg h]; rfl
      rw [e]
      go_enter Tryd.func14, Tryd.ntmps14
      go_wp2
      go_ret
      exact ⟨rfl, rfl⟩

set_option maxHeartbeats 1600000 in
/-- Two slices with the same bytes. -/
theorem equal_any (a1 a2 : Option Addr) (n c1 c2 : Nat) (bs : List Int) (w : World) (hn : n ≤ 1048576)
    (h1 : ∀ k, k < n → ∃ g, a1 = some ⟨g, 0, none⟩ ∧ w.cell? ⟨g, k, none⟩ = some (.int .u8 (bs.getD k 0)))
    (h2 : ∀ k, k < n → ∃ g, a2 = some ⟨g, 0, none⟩ ∧ w.cell? ⟨g, k, none⟩ = some (.int .u8 (bs.getD k 0))) :
    Calls Tryd.prog 11 #[.slice a1 n c1, .slice a2 n c2] w fun e w' => e = .returned (.bool true) ∧ Below w.heap.size w w' := by
  have H1 : Hid _ := h1
  have H2 : Hid _ := h2
  clear h1 h2
  go_enter Tryd.func11, Tryd.ntmps11
  go_wp2
  go_loopw [5] (fun t wr => ∃ k : Nat, k ≤ n ∧ t = .int .i64 k ∧ Hid (∀ p, wr.cell? p = w.cell? p) ∧ Below w.heap.size w wr)
    (fun t _ => n - (intOf t).toNat)
  case atStart => exact ⟨0, Nat.zero_le _, rfl, fun _ => rfl, Below.refl _ _⟩
  case round =>
    obtain ⟨k, hk, rfl, HP, hBr⟩ := hrel
    by_cases hlt : k < n
    · obtain ⟨g1, rfl, hc1⟩ := H1.out k hlt
      obtain ⟨g2, rfl, hc2⟩ := H2.out k hlt
      rw [← HP.out] at hc1 hc2
      generalize bs.getD k 0 = x at hc1 hc2
      have hi2 : (k : Int) < (n : Int) := by omega
      go_wp2
      go_quiet (fail)
      go_wp2
      go_roundw
      case rel => exact ⟨k + 1, by omega, by go_num, fun p => HP.out p, below_drewN hBr _⟩
      case measure => simp [intOf]; omega
    · go_wp2
      go_ret
      exact ⟨rfl, hBr⟩

theorem take_snoc' (bs : List Int) (k : Nat) (h : k < bs.length) : bs.take (k + 1) = bs.take k ++ [bs.getD k 0] := by
  rw [List.take_succ_eq_append_getElem h]; simp [List.getD, h]

/-- One more byte written. -/
theorem enc_step {bs : List Int} {k : Nat} {fs : List (Bool × Bool)} (hk : k < bs.length) (hf : fs.length = k) (b : Int) (hb : b = bs.getD k 0) (f : Bool × Bool) :
    encAll (bs.take (k + 1)) (fs ++ [f]) = encAll (bs.take k) fs ++ enc b f := by
  rw [take_snoc' bs k hk, ← hb]
  exact encAll_snoc _ _ _ _ (by simp; omega)

theorem hexDigit_ex (v : Int) (up : Bool) (h0 : 0 ≤ v) (h1 : v ≤ 15) (w : World) :
    Calls Tryd.prog 14 #[.int .u8 v, .bool up] w fun e w' => ∃ X, e = .returned (.int .u8 X) ∧ Hid (∃ up', X = hexD v up') ∧ w = w' := by
  refine (hexDigit_any v up h0 h1 w).mono ?_
  rintro e w' ⟨rfl, rfl⟩
  exact ⟨_, rfl, ⟨up, rfl⟩, rfl⟩

theorem three_new (w : World) (x y z : Value) : ∀ j u, ([x, y, z] : List Value)[j]? = some u → (w.alloc (.cells #[x, y, z] 5)).cell? ((⟨w.heap.size, 0, none⟩ : Addr).add j) = some u := by
  intro j u hj
  match j, hj with
  | 0, hj => simp at hj; subst hj; simp [Addr.add]
  | 1, hj => simp at hj; subst hj; simp [Addr.add]
  | 2, hj => simp at hj; subst hj; simp [Addr.add]
  | j + 3, hj => simp at hj

theorem three_one (x y z : Int) : ∀ u ∈ ([.int .u8 x, .int .u8 y, .int .u8 z] : List Value), u.oneCell' = true := by
  intro u hu
  simp at hu
  rcases hu with rfl | rfl | rfl <;> rfl

theorem step_rel {bs : List Int} {k N m C B : Nat} {fs : List (Bool × Bool)} {b : Int} {w1 : World} {news : List Value} (hk : k < bs.length) (hf : fs.length = k ∧ N = (encAll (bs.take k) fs).length) (hb : b = bs.getD k 0) (f : Bool × Bool) (ds : List Int) (he : enc b f = ds)
    (ho : w1.ownsRow B 5 1 (.slice (some ⟨B, 0, none⟩) (N + m) C) (N + m) ((encAll (bs.take k) fs).map (Value.int .u8) ++ news)) (hnews : news = ds.map (Value.int .u8)) :
    (fs ++ [f]).length = k + 1 ∧ N + m = (encAll (bs.take (k + 1)) (fs ++ [f])).length ∧ w1.ownsRow B 5 1 (.slice (some ⟨B, 0, none⟩) (N + m) C) (N + m) ((encAll (bs.take (k + 1)) (fs ++ [f])).map (Value.int .u8)) := by
  rw [enc_step hk hf.1 b hb f, he, List.map_append, ← hnews]
  have hl : news.length = m := by have := ho.1; simp at this; omega
  refine ⟨by simp [hf.1], ?_, ho⟩
  rw [List.length_append, ← hf.2]
  rw [hnews] at hl
  simp at hl
  omega

set_option maxHeartbeats 12800000 in
set_option maxRecDepth 100000 in
theorem escapeAll_any (a : Option Addr) (n cap : Nat) (bs : List Int) (mask : Int) (w : World) (hn : n ≤ 65536) (hbl : bs.length = n) (hmask : (Lit.int .u64 mask).wf = true)
    (hd : ∀ k, k < n → ∃ g, a = some ⟨g, 0, none⟩ ∧ w.cell? ⟨g, k, none⟩ = some (.int .u8 (bs.getD k 0))) (hby : ∀ k, k < n → 0 ≤ bs.getD k 0 ∧ bs.getD k 0 ≤ 255) :
    Calls Tryd.prog 10 #[.slice a n cap, .int .u64 mask] w fun e w' => ∃ fs : List (Bool × Bool), fs.length = n ∧ e = .returned (.slice (some ⟨w.heap.size, 0, none⟩) (encAll bs fs).length (3 * n)) ∧
      w'.ownsRow w.heap.size 5 1 (.slice (some ⟨w.heap.size, 0, none⟩) (encAll bs fs).length (3 * n)) (encAll bs fs).length ((encAll bs fs).map (Value.int .u8)) ∧ Below w.heap.size w w' := by
  obtain ⟨i0, hi, hz0, hz1, hz2⟩ := info_parts Tryd.info5
  have HD : Hid _ := hd
  have HBY : Hid _ := hby
  clear hd hby
  have bm := bounds_u64 hmask
  obtain ⟨bm0, bm1⟩ := bm
  go_enter Tryd.func10, Tryd.ntmps10
  go_wp2_with (at_make; refine wpList_make_own _ rfl _ _ 22 rfl w.heap.size 5 i0 (.int .u8 0) 1 Tryd.underlying22 hi hz0 hz1 _ _ _ (3 * n) rfl rfl (by omega) ?b2 ?b3 (Nat.le_refl _) ?_)
  case b2 => rw [hz2]; omega
  case b3 => unfold maxLen; omega
  intro w0 hown0 hgrow0
  go_wp2
  go_loopw [5, 6, 7] (fun t h i wr => ∃ (k N : Nat) (hc : Int) (fs : List (Bool × Bool)), k ≤ n ∧ N ≤ 3 * k ∧ 0 ≤ hc ∧ hc ≤ 2 * k ∧ i = .int .i64 k ∧ h = .int .u64 hc ∧ t = .slice (some ⟨w.heap.size, 0, none⟩) N (3 * n) ∧ Hid (fs.length = k ∧ N = (encAll (bs.take k) fs).length) ∧
      wr.ownsRow w.heap.size 5 1 (.slice (some ⟨w.heap.size, 0, none⟩) N (3 * n)) N ((encAll (bs.take k) fs).map (Value.int .u8)) ∧ Below w.heap.size w wr)
    (fun _ _ i _ => n - (intOf i).toNat)
  case atStart => exact ⟨0, 0, 0, [], Nat.zero_le _, Nat.zero_le _, by omega, by omega, rfl, rfl, rfl, ⟨rfl, by simp [encAll]⟩, by simpa [encAll] using hown0, (Below.refl _ _).grown hgrow0 (Nat.le_refl _) (fun k h => by cases h)⟩
  case round =>
    obtain ⟨k, N, hc, fs, hk, hN, hc0, hc1, rfl, rfl, rfl, HF, hown, hBr⟩ := hrel
    by_cases hlt : k < n
    · obtain ⟨gd, rfl, hcell⟩ := HD.out k hlt
      obtain ⟨hb0, hb1⟩ := HBY.out k hlt
      rw [← hBr.cell (lt_of_cell' hcell)] at hcell
      obtain ⟨b, hbv⟩ : ∃ b, b = bs.getD k 0 := ⟨_, rfl⟩
      rw [← hbv] at hcell hb0 hb1
      have HB : Hid (b = bs.getD k 0) := hbv
      clear hbv
      have hi2 : (k : Int) < (n : Int) := by omega
      have hs := hBr.size
      have hlt' : k < bs.length := by omega
      by_cases h10 : b = 10
      · have e10 : (b == 10) = true := beq_iff_eq.2 h10
        have HE : Hid (enc b (false, false) = [110]) := by rw [h10]; rfl
        clear h10
        go_wp2_with (at_builtin; refine wpList_append_fits _ rfl _ _ 22 rfl w.heap.size 5 i0 1 Tryd.underlying22 hi hz1 w.heap.size N (3 * n) ((encAll (bs.take k) fs).map (Value.int .u8)) rfl (hown.alloc _) ⟨wr.heap.size, 0, none⟩ 1 1 [.int .u8 110] rfl rfl (one_new _ _) ?c210 ?c310 ?_)
        case c210 => first | rfl | (intro u hu; simp at hu; subst hu; rfl)
        case c310 => omega
        intro w1 hown1 hgrow1
        have R := step_rel hlt' HF.out HB.out (false, false) [110] HE hown1 rfl
        have hB1 : Below w.heap.size w w1 := (hBr.alloc hBr.size _).grown hgrow1 (by simp; omega) (fun k hk => by cases hk; exact Nat.le_refl _)
        obtain ⟨R1, R2, R3⟩ := R
        have HF' : Hid (_ ∧ _) := ⟨R1, R2⟩
        clear hown1 hgrow1 hown HF R1 R2 hBr
        go_wp2
        go_roundw
        case rel => exact ⟨k + 1, N + 1, hc, fs ++ [(false, false)], by omega, by omega, by omega, by omega, by go_num, rfl, rfl, HF', R3, hB1⟩
        case measure => simp [intOf]; omega
      have e10 : (b == 10) = false := beq_eq_false_iff_ne.2 h10
      by_cases h13 : b = 13
      · have e13 : (b == 13) = true := beq_iff_eq.2 h13
        have HE : Hid (enc b (false, false) = [114]) := by rw [h13]; rfl
        clear h13
        go_wp2_with (at_builtin; refine wpList_append_fits _ rfl _ _ 22 rfl w.heap.size 5 i0 1 Tryd.underlying22 hi hz1 w.heap.size N (3 * n) ((encAll (bs.take k) fs).map (Value.int .u8)) rfl (hown.alloc _) ⟨wr.heap.size, 0, none⟩ 1 1 [.int .u8 114] rfl rfl (one_new _ _) ?c213 ?c313 ?_)
        case c213 => first | rfl | (intro u hu; simp at hu; subst hu; rfl)
        case c313 => omega
        intro w1 hown1 hgrow1
        have R := step_rel hlt' HF.out HB.out (false, false) [114] HE hown1 rfl
        have hB1 : Below w.heap.size w w1 := (hBr.alloc hBr.size _).grown hgrow1 (by simp; omega) (fun k hk => by cases hk; exact Nat.le_refl _)
        obtain ⟨R1, R2, R3⟩ := R
        have HF' : Hid (_ ∧ _) := ⟨R1, R2⟩
        clear hown1 hgrow1 hown HF R1 R2 hBr
        go_wp2
        go_roundw
        case rel => exact ⟨k + 1, N + 1, hc, fs ++ [(false, false)], by omega, by omega, by omega, by omega, by go_num, rfl, rfl, HF', R3, hB1⟩
        case measure => simp [intOf]; omega
      have e13 : (b == 13) = false := beq_eq_false_iff_ne.2 h13
      by_cases h9 : b = 9
      · have e9 : (b == 9) = true := beq_iff_eq.2 h9
        have HE : Hid (enc b (false, false) = [116]) := by rw [h9]; rfl
        clear h9
        go_wp2_with (at_builtin; refine wpList_append_fits _ rfl _ _ 22 rfl w.heap.size 5 i0 1 Tryd.underlying22 hi hz1 w.heap.size N (3 * n) ((encAll (bs.take k) fs).map (Value.int .u8)) rfl (hown.alloc _) ⟨wr.heap.size, 0, none⟩ 1 1 [.int .u8 116] rfl rfl (one_new _ _) ?c29 ?c39 ?_)
        case c29 => first | rfl | (intro u hu; simp at hu; subst hu; rfl)
        case c39 => omega
        intro w1 hown1 hgrow1
        have R := step_rel hlt' HF.out HB.out (false, false) [116] HE hown1 rfl
        have hB1 : Below w.heap.size w w1 := (hBr.alloc hBr.size _).grown hgrow1 (by simp; omega) (fun k hk => by cases hk; exact Nat.le_refl _)
        obtain ⟨R1, R2, R3⟩ := R
        have HF' : Hid (_ ∧ _) := ⟨R1, R2⟩
        clear hown1 hgrow1 hown HF R1 R2 hBr
        go_wp2
        go_roundw
        case rel => exact ⟨k + 1, N + 1, hc, fs ++ [(false, false)], by omega, by omega, by omega, by omega, by go_num, rfl, rfl, HF', R3, hB1⟩
        case measure => simp [intOf]; omega
      have e9 : (b == 9) = false := beq_eq_false_iff_ne.2 h9
      by_cases h8 : b = 8
      · have e8 : (b == 8) = true := beq_iff_eq.2 h8
        have HE : Hid (enc b (false, false) = [98]) := by rw [h8]; rfl
        clear h8
        go_wp2_with (at_builtin; refine wpList_append_fits _ rfl _ _ 22 rfl w.heap.size 5 i0 1 Tryd.underlying22 hi hz1 w.heap.size N (3 * n) ((encAll (bs.take k) fs).map (Value.int .u8)) rfl (hown.alloc _) ⟨wr.heap.size, 0, none⟩ 1 1 [.int .u8 98] rfl rfl (one_new _ _) ?c28 ?c38 ?_)
        case c28 => first | rfl | (intro u hu; simp at hu; subst hu; rfl)
        case c38 => omega
        intro w1 hown1 hgrow1
        have R := step_rel hlt' HF.out HB.out (false, false) [98] HE hown1 rfl
        have hB1 : Below w.heap.size w w1 := (hBr.alloc hBr.size _).grown hgrow1 (by simp; omega) (fun k hk => by cases hk; exact Nat.le_refl _)
        obtain ⟨R1, R2, R3⟩ := R
        have HF' : Hid (_ ∧ _) := ⟨R1, R2⟩
        clear hown1 hgrow1 hown HF R1 R2 hBr
        go_wp2
        go_roundw
        case rel => exact ⟨k + 1, N + 1, hc, fs ++ [(false, false)], by omega, by omega, by omega, by omega, by go_num, rfl, rfl, HF', R3, hB1⟩
        case measure => simp [intOf]; omega
      have e8 : (b == 8) = false := beq_eq_false_iff_ne.2 h8
      by_cases h7 : b = 7
      · have e7 : (b == 7) = true := beq_iff_eq.2 h7
        have HE : Hid (enc b (false, false) = [97]) := by rw [h7]; rfl
        clear h7
        go_wp2_with (at_builtin; refine wpList_append_fits _ rfl _ _ 22 rfl w.heap.size 5 i0 1 Tryd.underlying22 hi hz1 w.heap.size N (3 * n) ((encAll (bs.take k) fs).map (Value.int .u8)) rfl (hown.alloc _) ⟨wr.heap.size, 0, none⟩ 1 1 [.int .u8 97] rfl rfl (one_new _ _) ?c27 ?c37 ?_)
        case c27 => first | rfl | (intro u hu; simp at hu; subst hu; rfl)
        case c37 => omega
        intro w1 hown1 hgrow1
        have R := step_rel hlt' HF.out HB.out (false, false) [97] HE hown1 rfl
        have hB1 : Below w.heap.size w w1 := (hBr.alloc hBr.size _).grown hgrow1 (by simp; omega) (fun k hk => by cases hk; exact Nat.le_refl _)
        obtain ⟨R1, R2, R3⟩ := R
        have HF' : Hid (_ ∧ _) := ⟨R1, R2⟩
        clear hown1 hgrow1 hown HF R1 R2 hBr
        go_wp2
        go_roundw
        case rel => exact ⟨k + 1, N + 1, hc, fs ++ [(false, false)], by omega, by omega, by omega, by omega, by go_num, rfl, rfl, HF', R3, hB1⟩
        case measure => simp [intOf]; omega
      have e7 : (b == 7) = false := beq_eq_false_iff_ne.2 h7
      by_cases hw : wantsHex b = true
      · have hand : bits .and .u8 b 15 = b % 16 := and15 b hb0 hb1
        have HE : ∀ f : Bool × Bool, Hid (enc b f = [120, hexD (b / 16) f.1, hexD (b % 16) f.2]) := fun f => by
          show enc b f = _
          simp only [enc]; rw [if_neg h10, if_neg h13, if_neg h9, if_neg h8, if_neg h7, if_pos hw]
        have HE' : Hid (∀ f : Bool × Bool, enc b f = [120, hexD (b / 16) f.1, hexD (b % 16) f.2]) := fun f => (HE f).out
        clear h10 h13 h9 h8 h7 HE
        have hq : (b == 110) = true ∨ ((b == 110) = false ∧ (b == 114) = true) ∨ ((b == 110) = false ∧ (b == 114) = false ∧ (b == 116) = true) ∨ ((b == 110) = false ∧ (b == 114) = false ∧ (b == 116) = false ∧ (b == 98) = true) ∨
            ((b == 110) = false ∧ (b == 114) = false ∧ (b == 116) = false ∧ (b == 98) = false ∧ (b == 97) = true) ∨ ((b == 110) = false ∧ (b == 114) = false ∧ (b == 116) = false ∧ (b == 98) = false ∧ (b == 97) = false ∧ (b == 120) = true) ∨
            ((b == 110) = false ∧ (b == 114) = false ∧ (b == 116) = false ∧ (b == 98) = false ∧ (b == 97) = false ∧ (b == 120) = false ∧ b < 32) ∨ ((b == 110) = false ∧ (b == 114) = false ∧ (b == 116) = false ∧ (b == 98) = false ∧ (b == 97) = false ∧ (b == 120) = false ∧ ¬ b < 32 ∧ 127 ≤ b) := by
          simp only [wantsHex, Bool.or_eq_true, decide_eq_true_eq] at hw
          simp only [beq_iff_eq, beq_eq_false_iff_ne]
          omega
        clear hw
        rcases hq with q1 | ⟨q1, q2⟩ | ⟨q1, q2, q3⟩ | ⟨q1, q2, q3, q4⟩ | ⟨q1, q2, q3, q4, q5⟩ | ⟨q1, q2, q3, q4, q5, q6⟩ | ⟨q1, q2, q3, q4, q5, q6, q7⟩ | ⟨q1, q2, q3, q4, q5, q6, q7, q8⟩
        all_goals (
          go_wp2_with fail
          refine (hexDigit_ex (b / 16) _ (by omega) (by omega) _).mono ?_
          rintro e w' ⟨X, rfl, HX, rfl⟩
          go_wp2_with fail
          refine (hexDigit_ex (b % 16) _ (by omega) (by omega) _).mono ?_
          rintro e w' ⟨Y, rfl, HY, rfl⟩
          go_wp2_with (at_builtin; refine wpList_append_fits _ rfl _ _ 22 rfl w.heap.size 5 i0 1 Tryd.underlying22 hi hz1 w.heap.size N (3 * n) ((encAll (bs.take k) fs).map (Value.int .u8)) rfl (hown.alloc _) ⟨wr.heap.size, 0, none⟩ 3 3 [.int .u8 120, .int .u8 X, .int .u8 Y] rfl rfl (three_new _ _ _ _) (three_one _ _ _) (by omega) ?_)
          intro w1 hown1 hgrow1
          obtain ⟨up1, hX⟩ := HX.out
          obtain ⟨up2, hY⟩ := HY.out
          have R := step_rel hlt' HF.out HB.out (up1, up2) [120, X, Y] (by rw [HE'.out, hX, hY]) hown1 rfl
          have hB1 : Below w.heap.size w w1 := (hBr.alloc hBr.size _).grown hgrow1 (by simp; omega) (fun k hk => by cases hk; exact Nat.le_refl _)
          obtain ⟨R1, R2, R3⟩ := R
          have HF' : Hid (_ ∧ _) := ⟨R1, R2⟩
          clear hown1 hgrow1 hown HF R1 R2 hBr HX HY hX hY
          go_wp2
          go_roundw
          case rel => exact ⟨k + 1, N + 3, hc + 1 + 1, fs ++ [(up1, up2)], by omega, by omega, by omega, by omega, by go_num, by go_num, rfl, HF', R3, hB1⟩
          case measure => simp [intOf]; omega)
      · have HE : Hid (enc b (false, false) = [b]) := by
          show enc b (false, false) = _
          simp only [enc]; rw [if_neg h10, if_neg h13, if_neg h9, if_neg h8, if_neg h7, if_neg hw]
        simp only [wantsHex, Bool.or_eq_true, decide_eq_true_eq, not_or] at hw
        obtain ⟨⟨⟨⟨⟨⟨⟨n1, n2⟩, n3⟩, n4⟩, n5⟩, n6⟩, n7⟩, n8⟩ := hw
        have q1 : (b == 110) = false := beq_eq_false_iff_ne.2 n1
        have q2 : (b == 114) = false := beq_eq_false_iff_ne.2 n2
        have q3 : (b == 116) = false := beq_eq_false_iff_ne.2 n3
        have q4 : (b == 98) = false := beq_eq_false_iff_ne.2 n4
        have q5 : (b == 97) = false := beq_eq_false_iff_ne.2 n5
        have q6 : (b == 120) = false := beq_eq_false_iff_ne.2 n6
        clear h10 h13 h9 h8 h7 n1 n2 n3 n4 n5 n6
        go_wp2_with (at_builtin; refine wpList_append_fits _ rfl _ _ 22 rfl w.heap.size 5 i0 1 Tryd.underlying22 hi hz1 w.heap.size N (3 * n) ((encAll (bs.take k) fs).map (Value.int .u8)) rfl (hown.alloc _) ⟨wr.heap.size, 0, none⟩ 1 1 [.int .u8 b] rfl rfl (one_new _ _) ?c20 ?c30 ?_)
        case c20 => first | rfl | (intro u hu; simp at hu; subst hu; rfl)
        case c30 => omega
        intro w1 hown1 hgrow1
        have R := step_rel hlt' HF.out HB.out (false, false) [b] HE hown1 rfl
        have hB1 : Below w.heap.size w w1 := (hBr.alloc hBr.size _).grown hgrow1 (by simp; omega) (fun k hk => by cases hk; exact Nat.le_refl _)
        obtain ⟨R1, R2, R3⟩ := R
        have HF' : Hid (_ ∧ _) := ⟨R1, R2⟩
        clear hown1 hgrow1 hown HF R1 R2 hBr
        go_wp2
        go_roundw
        case rel => exact ⟨k + 1, N + 1, hc, fs ++ [(false, false)], by omega, by omega, by omega, by omega, by go_num, rfl, rfl, HF', R3, hB1⟩
        case measure => simp [intOf]; omega
    · have hkn : k = n := by omega
      subst hkn
      have hN' := HF.out.2
      rw [List.take_of_length_le (by omega)] at hN' hown
      have HNE : Hid (N = (encAll bs fs).length) := hN'
      clear hN'
      go_wp2
      go_ret
      refine ⟨fs, HF.out.1, ?_⟩
      rw [← HNE.out]
      exact ⟨rfl, hown, hBr⟩

end Go.Proofs.Qxb6600336aDoor
