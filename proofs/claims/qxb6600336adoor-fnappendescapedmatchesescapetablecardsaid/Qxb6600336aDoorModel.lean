/-
  SEAT b6600336aD: THE CONTRACT OF 'escapeModel' (7).
-/
import Derived.Test.Qxb6600336aDoorEsc
namespace Go.Proofs.Qxb6600336aDoor
open Go.ChangeShapes Go.WideShapes Go.ChangeAt Go.RowKit
set_option linter.unusedVariables false

theorem ret_esc {a b c d : Int} (h : a = b) (k : c = d) : Ending.returned (.tuple #[.int .u8 a, .int .i64 c]) = .returned (.tuple #[.int .u8 b, .int .i64 d]) := by rw [h, k]

set_option maxHeartbeats 800000 in
/-- The byte is no 'x', or too little follows. -/
theorem em_plain (b off len cap i : Nat) (c : Int) (w : World) (hil : i < len) (hlen : len ≤ 1048576) (hx : c ≠ 120 ∨ len ≤ i + 2)
    (hc : w.cell? ⟨b, off + i, none⟩ = some (.int .u8 c)) :
    Calls Tryd.prog 7 #[.slice (some ⟨b, off, none⟩) len cap, .int .i64 i] w fun e w' => e = .returned (.tuple #[.int .u8 (named c), .int .i64 i]) ∧ w' = w := by
  by_cases h120 : c = 120
  · subst h120
    have hs : ¬ (2 : Int) < (len : Int) - (i : Int) := by omega
    go_enter Tryd.func7, Tryd.ntmps7
    go_wp2
    go_ret2
    exact ⟨rfl, rfl⟩
  have e0 : (c == 120) = false := beq_eq_false_iff_ne.2 h120
  clear hx
  by_cases h110 : c = 110
  · subst h110
    go_enter Tryd.func7, Tryd.ntmps7
    go_wp2
    go_ret2
    exact ⟨rfl, rfl⟩
  have e1 : (c == 110) = false := beq_eq_false_iff_ne.2 h110
  by_cases h114 : c = 114
  · subst h114
    go_enter Tryd.func7, Tryd.ntmps7
    go_wp2
    go_ret2
    exact ⟨rfl, rfl⟩
  have e2 : (c == 114) = false := beq_eq_false_iff_ne.2 h114
  by_cases h116 : c = 116
  · subst h116
    go_enter Tryd.func7, Tryd.ntmps7
    go_wp2
    go_ret2
    exact ⟨rfl, rfl⟩
  have e3 : (c == 116) = false := beq_eq_false_iff_ne.2 h116
  by_cases h98 : c = 98
  · subst h98
    go_enter Tryd.func7, Tryd.ntmps7
    go_wp2
    go_ret2
    exact ⟨rfl, rfl⟩
  have e4 : (c == 98) = false := beq_eq_false_iff_ne.2 h98
  by_cases h97 : c = 97
  · subst h97
    go_enter Tryd.func7, Tryd.ntmps7
    go_wp2
    go_ret2
    exact ⟨rfl, rfl⟩
  have e5 : (c == 97) = false := beq_eq_false_iff_ne.2 h97
  have en : named c = c := by simp only [named]; rw [if_neg h110, if_neg h114, if_neg h116, if_neg h98, if_neg h97]
  rw [en]
  clear h110 h114 h116 h98 h97 h120 en
  go_enter Tryd.func7, Tryd.ntmps7
  go_wp2
  go_ret2
  exact ⟨rfl, rfl⟩

set_option maxHeartbeats 1600000 in
/-- An 'x' and two bytes behind it. -/
theorem em_x (b off len cap i : Nat) (c1 c2 : Int) (w : World) (hs : i + 2 < len) (hlen : len ≤ 1048576) (h10 : 0 ≤ c1) (h11 : c1 ≤ 255) (h20 : 0 ≤ c2) (h21 : c2 ≤ 255)
    (hc : w.cell? ⟨b, off + i, none⟩ = some (.int .u8 120)) (hc1 : w.cell? ⟨b, off + (i + 1), none⟩ = some (.int .u8 c1)) (hc2 : w.cell? ⟨b, off + (i + 2), none⟩ = some (.int .u8 c2)) :
    Calls Tryd.prog 7 #[.slice (some ⟨b, off, none⟩) len cap, .int .i64 i] w fun e w' => e = .returned (.tuple #[.int .u8 (if 0 ≤ hexV c1 ∧ 0 ≤ hexV c2 then hexV c1 * 16 + hexV c2 else 120), .int .i64 (if 0 ≤ hexV c1 ∧ 0 ≤ hexV c2 then (i : Int) + 2 else i)]) ∧ w' = w := by
  have hs' : (2 : Int) < (len : Int) - (i : Int) := by omega
  have H1 := hexValue_any c1 h10 h11 w
  have H2 := hexValue_any c2 h20 h21 w
  have b1 := hexV_le c1
  have b2 := hexV_le c2
  generalize hexV c1 = x1 at H1 b1 ⊢
  generalize hexV c2 = x2 at H2 b2 ⊢
  obtain ⟨b10, b11⟩ := b1
  obtain ⟨b20, b21⟩ := b2
  by_cases g1 : 0 ≤ x1
  · by_cases g2 : 0 ≤ x2
    · rw [if_pos ⟨g1, g2⟩, if_pos ⟨g1, g2⟩]
      go_enter Tryd.func7, Tryd.ntmps7
      go_wp2_with fail
      refine H1.mono ?_
      rintro e w' ⟨rfl, rfl⟩
      go_wp2_with fail
      refine H2.mono ?_
      rintro e w' ⟨rfl, rfl⟩
      clear H1 H2
      go_wp2
      go_ret2
      exact ⟨ret_esc (by omega) (by omega), rfl⟩
    · rw [if_neg (by omega), if_neg (by omega)]
      go_enter Tryd.func7, Tryd.ntmps7
      go_wp2_with fail
      refine H1.mono ?_
      rintro e w' ⟨rfl, rfl⟩
      go_wp2_with fail
      refine H2.mono ?_
      rintro e w' ⟨rfl, rfl⟩
      clear H1 H2
      go_wp2
      go_ret2
      exact ⟨ret_esc (by omega) (by omega), rfl⟩
  · rw [if_neg (by omega), if_neg (by omega)]
    go_enter Tryd.func7, Tryd.ntmps7
    go_wp2_with fail
    refine H1.mono ?_
    rintro e w' ⟨rfl, rfl⟩
    go_wp2_with fail
    refine H2.mono ?_
    rintro e w' ⟨rfl, rfl⟩
    clear H1 H2
    go_wp2
    go_ret2
    exact ⟨ret_esc (by omega) (by omega), rfl⟩

theorem em_any (bs : List Int) (g cap i : Nat) (w : World) (hL : Line w g bs) (hil : i < bs.length) (hlen : bs.length ≤ 1048576) :
    Calls Tryd.prog 7 #[.slice (some ⟨g, 0, none⟩) bs.length cap, .int .i64 i] w fun e w' => e = .returned (.tuple #[.int .u8 (escB bs i), .int .i64 (escL bs i)]) ∧ w' = w := by
  have hc : w.cell? ⟨g, 0 + i, none⟩ = some (.int .u8 (bs.getD i 0)) := by rw [Nat.zero_add]; exact hL.cell i hil
  by_cases hp : bs.getD i 0 ≠ 120 ∨ bs.length ≤ i + 2
  · have hx : ¬ hexEsc bs i = true := fun h => by have := (hexEsc_iff bs i).1 h; omega
    have e1 : escL bs i = i := if_neg hx
    have e2 : escB bs i = named (bs.getD i 0) := if_neg hx
    rw [e1, e2]
    exact em_plain g 0 bs.length cap i _ w hil hlen hp hc
  · have h120 : bs.getD i 0 = 120 := by omega
    have hs : i + 2 < bs.length := by omega
    have c1 : w.cell? ⟨g, 0 + (i + 1), none⟩ = some (.int .u8 (bs.getD (i + 1) 0)) := by rw [Nat.zero_add]; exact hL.cell (i + 1) (by omega)
    have c2 : w.cell? ⟨g, 0 + (i + 2), none⟩ = some (.int .u8 (bs.getD (i + 2) 0)) := by rw [Nat.zero_add]; exact hL.cell (i + 2) (by omega)
    have H := em_x g 0 bs.length cap i _ _ w hs hlen (hL.byte (i + 1) (by omega)).1 (hL.byte (i + 1) (by omega)).2 (hL.byte (i + 2) (by omega)).1 (hL.byte (i + 2) (by omega)).2 (by rw [← h120]; exact hc) c1 c2
    by_cases hx : hexEsc bs i = true
    · have hh := (hexEsc_iff bs i).1 hx
      have e1 : escL bs i = i + 2 := if_pos hx
      have e2 : escB bs i = hexV (bs.getD (i + 1) 0) * 16 + hexV (bs.getD (i + 2) 0) := if_pos hx
      rw [if_pos hh.2.2, if_pos hh.2.2] at H
      rw [e1, e2]
      exact H
    · have e1 : escL bs i = i := if_neg hx
      have e2 : escB bs i = 120 := by rw [escB, if_neg hx, h120]; rfl
      have hn : ¬ (0 ≤ hexV (bs.getD (i + 1) 0) ∧ 0 ≤ hexV (bs.getD (i + 2) 0)) := fun h => hx ((hexEsc_iff bs i).2 ⟨h120, hs, h.1, h.2⟩)
      rw [if_neg hn, if_neg hn] at H
      rw [e1, e2]
      exact H

end Go.Proofs.Qxb6600336aDoor
