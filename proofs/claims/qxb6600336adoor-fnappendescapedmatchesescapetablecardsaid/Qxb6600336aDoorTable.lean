/-
  SEAT b6600336aD: THE WALK OF 'FnAppendEscapedMatchesEscapeTable' (3).
-/
import Derived.Test.Qxb6600336aDoorModel
import Derived.Deep.QuietTactic
import Derived.BigQuiet
namespace Go.Proofs.Qxb6600336aDoor.fnAppendEscapedMatchesEscapeTable
open Go.ChangeShapes Go.WideShapes Go.ChangeAt Go.RowKit
set_option linter.unusedVariables false

/-- A row of the call's own, not empty, as a line. -/
theorem line_of_owned {w : World} {base : Nat} {v : Value} {n : Nat} {bs : List Int} (h : w.ownsRow base 5 1 v n (bs.map (Value.int .u8))) (hn : 0 < n) (hb : ∀ c ∈ bs, 0 ≤ c ∧ c ≤ 255) :
    ∃ g cap, v = .slice (some ⟨g, 0, none⟩) n cap ∧ g < w.heap.size ∧ n ≤ cap ∧ bs.length = n ∧ Line w g bs := by
  have hl : bs.length = n := by have := h.1; simpa using this
  rcases h.2 with ⟨_, h0⟩ | ⟨g, cap, cur, rfl, h2, h3, h4, _⟩
  · omega
  · refine ⟨g, cap, rfl, (Array.getElem?_eq_some_iff.1 h3).1, h4, hl, ?_, ?_⟩
    · intro j hj
      rw [h.cellAt j (by omega)]
      simp [List.getD, hj]
    · intro j hj
      exact hb _ (by simp [List.getD, hj])

theorem Line.below {w w' : World} {g : Nat} {bs : List Int} (h : Line w g bs) (hg : g < w.heap.size) (hb : Below w.heap.size w w') : Line w' g bs :=
  ⟨fun j hj => (hb.cell (p := ⟨g, j, none⟩) hg).trans (h.cell j hj), h.byte⟩

theorem owned_getD {w : World} {base g cap n : Nat} {bs : List Int} (h : w.ownsRow base 5 1 (.slice (some ⟨g, 0, none⟩) n cap) n (bs.map (Value.int .u8))) (j : Nat) (hj : j < n) : w.cell? ⟨g, j, none⟩ = some (.int .u8 (bs.getD j 0)) := by
  have hl : bs.length = n := by have := h.1; simpa using this
  rw [h.cellAt j (by omega)]
  simp [List.getD, show j < bs.length by omega]

set_option maxHeartbeats 3200000 in
theorem walk_in (a0 : Option Addr) (len0 cap0 : Nat) (z0 : List Int) (a1 : Option Addr) (len1 cap1 : Nat) (z1 : List Int) (i : Nat) (w : World) (w0 : IsRow .u8 w a0 len0 cap0 z0) (w1 : IsRow .u8 w a1 len1 cap1 z1)
    (hl0 : len0 ≤ 524288) (hl1 : len1 ≤ 524288) (hil : i < len1) (ev : Value) (hv : w.cell? ⟨0, 0, none⟩ = some ev) (hev : ev = .nilIface ∨ ∃ te pe, ev = .iface te pe) :
    Calls Tryd.prog 3 #[.slice a0 len0 cap0, .slice a1 len1 cap1, .int .i64 i] w fun e w' => e = .returned (.bool true) ∧ Below w.heap.size w w' := by
  have hC := clone_any a0 len0 cap0 z0 w w0 (by omega)
  have hby1 := w1.bytes
  clear w0
  have hG : 0 < w.heap.size := lt_of_cell' hv
  go_enter Tryd.func3, Tryd.ntmps3
  go_wp2_with (go_at_call 5; go_in)
  refine hC.mono ?_
  rintro e W1 ⟨v0, rfl, ho0, hB1⟩
  have hC1 := clone_any a1 len1 cap1 z1 W1 (later w1 hB1) (by omega)
  obtain ⟨ad0, c0, rfl⟩ := owned_shape ho0
  clear w1 hC
  go_wp2_with fail
  refine hC1.mono ?_
  rintro e W2 ⟨v1, rfl, ho1, hB2⟩
  have ho0' := owns_below ho0 hB2
  have hB : Below w.heap.size w W2 := hB1.trans (hB2.mono hB1.size)
  generalize hpre : z0.take len0 = pre at ho0'
  generalize hbs : z1.take len1 = bs at ho1 hby1
  clear ho0 hC1 hB1 hB2 hpre hbs
  obtain ⟨g, cap, rfl, hg, hncap, hbl, hL⟩ := line_of_owned ho1 (by omega) hby1
  subst hbl
  have hv2 : W2.cell? ⟨0, 0, none⟩ = some ev := (hB.cell (p := ⟨0, 0, none⟩) hG).trans hv
  have H7 := em_any bs g cap i W2 hL hil (by omega)
  have H8 := ZZae_any w.heap.size _ len0 _ bs g cap i W2 hL ev hv2 hev ho0' (by omega) hB.size hil (by omega) hncap
  have hpl : pre.length = len0 := by have := ho0'.1; simpa using this
  have hblk := ho0'.lt
  generalize escB bs i = EB at H7 H8
  generalize escL bs i = EL at H7 H8
  generalize bs.length = len at *
  clear hby1 ho1 hL hv hv2 hev ho0' hncap
  go_wp2_with fail
  refine H7.mono ?_
  rintro e w' ⟨rfl, rfl⟩
  go_wp2_with fail
  refine H8.mono ?_
  rintro e W3 ⟨v', rfl, hown, hold, hgrow⟩
  have hB3 : Below w.heap.size w W3 := hB.grown hgrow hB.size (fun k hk => (hblk k hk).1)
  have hown' : W3.ownsRow w.heap.size 5 1 v' (len0 + 1) ((pre ++ [EB]).map (Value.int .u8)) := by simpa using hown
  obtain ⟨g', cap', rfl⟩ : ∃ g' cap', v' = .slice (some ⟨g', 0, none⟩) (len0 + 1) cap' := by
    rcases hown'.2 with ⟨_, h0⟩ | ⟨g', cap', cur, rfl, _⟩
    · omega
    · exact ⟨g', cap', rfl⟩
  have hgot := owned_getD hown'
  have hword : ∀ k, k < len0 → ∃ g0, ad0 = some ⟨g0, 0, none⟩ ∧ W3.cell? ⟨g0, k, none⟩ = some (.int .u8 (pre.getD k 0)) := by
    intro k hk
    rcases hold.2 with ⟨_, h0⟩ | ⟨g0, cap0', cur, h1, _⟩
    · omega
    · simp only [Value.slice.injEq] at h1
      obtain ⟨rfl, _, rfl⟩ := h1
      exact ⟨g0, rfl, owned_getD hold k hk⟩
  have hlast : W3.cell? ⟨g', len0, none⟩ = some (.int .u8 EB) := by
    rw [hgot len0 (by omega)]
    simp [List.getD, ← hpl]
  have hsame : ∀ k, k < len0 → W3.cell? ⟨g', k, none⟩ = some (.int .u8 (pre.getD k 0)) := by
    intro k hk
    rw [hgot k (by omega)]
    simp [List.getD, List.getElem?_append_left (show k < pre.length by omega)]
  have HW : Hid (∀ k, k < len0 → ∃ g0, ad0 = some ⟨g0, 0, none⟩ ∧ W3.cell? ⟨g0, k, none⟩ = some (.int .u8 (pre.getD k 0))) := hword
  have HSM : Hid (∀ k, k < len0 → W3.cell? ⟨g', k, none⟩ = some (.int .u8 (pre.getD k 0))) := hsame
  have HLA : Hid (W3.cell? ⟨g', len0, none⟩ = some (.int .u8 EB)) := hlast
  clear hown hown' hgot hword hsame hlast hold hgrow hblk H7 H8 hB
  go_wp2
  go_loopw [11] (fun t wr => ∃ k : Nat, k ≤ len0 ∧ t = .int .i64 k ∧ Hid (∀ p, wr.cell? p = W3.cell? p) ∧ Below w.heap.size w wr)
    (fun t _ => len0 - (intOf t).toNat)
  case atStart => exact ⟨0, Nat.zero_le _, rfl, fun _ => rfl, hB3⟩
  case round =>
    obtain ⟨k, hk, rfl, HP, hBr⟩ := hrel
    by_cases hlt : k < len0
    · obtain ⟨g0, rfl, hck⟩ := HW.out k hlt
      have hcg := HSM.out k hlt
      rw [← HP.out] at hck hcg
      generalize pre.getD k 0 = x at hck hcg
      have hi1 : (k : Int) < (len0 : Int) + 1 := by omega
      have hi2 : (k : Int) < (len0 : Int) := by omega
      go_wp2
      go_quiet (fail)
      go_wp2
      go_roundw
      case rel => exact ⟨k + 1, by omega, by go_num, fun p => HP.out p, below_drewN hBr _⟩
      case measure => simp [intOf]; omega
    · have hla := HLA.out
      rw [← HP.out] at hla
      have hkk : k = len0 := by omega
      subst hkk
      go_wp2
      go_ret
      exact ⟨by simp, hBr⟩

theorem walk (a0 : Option Addr) (len0 cap0 : Nat) (z0 : List Int) (a1 : Option Addr) (len1 cap1 : Nat) (z1 : List Int) (a2 : Int) (w : World) (w0 : IsRow .u8 w a0 len0 cap0 z0) (w1 : IsRow .u8 w a1 len1 cap1 z1) (w2 : (Lit.int .i64 a2).wf = true)
    (ev : Value) (hv : w.cell? ⟨0, 0, none⟩ = some ev) (hev : ev = .nilIface ∨ ∃ te pe, ev = .iface te pe) :
    Calls Tryd.prog 3 #[.slice a0 len0 cap0, .slice a1 len1 cap1, .int .i64 a2] w fun e w' => e = .returned (.bool true) ∧ Below w.heap.size w w' := by
  have hl0 := w0.len_le
  have hl1 := w1.len_le
  have b2 := bounds_i64 w2
  by_cases h0 : 524288 < len0
  · clear w0 w1 w2 hv hev
    by_cases h00 : 1048576 < len0
    · go_enter Tryd.func3, Tryd.ntmps3
      go_wp2
      go_ret
      exact ⟨rfl, Below.refl _ _⟩
    by_cases h3 : 1048576 < len1
    · go_enter Tryd.func3, Tryd.ntmps3
      go_wp2
      go_ret
      exact ⟨rfl, Below.refl _ _⟩
    by_cases h33 : 1048576 < (len0 : Int) + (len1 : Int)
    · go_enter Tryd.func3, Tryd.ntmps3
      go_wp2
      go_ret
      exact ⟨rfl, Below.refl _ _⟩
    · go_enter Tryd.func3, Tryd.ntmps3
      go_wp2
      go_ret
      exact ⟨rfl, Below.refl _ _⟩
  by_cases h1 : 524288 < len1
  · clear w0 w1 w2 hv hev
    by_cases h33 : 1048576 < len1
    · go_enter Tryd.func3, Tryd.ntmps3
      go_wp2
      go_ret
      exact ⟨rfl, Below.refl _ _⟩
    by_cases h34 : 1048576 < (len0 : Int) + (len1 : Int)
    · go_enter Tryd.func3, Tryd.ntmps3
      go_wp2
      go_ret
      exact ⟨rfl, Below.refl _ _⟩
    · go_enter Tryd.func3, Tryd.ntmps3
      go_wp2
      go_ret
      exact ⟨rfl, Below.refl _ _⟩
  by_cases h2 : a2 < 0
  · clear w0 w1 w2 hv hev
    go_enter Tryd.func3, Tryd.ntmps3
    go_wp2
    go_ret
    exact ⟨rfl, Below.refl _ _⟩
  by_cases h3 : (len1 : Int) ≤ a2
  · clear w0 w1 w2 hv hev
    go_enter Tryd.func3, Tryd.ntmps3
    go_wp2
    go_ret
    exact ⟨rfl, Below.refl _ _⟩
  obtain ⟨i, rfl⟩ := Int.eq_ofNat_of_zero_le (show 0 ≤ a2 by omega)
  exact walk_in a0 len0 cap0 z0 a1 len1 cap1 z1 i w w0 w1 (by omega) (by omega) (by omega) ev hv hev

end Go.Proofs.Qxb6600336aDoor.fnAppendEscapedMatchesEscapeTable
