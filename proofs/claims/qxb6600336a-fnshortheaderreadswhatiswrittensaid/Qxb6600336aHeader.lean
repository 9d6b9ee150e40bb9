/-
  SEAT b6600336a: THE WALK OF 'FnShortHeaderReadsWhatIsWritten' (7).
-/
import Derived.Test.Qxb6600336aShort
namespace Go.Proofs.Qxb6600336a.fnShortHeaderReadsWhatIsWritten
open Go.ChangeShapes Go.WideShapes Go.ChangeAt Go.RowKit
set_option linter.unusedVariables false

theorem lt_of_cell' {w : World} {p : Addr} {v : Value} (h : w.cell? p = some v) : p.block < w.heap.size := by
  by_cases hb : p.block < w.heap.size
  · exact hb
  · have : w.heap[p.block]? = none := by simp; omega
    simp [World.cell?, this] at h

theorem add_block (x : Addr) (i : Nat) : (x.add i).block = x.block := by
  unfold Addr.add; split <;> rfl

theorem later {w w' : World} {a : Option Addr} {len cap : Nat} {zs : List Int} (h : IsRow .u8 w a len cap zs) (hb : Below w.heap.size w w') : IsRow .u8 w' a len cap zs := by
  rcases h with h | ⟨x, h1, h2, h3, h4, h5, h6⟩
  · exact Or.inl h
  · refine Or.inr ⟨x, h1, h2, h3, h4, fun i hi => ?_, h6⟩
    rw [hb.cell (lt_of_cell' (h5 i hi))]; exact h5 i hi

theorem owns_below {w w' : World} {base : Nat} {v : Value} {n : Nat} {xs : List Value} (h : w.ownsRow base 5 1 v n xs) (hb : Below w.heap.size w w') : w'.ownsRow base 5 1 v n xs := by
  refine ⟨h.1, ?_⟩
  rcases h.2 with h | ⟨g, cap, cur, h1, h2, h3, h4⟩
  · exact Or.inl h
  · refine Or.inr ⟨g, cap, cur, h1, h2, ?_, h4⟩
    rw [hb.block g (Array.getElem?_eq_some_iff.1 h3).1]; exact h3

/-- The cells that 'append(out, v...)' copies, v a row of the call's own that lies below the row that is written. -/
theorem owned_cells {w w' : World} {base : Nat} {ao : Option Addr} {n c : Nat} {xs : List Value} (h : w.ownsRow base 5 1 (.slice ao n c) n xs) (hw : w.grownBy w' (some w.heap.size)) :
    (ao = none → n = 0 ∧ c = 0) ∧ ∀ ad, ao = some ad → ∀ j u, xs[j]? = some u → w'.cell? (ad.add j) = some u := by
  rcases h.2 with ⟨h1, h2⟩ | ⟨g, cap, cur, h1, h2, h3, h4, h5, h6, h7⟩
  · simp only [Value.slice.injEq] at h1
    obtain ⟨rfl, rfl, rfl⟩ := h1
    exact ⟨fun _ => ⟨rfl, rfl⟩, fun ad e => by cases e⟩
  · simp only [Value.slice.injEq] at h1
    obtain ⟨rfl, _, rfl⟩ := h1
    refine ⟨fun e => (by cases e), fun ad e j u hj => ?_⟩
    cases e
    rw [Addr.add_lit, Nat.zero_add]
    have hjl : j < n := by have := (List.getElem?_eq_some_iff.1 hj).1; have := h.1; omega
    have hg : g < w.heap.size := (Array.getElem?_eq_some_iff.1 h3).1
    refine hw.cell (a := ⟨g, j, none⟩) ?_ (fun e => by have h2 : g = w.heap.size := Option.some.inj e; omega)
    rw [h.cellAt j (by omega)]; exact hj

theorem shN_eq (n : Nat) (suf : List Int) : (100 ≤ n ∨ (n < 10 ∧ suf.length = 0) → shN n suf = 0) ∧ (¬ (100 ≤ n ∨ (n < 10 ∧ suf.length = 0)) → shN n suf = n) := by
  have e : suf.length = 0 ↔ suf = [] := by cases suf <;> simp
  rw [e]
  exact ⟨fun h => if_pos h, fun h => if_neg h⟩

theorem shE_eq (p n : Nat) (suf : List Int) : (100 ≤ n ∨ (n < 10 ∧ suf.length = 0) → shE p n suf = 0) ∧ (¬ (100 ≤ n ∨ (n < 10 ∧ suf.length = 0)) → shE p n suf = (p : Int) + 1 + (itoa n).length + 2) := by
  have e : suf.length = 0 ↔ suf = [] := by cases suf <;> simp
  rw [e]
  exact ⟨fun h => if_pos h, fun h => if_neg h⟩

theorem two_cells (w : World) : ∀ j u, ([Value.int .u8 13, Value.int .u8 10] : List Value)[j]? = some u → (w.alloc (.cells #[Value.int .u8 13, Value.int .u8 10] 5)).cell? ((⟨w.heap.size, 0, none⟩ : Addr).add j) = some u := by
  intro j u hj
  match j, hj with
  | 0, hj => simp at hj; subst hj; simp [Addr.add]
  | 1, hj => simp at hj; subst hj; simp [Addr.add]
  | j + 2, hj => simp at hj

set_option maxHeartbeats 3200000 in
theorem walk_in (a0 : Option Addr) (len0 cap0 : Nat) (z0 : List Int) (n : Nat) (a2 : Int) (a3 : Option Addr) (len3 cap3 : Nat) (z3 : List Int) (w : World) (w0 : IsRow .u8 w a0 len0 cap0 z0) (h63 : n ≤ 9223372036854775807) (hk0 : 0 ≤ a2) (hk1 : a2 ≤ 255) (w3 : IsRow .u8 w a3 len3 cap3 z3)
    (hl0 : len0 ≤ 524288) (hl3 : len3 ≤ 524288) :
    Calls Try.prog 7 #[.slice a0 len0 cap0, .int .i64 n, .int .u8 a2, .slice a3 len3 cap3] w fun e w' => e = .returned (.bool true) ∧ Below w.heap.size w w' := by
  obtain ⟨i0, hi, hz0, hz1, hz2⟩ := info_parts Try.info5
  have hC := clone_any a0 len0 cap0 z0 w w0 (by omega)
  have hby3 := w3.bytes
  have hil := itoa_len n
  clear w0
  go_enter Try.func7, Try.ntmps7
  go_wp2_with (go_at_call 18; go_in)
  refine hC.mono ?_
  rintro e w1 ⟨v0, rfl, ho0, hB1⟩
  have hC3 := clone_any a3 len3 cap3 z3 w1 (later w3 hB1) (by omega)
  obtain ⟨ad0, c0, rfl⟩ := owned_shape ho0
  clear w3 hC
  go_wp2_with fail
  refine hC3.mono ?_
  rintro e w2 ⟨v3, rfl, ho3, hB2⟩
  obtain ⟨ad3, c3, rfl⟩ := owned_shape ho3
  have ho0' := owns_below ho0 hB2
  have hB : Below w.heap.size w w2 := hB1.trans (hB2.mono hB1.size)
  generalize hpre : z0.take len0 = pre at ho0'
  generalize hsuf : z3.take len3 = suf at ho3 hby3
  clear ho0 hC3 hB1 hB2 hpre hsuf
  have hpl : pre.length = len0 := by have := ho0'.1; simpa using this
  have hsl : suf.length = len3 := by have := ho3.1; simpa using this
  obtain ⟨g, hg⟩ : ∃ g, g = w2.heap.size := ⟨_, rfl⟩
  go_wp2_with (at_make; refine wpList_make_own _ rfl _ _ 22 rfl w2.heap.size 5 i0 (.int .u8 0) 1 Try.underlying22 hi hz0 hz1 _ _ _ (len0 + len3 + 32) rfl rfl (by omega) ?b2 ?b3 (Nat.le_refl _) ?_)
  case b2 => rw [hz2]; omega
  case b3 => unfold maxLen; omega
  intro w4 hown4 hgrow4
  have G4 : w2.grownBy w4 (some w2.heap.size) := grownBy_weak hgrow4 _
  clear hgrow4
  obtain ⟨p1, p2⟩ := owned_cells ho0' G4
  go_wp2_with (at_builtin; refine wpList_append_fits_any _ rfl _ _ 22 rfl w2.heap.size 5 i0 1 Try.underlying22 hi hz1 w2.heap.size 0 (len0 + len3 + 32) [] rfl hown4 ad0 len0 c0 (pre.map (Value.int .u8)) rfl (by simp [hpl]) p1 p2 (ints_oneCell _ _) (by omega) ?_)
  intro w5 hown5 hgrow5
  have G5 := grownBy_trans G4 hgrow5
  clear hgrow5 G4 hown4 p1 p2 ho0'
  go_wp2_with (at_builtin; refine wpList_append_fits _ rfl _ _ 22 rfl w2.heap.size 5 i0 1 Try.underlying22 hi hz1 w2.heap.size len0 (len0 + len3 + 32) (pre.map (Value.int .u8)) rfl (hown5.alloc _) ⟨w5.heap.size, 0, none⟩ 1 1 [.int .u8 a2] rfl rfl ?c1 ?c2 ?c3 ?_)
  case c1 =>
    intro j u hj
    match j, hj with
    | 0, hj => simp at hj; subst hj; simp [Addr.add]
  case c2 => intro u hu; simp at hu; subst hu; rfl
  case c3 => omega
  intro w6 hown6 hgrow6
  have G6 := grownBy_trans G5 (grownBy_trans (World.grownBy_alloc _ _ _) hgrow6)
  have hown6' : w6.ownsRow w2.heap.size 5 1 (.slice (some ⟨w2.heap.size, 0, none⟩) (len0 + 1) (len0 + len3 + 32)) (len0 + 1) ((pre ++ [a2]).map (Value.int .u8)) := by simpa using hown6
  clear hgrow6 G5 hown5 hown6
  have H7 := itoa_any w2.heap.size w2.heap.size (len0 + 1) (len0 + len3 + 32) (pre ++ [a2]) n w6 hown6' (by omega) h63
  have HS := fun (w9 : World) (N cap : Nat) (h1 : N ≤ cap) (h2 : N ≤ 9223372036854775807) => ZZshort_owned w2.heap.size w2.heap.size N cap pre suf n a2 w9 h1 h2 (by omega) hk0 hk1 hby3
  have eA := (shN_eq n suf)
  have eB := (shE_eq pre.length n suf)
  generalize shN n suf = A at HS eA
  generalize shE pre.length n suf = B at HS eB
  generalize itoa n = I at H7 HS hil eB
  generalize hL : I.length = L at H7 hil eB
  have HI : Hid (I.length = L) := hL
  have HPL : Hid (pre.length = len0) := hpl
  rw [hsl] at eA eB
  rw [hpl] at HS eB
  have HS' : Hid _ := HS
  clear hown6' hL hpl HS hsl hg hby3
  go_wp2_with fail
  refine H7.mono ?_
  rintro e w7 ⟨rfl, hown7, hgrow7⟩
  have G7 := grownBy_trans G6 hgrow7
  clear hgrow7 G6 H7
  go_wp2_with (at_builtin; refine wpList_append_fits _ rfl _ _ 22 rfl w2.heap.size 5 i0 1 Try.underlying22 hi hz1 w2.heap.size (len0 + 1 + L) (len0 + len3 + 32) ((pre ++ [a2] ++ I).map (Value.int .u8)) rfl (hown7.alloc _) ⟨w7.heap.size, 0, none⟩ 2 2 [.int .u8 13, .int .u8 10] rfl rfl (two_cells _) ?d2 ?d3 ?_)
  case d2 => intro u hu; simp at hu; rcases hu with rfl | rfl <;> rfl
  case d3 => omega
  intro w8 hown8 hgrow8
  have G8 := grownBy_trans G7 (grownBy_trans (World.grownBy_alloc _ _ _) hgrow8)
  clear hgrow8 G7 hown7
  obtain ⟨q1, q2⟩ := owned_cells ho3 G8
  have hown8' : w8.ownsRow w2.heap.size 5 1 (.slice (some ⟨w2.heap.size, 0, none⟩) (len0 + 1 + L + 2) (len0 + len3 + 32)) (len0 + 1 + L + 2) ((pre ++ [a2] ++ I ++ [13, 10]).map (Value.int .u8)) := by simpa using hown8
  clear hown8
  go_wp2_with (at_builtin; refine wpList_append_fits_any _ rfl _ _ 22 rfl w2.heap.size 5 i0 1 Try.underlying22 hi hz1 w2.heap.size (len0 + 1 + L + 2) (len0 + len3 + 32) ((pre ++ [a2] ++ I ++ [13, 10]).map (Value.int .u8)) rfl hown8' ad3 len3 c3 (suf.map (Value.int .u8)) rfl ?e1 q1 q2 (ints_oneCell _ _) ?e2 ?_)
  case e1 => have := ho3.1; simpa using this
  case e2 => omega
  intro w9 hown9 hgrow9
  have G9 := grownBy_trans G8 hgrow9
  have hB9 : Below w.heap.size w w9 := hB.grown G9 hB.size (fun k hk => by cases hk; exact hB.size)
  have H9 := HS'.out w9 (len0 + 1 + L + 2 + len3) (len0 + len3 + 32) (by omega) (by omega) (by simpa using hown9)
  clear hgrow9 G8 G9 hown9 hown8' q1 q2 HS' ho3 HI HPL
  by_cases h100 : 100 ≤ n
  · obtain rfl := eA.1 (Or.inl h100)
    obtain rfl := eB.1 (Or.inl h100)
    clear eA eB
    have t1 : (100 : Int) ≤ (n : Int) := by omega
    go_wp2_with fail
    refine H9.mono ?_
    rintro e w' ⟨rfl, hb⟩
    clear H9
    go_wp2
    go_ret
    exact ⟨rfl, hB9.trans (hb.mono hB9.size)⟩
  have t1 : ¬ (100 : Int) ≤ (n : Int) := by omega
  by_cases hz : n < 10 ∧ len3 = 0
  · obtain rfl := eA.1 (Or.inr hz)
    obtain rfl := eB.1 (Or.inr hz)
    obtain ⟨h10, rfl⟩ := hz
    clear eA eB
    have t2 : (n : Int) < 10 := by omega
    go_wp2_with fail
    refine H9.mono ?_
    rintro e w' ⟨rfl, hb⟩
    clear H9
    go_wp2
    go_ret
    exact ⟨rfl, hB9.trans (hb.mono hB9.size)⟩
  · obtain rfl := eA.2 (by omega)
    obtain rfl := eB.2 (by omega)
    clear eA eB
    by_cases h10 : n < 10
    · have t2 : (n : Int) < 10 := by omega
      have t3 : ((len3 : Int) == 0) = false := beq_eq_false_iff_ne.2 (by omega)
      go_wp2_with fail
      refine H9.mono ?_
      rintro e w' ⟨rfl, hb⟩
      clear H9
      go_wp2
      go_ret
      exact ⟨by simp, hB9.trans (hb.mono hB9.size)⟩
    · have t2 : ¬ (n : Int) < 10 := by omega
      go_wp2_with fail
      refine H9.mono ?_
      rintro e w' ⟨rfl, hb⟩
      clear H9
      go_wp2
      go_ret
      exact ⟨by simp, hB9.trans (hb.mono hB9.size)⟩

theorem walk (a0 : Option Addr) (len0 cap0 : Nat) (z0 : List Int) (a1 : Int) (a2 : Int) (a3 : Option Addr) (len3 cap3 : Nat) (z3 : List Int) (w : World) (w0 : IsRow .u8 w a0 len0 cap0 z0) (w1 : (Lit.int .i64 a1).wf = true) (w2 : (Lit.int .u8 a2).wf = true) (w3 : IsRow .u8 w a3 len3 cap3 z3) :
    Calls Try.prog 7 #[.slice a0 len0 cap0, .int .i64 a1, .int .u8 a2, .slice a3 len3 cap3] w fun e w' => e = .returned (.bool true) ∧ Below w.heap.size w w' := by
  have hl0 := w0.len_le
  have hl3 := w3.len_le
  have b1 := bounds_i64 w1
  have b2 := bounds_u8 w2
  by_cases h0 : 524288 < len0
  · clear w0 w3 w1 w2
    by_cases h00 : 1048576 < len0
    · go_enter Try.func7, Try.ntmps7
      go_wp2
      go_ret
      exact ⟨rfl, Below.refl _ _⟩
    by_cases h3 : 1048576 < len3
    · go_enter Try.func7, Try.ntmps7
      go_wp2
      go_ret
      exact ⟨rfl, Below.refl _ _⟩
    by_cases h33 : 1048576 < (len0 : Int) + (len3 : Int)
    · go_enter Try.func7, Try.ntmps7
      go_wp2
      go_ret
      exact ⟨rfl, Below.refl _ _⟩
    · go_enter Try.func7, Try.ntmps7
      go_wp2
      go_ret
      exact ⟨rfl, Below.refl _ _⟩
  by_cases h3 : 524288 < len3
  · clear w0 w3 w1 w2
    by_cases h33 : 1048576 < len3
    · go_enter Try.func7, Try.ntmps7
      go_wp2
      go_ret
      exact ⟨rfl, Below.refl _ _⟩
    by_cases h34 : 1048576 < (len0 : Int) + (len3 : Int)
    · go_enter Try.func7, Try.ntmps7
      go_wp2
      go_ret
      exact ⟨rfl, Below.refl _ _⟩
    · go_enter Try.func7, Try.ntmps7
      go_wp2
      go_ret
      exact ⟨rfl, Below.refl _ _⟩
  by_cases h1 : a1 < 0
  · clear w0 w3 w1 w2
    go_enter Try.func7, Try.ntmps7
    go_wp2
    go_ret
    exact ⟨rfl, Below.refl _ _⟩
  obtain ⟨n, rfl⟩ := Int.eq_ofNat_of_zero_le (show 0 ≤ a1 by omega)
  exact walk_in a0 len0 cap0 z0 n a2 a3 len3 cap3 z3 w w0 (by omega) b2.1 b2.2 w3 (by omega) (by omega)

end Go.Proofs.Qxb6600336a.fnShortHeaderReadsWhatIsWritten
