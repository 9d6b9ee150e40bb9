/-
  SEAT b6600336a: THE CONTRACTS OF 'decimalModel' (10) AND 'cloneBytes' (9).
-/
import Derived.Test.Qxb6600336aItoa
import Derived.Laws.CopyOwn
import Derived.WalkSpells
namespace Go.Proofs.Qxb6600336a
open Go.ChangeShapes Go.WideShapes Go.ChangeAt Go.RowKit
set_option linter.unusedVariables false

theorem model_len (a : Option Addr) (n cap : Nat) (w : World) (hn : n = 0 ∨ 9 < n) (hm : n ≤ maxLen) :
    Calls Try.prog 10 #[.slice a n cap] w fun e w' => e = .returned (.tuple #[.int .i64 0, .bool false]) ∧ w' = w := by
  unfold maxLen at hm
  rcases hn with rfl | hn
  · go_enter Try.func10, Try.ntmps10
    go_wp2
    go_ret2
    exact ⟨rfl, rfl⟩
  · have h0 : ¬ (n : Int) < 1 := by omega
    have h9 : (9 : Int) < (n : Int) := by omega
    go_enter Try.func10, Try.ntmps10
    go_wp2
    go_ret2
    exact ⟨rfl, rfl⟩

theorem mul_bd (c P : Int) (h1 : 48 ≤ c) (h2 : c ≤ 57) (h3 : 1 ≤ P) (h4 : P ≤ 1000000000) : 0 ≤ (c - 48) * P ∧ (c - 48) * P ≤ 9000000000 := by
  refine ⟨Int.mul_nonneg (by omega) (by omega), ?_⟩
  have := Int.mul_le_mul (show c - 48 ≤ 9 by omega) h4 (by omega) (by omega)
  omega

set_option maxHeartbeats 800000 in
theorem model_cells (b off n cap : Nat) (bs : List Int) (w : World) (hn : bs.length = n) (h1 : 1 ≤ n) (h9 : n ≤ 9)
    (hbyte : ∀ i, i < n → 0 ≤ bs.getD i 0 ∧ bs.getD i 0 ≤ 255)
    (hc : ∀ i, i < n → w.cell? ⟨b, off + i, none⟩ = some (.int .u8 (bs.getD i 0))) :
    Calls Try.prog 10 #[.slice (some ⟨b, off, none⟩) n cap] w fun e w' => e = .returned (.tuple #[.int .i64 (decN bs), .bool (decOk bs)]) ∧ w' = w := by
  have h0 : ¬ (n : Int) < 1 := by omega
  have g9 : ¬ (9 : Int) < (n : Int) := by omega
  go_enter Try.func10, Try.ntmps10
  go_wp2
  go_loop [4, 5, 6] (fun v p i => ∃ (K V Pl : Int), -1 ≤ K ∧ K < n ∧ i = .int .i64 K ∧ v = .int .i64 V ∧ p = .int .i64 Pl ∧ 0 ≤ V ∧ V < 1000000000 ∧ 1 ≤ Pl ∧ Pl ≤ 1000000000 ∧
      Hid (allDig (bs.drop (K + 1).toNat) = true ∧ V = val (bs.drop (K + 1).toNat) ∧ Pl = 10 ^ (n - (K + 1).toNat)))
    (fun _ _ i => (intOf i + 1).toNat)
  case atStart =>
    refine ⟨(n : Int) - 1, 0, 1, by omega, by omega, rfl, rfl, rfl, by omega, by omega, by omega, by omega, ?_⟩
    have e : ((n : Int) - 1 + 1).toNat = n := by omega
    rw [e, List.drop_of_length_le (by omega)]
    exact ⟨rfl, rfl, by simp⟩
  case round =>
    obtain ⟨K, V, Pl, hK1, hKn, rfl, rfl, rfl, hV0, hV9, hP1, hP9, HV⟩ := hrel
    by_cases hlt : 0 ≤ K
    · obtain ⟨j, rfl⟩ := Int.eq_ofNat_of_zero_le hlt
      have hjn : j < n := by omega
      obtain ⟨c, hcv⟩ : ∃ c, c = bs.getD j 0 := ⟨_, rfl⟩
      have hcell : w.cell? ⟨b, off + j, none⟩ = some (.int .u8 c) := by rw [hcv]; exact hc j hjn
      have hcb := hbyte j hjn
      rw [← hcv] at hcb
      obtain ⟨hc0, hc255⟩ := hcb
      have HC : Hid (c = bs.getD j 0) := hcv
      clear hcv hc hbyte
      by_cases hd : 48 ≤ c ∧ c ≤ 57
      · obtain ⟨hd1, hd2⟩ := hd
        have hv := HV.out
        rw [show ((j : Int) + 1).toNat = j + 1 by omega] at hv
        obtain ⟨v1, v2, v3⟩ := hv
        have S := pos_step bs j (by omega) c HC.out hd1 hd2 v1
        have bd := val_bound _ S.1
        have pw := pow10_le (n - j) (by omega)
        have hle : (bs.drop j).length = n - j := by simp; omega
        have mb := mul_bd c Pl hd1 hd2 hP1 hP9
        rw [hle, S.2, ← v2, hn, ← v3] at bd
        obtain ⟨mb1, mb2⟩ := mb
        have bd1 : 0 ≤ V + (c - 48) * Pl := bd.1
        have bd2 : V + (c - 48) * Pl < 1000000000 := by omega
        have hP10 : Pl * 10 = 10 ^ (n - j) := by rw [v3, ← Int.pow_succ]; congr 1; omega
        have bP1 : 1 ≤ Pl * 10 := by omega
        have bP2 : Pl * 10 ≤ 1000000000 := by rw [hP10]; exact pw.2
        have HS : Hid (allDig (bs.drop ((j : Int) - 1 + 1).toNat) = true ∧ V + (c - 48) * Pl = val (bs.drop ((j : Int) - 1 + 1).toNat) ∧ Pl * 10 = 10 ^ (n - ((j : Int) - 1 + 1).toNat)) := by
          rw [show ((j : Int) - 1 + 1).toNat = j by omega]
          exact ⟨S.1, by rw [S.2, v2, v3, hn], hP10⟩
        clear S bd pw hle v1 v2 v3 hP10 HV
        go_wp2
        go_round
        case rel => exact ⟨(j : Int) - 1, V + (c - 48) * Pl, Pl * 10, by omega, by omega, by go_num, by go_num, by go_num, bd1, bd2, bP1, bP2, HS⟩
        case measure => simp [intOf]
      · have hno := ok_of_bad bs j (by omega) (by rw [← HC.out]; exact hd)
        have hno2 := dec_no bs hno
        have HN : Hid (decN bs = 0 ∧ decOk bs = false) := ⟨hno2, hno⟩
        clear hno hno2
        by_cases hl : c < 48
        · go_wp2
          go_ret2
          exact ⟨ret_dec HN.out.1.symm HN.out.2.symm, rfl⟩
        · have hg : 57 < c := by omega
          go_wp2
          go_ret2
          exact ⟨ret_dec HN.out.1.symm HN.out.2.symm, rfl⟩
    · have HE : Hid (V = decN bs ∧ true = decOk bs) := by
        have h := HV.out
        rw [show (K + 1).toNat = 0 by omega] at h
        have y := dec_yes bs (by omega) (by omega) h.1
        exact ⟨by rw [y.2]; exact h.2.1, y.1.symm⟩
      clear HV
      go_wp2
      go_ret2
      exact ⟨ret_dec HE.out.1 HE.out.2, rfl⟩

/-- 'decimalModel' at a row that the call owns. -/
theorem model_owned (base : Nat) (v : Value) (n : Nat) (bs : List Int) (w : World) (ho : w.ownsRow base 5 1 v n (bs.map (Value.int .u8))) (hm : n ≤ maxLen)
    (hbyte : ∀ c ∈ bs, 0 ≤ c ∧ c ≤ 255) :
    Calls Try.prog 10 #[v] w fun e w' => e = .returned (.tuple #[.int .i64 (decN bs), .bool (decOk bs)]) ∧ w' = w := by
  have hlen : bs.length = n := by have := ho.1; simpa using this
  by_cases hl : n = 0 ∨ 9 < n
  · have hno := ok_of_len bs (by omega)
    rw [dec_no bs hno, hno]
    rcases ho.2 with ⟨rfl, _⟩ | ⟨g, cap, cur, rfl, _⟩
    · exact model_len _ _ _ _ (Or.inl rfl) (by simp [maxLen])
    · exact model_len _ _ _ _ hl hm
  · rcases ho.2 with ⟨rfl, h0⟩ | ⟨g, cap, cur, rfl, _⟩
    · exact absurd (Or.inl h0) hl
    · refine model_cells g 0 n cap bs w hlen (by omega) (by omega) (fun i hi => hbyte _ (by simp [List.getD, show i < bs.length by omega])) (fun i hi => ?_)
      have := ho.cellAt i (by omega)
      rw [Nat.zero_add, this]
      simp [List.getD, show i < bs.length by omega]

/-- WHAT THE WALK IS TOLD OF A SLICE OF INTEGERS THAT CAME IN (the shells' own words). -/
def IsRow (k : IntKind) (w : World) (a : Option Addr) (len cap : Nat) (zs : List Int) : Prop :=
  (a = none ∧ len = 0 ∧ cap = 0 ∧ zs = []) ∨
  ∃ x, a = some x ∧ len ≤ cap ∧ cap ≤ maxLen ∧ zs.length = cap ∧ (∀ i, i < zs.length → w.cell? (x.add i) = some (.int k (zs.getD i 0))) ∧ ∀ n ∈ zs, (Lit.int k n).wf = true

theorem clone_nil (w : World) :
    Calls Try.prog 9 #[.slice none 0 0] w fun e w' => e = .returned (.slice none 0 0) ∧ w' = w := by
  have hq := fun (W : World) => Lib.run_eql_slice_nil (P := Try.prog) W 22 5 none 0 0 0 0 Try.underlying22
  go_enter Try.func9, Try.ntmps9
  go_wp2
  go_ret
  exact ⟨rfl, rfl⟩

set_option maxHeartbeats 800000 in
theorem clone_some (x : Addr) (len cap : Nat) (zs : List Int) (w : World) (hlc : len ≤ cap) (hz : zs.length = cap) (hl : len ≤ 1048576)
    (hc : ∀ i, i < zs.length → w.cell? (x.add i) = some (.int .u8 (zs.getD i 0))) :
    Calls Try.prog 9 #[.slice (some x) len cap] w fun e w' => e = .returned (.slice (some ⟨w.heap.size, 0, none⟩) len len) ∧
      w'.ownsRow w.heap.size 5 1 (.slice (some ⟨w.heap.size, 0, none⟩) len len) len ((zs.take len).map (Value.int .u8)) ∧ Below w.heap.size w w' := by
  obtain ⟨i0, hi, hz0, hz1, hz2⟩ := info_parts Try.info5
  have hinfo : (Try.prog.info? 5).map (·.size) = some 1 := by rw [hi]; simp [hz1]
  have hq := fun (W : World) => Lib.run_eql_slice_nil (P := Try.prog) W 22 5 (some x) len cap 0 0 Try.underlying22
  go_enter Try.func9, Try.ntmps9
  go_wp2_with (at_make; refine wpList_make_full _ rfl _ _ 22 rfl w.heap.size 5 i0 (.int .u8 0) 1 Try.underlying22 hi hz0 hz1 _ _ _ _ len rfl rfl (by omega) (by omega) ?b2 ?b3 (Nat.le_refl _) ?_)
  case b2 => rw [hz2]; omega
  case b3 => unfold maxLen; omega
  intro w0 hown0 hgrow0
  obtain ⟨cs, hcs⟩ : ∃ cs, cs = (zs.take len).map (Value.int .u8) := ⟨_, rfl⟩
  have hcl : cs.length = len := by rw [hcs]; simp; omega
  obtain ⟨cur, hcur, hcz⟩ : ∃ cur : Array Value, w0.heap[w.heap.size]? = some (.cells cur 5 (0, 0)) ∧ cur.size = len := by
    rcases hown0.2 with ⟨h, _⟩ | ⟨g, cap', cur, h1, _, h3, _, _, h6, _⟩
    · cases h
    · simp only [Value.slice.injEq, Option.some.injEq, Addr.mk.injEq] at h1
      obtain ⟨⟨rfl, _⟩, _, rfl⟩ := h1
      exact ⟨cur, h3, by simpa using h6⟩
  have hsrc : ∀ j v, cs[j]? = some v → w0.cell? (x.add j) = some v := by
    intro j v hj
    have hjl : j < len := by have := (List.getElem?_eq_some_iff.1 hj).1; omega
    refine hgrow0.cell (a := x.add j) ?_ (by simp)
    rw [hc j (by omega)]
    rw [hcs] at hj
    simp [hjl, show j < zs.length by omega] at hj
    simp [List.getD, show j < zs.length by omega, hj]
  have hone : ∀ v ∈ cs, v.oneCell' = true := by rw [hcs]; exact ints_oneCell _ _
  have HCS : Hid (cs = (zs.take len).map (Value.int .u8)) := hcs
  have hcp := run_copy_row (P := Try.prog) w0 22 22 3 5 w.heap.size 0 len len x len cap cur 5 cs Try.underlying22 hinfo hcur (by simp [hcl]) hsrc (by omega) hone
  have hB0 : Below w.heap.size w w0 := (Below.refl _ _).grown hgrow0 (Nat.le_refl _) (fun k h => by cases h)
  have hYl : (cur.toList.take 0 ++ cs ++ cur.toList.drop (0 + cs.length)).toArray = cs.toArray := by
    rw [List.take_zero, List.nil_append, List.drop_of_length_le (by rw [Array.length_toList]; omega), List.append_nil]
  rw [hYl] at hcp
  have HO : (w0.setRow w.heap.size cs.toArray).ownsRow w.heap.size 5 1 (.slice (some ⟨w.heap.size, 0, none⟩) len len) len cs :=
    ⟨by omega, Or.inr ⟨w.heap.size, len, cs.toArray, rfl, Nat.le_refl _, setRow_heap w0 w.heap.size cur cs.toArray 5 (0, 0) hcur, Nat.le_refl _, by unfold maxLen; omega, by simp [hcl], by simpa using List.take_of_length_le (by omega)⟩⟩
  have HB : Below w.heap.size w (w0.setRow w.heap.size cs.toArray) := below_setRow hB0 (Nat.le_refl _) _
  clear hcs hsrc hc hYl hown0 hgrow0 hB0
  go_wp2_with fail
  go_ret
  rw [← HCS.out]
  exact ⟨rfl, HO, HB⟩

/-- 'cloneBytes' at every slice of at most a mebibyte. -/
theorem clone_any (a : Option Addr) (len cap : Nat) (zs : List Int) (w : World) (h : IsRow .u8 w a len cap zs) (hl : len ≤ 1048576) :
    Calls Try.prog 9 #[.slice a len cap] w fun e w' => ∃ v, e = .returned v ∧ w'.ownsRow w.heap.size 5 1 v len ((zs.take len).map (Value.int .u8)) ∧ Below w.heap.size w w' := by
  rcases h with ⟨rfl, rfl, rfl, rfl⟩ | ⟨x, rfl, h1, h2, h3, h4, h5⟩
  · refine (clone_nil w).mono ?_
    rintro e w' ⟨rfl, rfl⟩
    exact ⟨_, rfl, World.ownsRow_nil _ _ _ _, Below.refl _ _⟩
  · refine (clone_some x len cap zs w h1 h3 hl h4).mono ?_
    rintro e w' ⟨rfl, h6, h7⟩
    exact ⟨_, rfl, h6, h7⟩

theorem IsRow.len_le {w : World} {a : Option Addr} {len cap : Nat} {zs : List Int} (h : IsRow .u8 w a len cap zs) : len ≤ 9223372036854775807 := by
  rcases h with ⟨_, rfl, _⟩ | ⟨x, _, h1, h2, _⟩
  · omega
  · unfold maxLen at h2; omega

theorem IsRow.bytes {w : World} {a : Option Addr} {len cap : Nat} {zs : List Int} (h : IsRow .u8 w a len cap zs) : ∀ c ∈ zs.take len, 0 ≤ c ∧ c ≤ 255 := by
  intro c hc
  rcases h with ⟨_, _, _, rfl⟩ | ⟨x, _, _, _, _, _, h5⟩
  · simp at hc
  · exact bounds_u8 (h5 c (List.mem_of_mem_take hc))

/-- A row of the call's own is a slice of just its length. -/
theorem owned_shape {w : World} {base : Nat} {v : Value} {n : Nat} {xs : List Value} (h : w.ownsRow base 5 1 v n xs) : ∃ a c, v = .slice a n c := by
  rcases h.2 with ⟨rfl, rfl⟩ | ⟨g, cap, cur, rfl, _⟩
  · exact ⟨none, 0, rfl⟩
  · exact ⟨_, _, rfl⟩

end Go.Proofs.Qxb6600336a
