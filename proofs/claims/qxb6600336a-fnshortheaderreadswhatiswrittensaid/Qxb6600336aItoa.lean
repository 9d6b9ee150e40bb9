/-
  SEAT b6600336a: THE CONTRACT OF 'appendItoa' (12) at a row of the call's own that has room.
-/
import Derived.Test.Qxb6600336aDec
import Derived.Laws.CopyRow
namespace Go.Proofs.Qxb6600336a
open Go.ChangeShapes Go.WideShapes Go.ChangeAt Go.RowKit
set_option linter.unusedVariables false

theorem Try.info5 : (Try.prog.info? 5).map (fun i => (i.zero, i.size, i.bytes)) = some (some (.int .u8 0), 1, 1) := by kernel_rfl

theorem grownBy_trans {w a b : World} {r : Option Nat} (h1 : w.grownBy a r) (h2 : a.grownBy b r) : w.grownBy b r :=
  ⟨h2.os.trans h1.os, h2.tape.trans h1.tape, h2.output.trans h1.output, Nat.le_trans h1.size h2.size, fun k hk hne => (h2.block k (by have := h1.size; omega) hne).trans (h1.block k hk hne)⟩

set_option maxHeartbeats 800000 in
theorem itoa_zero (base g k cap : Nat) (xs : List Int) (w : World) (ho : w.ownsRow base 5 1 (.slice (some ⟨g, 0, none⟩) k cap) k (xs.map (Value.int .u8))) (hroom : k + 20 ≤ cap) :
    Calls Try.prog 12 #[.slice (some ⟨g, 0, none⟩) k cap, .int .i64 0] w fun e w' => e = .returned (.slice (some ⟨g, 0, none⟩) (k + 1) cap) ∧
      w'.ownsRow base 5 1 (.slice (some ⟨g, 0, none⟩) (k + 1) cap) (k + 1) ((xs ++ [48]).map (Value.int .u8)) ∧ w.grownBy w' (some g) := by
  obtain ⟨i0, hi, hz0, hz1, hz2⟩ := info_parts Try.info5
  go_enter Try.func12, Try.ntmps12
  go_wp2_with (at_builtin; refine wpList_append_fits _ rfl _ _ 22 rfl base 5 i0 1 Try.underlying22 hi hz1 g k cap (xs.map (Value.int .u8)) rfl (ho.alloc _) ⟨w.heap.size, 0, none⟩ 1 1 [.int .u8 48] rfl rfl ?c1 ?c2 ?c3 ?_)
  case c1 =>
    intro j u hj
    match j, hj with
    | 0, hj => simp at hj; subst hj; simp [Addr.add]
  case c2 => intro u hu; simp at hu; subst hu; rfl
  case c3 => omega
  intro w1 hown1 hgrow1
  go_wp2
  go_ret
  exact ⟨rfl, by simpa using hown1, grownBy_trans (World.grownBy_alloc _ _ _) hgrow1⟩

theorem heap_set {w : World} {g : Nat} {cur : Array Value} {t : TypeId} (hg : w.heap[g]? = some (.cells cur t (0, 0))) (o : Nat) (v : Value) :
    (w.setCell ⟨g, o, none⟩ v).heap[g]? = some (.cells (cur.setIfInBounds o v) t (0, 0)) := by
  rw [setCell_eq_setRow w g o cur t (0, 0) v hg]; exact setRow_heap w g cur _ t _ hg

theorem cell_heap {w : World} {g : Nat} {cur : Array Value} {t : TypeId} (hg : w.heap[g]? = some (.cells cur t (0, 0))) (o : Nat) (h : o < cur.size) :
    w.cell? ⟨g, o, none⟩ = some cur[o] ∧ w.frozen? ⟨g, o, none⟩ = false := by
  exact ⟨by simp [World.cell?, hg, h], by simp [World.frozen?, hg]⟩

theorem heap_set_list {w : World} {g : Nat} {cur : List Value} {t : TypeId} (hg : w.heap[g]? = some (.cells cur.toArray t (0, 0))) (o : Nat) (v : Value) :
    (w.setCell ⟨g, o, none⟩ v).heap[g]? = some (.cells (cur.set o v).toArray t (0, 0)) := by
  rw [heap_set hg]; simp

theorem grownBy_set {w w' : World} (h : w.grownBy w' none) {g : Nat} (hg : w.heap.size ≤ g) {o : Nat} (v : Value) : w.grownBy (w'.setCell ⟨g, o, none⟩ v) none :=
  ⟨h.os, h.tape, h.output, by have := h.size; simpa [World.setCell] using this, fun k hk hne => by rw [Below.heap_setCell _ _ _ _ (by show k ≠ g; omega)]; exact h.block k hk hne⟩

theorem digs_step (n m q : Nat) (cur : List Value) (ds : List Int) (hq : 5 < q) (hq24 : q ≤ 24) (hm : 0 < m)
    (h : cur.length = 24 ∧ cur.drop q = ds.map (Value.int .u8) ∧ digs 20 n = digs (q - 4) m ++ ds ∧ m < 10 ^ (q - 5) ∧ (q = 24 → 0 < m)) :
    (cur.set (q - 1) (.int .u8 (48 + (m : Int) % 10))).length = 24 ∧ (cur.set (q - 1) (.int .u8 (48 + (m : Int) % 10))).drop (q - 1) = ((48 + (m : Int) % 10) :: ds).map (Value.int .u8) ∧
      digs 20 n = digs (q - 1 - 4) (m / 10) ++ ((48 + (m : Int) % 10) :: ds) ∧ m / 10 < 10 ^ (q - 1 - 5) ∧ (q - 1 = 24 → 0 < m / 10) := by
  obtain ⟨h1, h2, h3, h4, h5⟩ := h
  refine ⟨by simp [h1], ?_, ?_, ?_, fun e => by omega⟩
  · rw [List.drop_eq_getElem_cons (by simp; omega)]
    simp only [List.getElem_set_self, List.map_cons]
    rw [show q - 1 + 1 = q by omega, ← h2, List.drop_set_of_lt (by omega)]
  · rw [h3]
    obtain ⟨f, rfl⟩ : ∃ f, q = f + 5 := ⟨q - 5, by omega⟩
    rw [show f + 5 - 4 = f + 1 by omega, show f + 5 - 1 - 4 = f by omega, digs, if_neg (by omega)]
    simp
  · obtain ⟨f, rfl⟩ : ∃ f, q = f + 6 := ⟨q - 6, by omega⟩
    rw [show f + 6 - 5 = f + 1 by omega, Nat.pow_succ] at h4
    rw [show f + 6 - 1 - 5 = f by omega]
    omega

theorem sizeOf_run {P : Program} {t : TypeId} {i : TypeInfo} (h : P.info? t = some i) (w : World) : (sizeOf t).run P w = .ok i.size w := by
  simp [sizeOf, typeInfo, h]

theorem grownBy_weak {w a : World} (h : w.grownBy a none) (r : Option Nat) : w.grownBy a r :=
  ⟨h.os, h.tape, h.output, h.size, fun k hk _ => h.block k hk (by simp)⟩

set_option maxHeartbeats 1600000 in
theorem itoa_pos (base g k cap : Nat) (xs : List Int) (n : Nat) (w : World) (ho : w.ownsRow base 5 1 (.slice (some ⟨g, 0, none⟩) k cap) k (xs.map (Value.int .u8))) (hroom : k + 20 ≤ cap)
    (h0 : 0 < n) (h63 : n ≤ 9223372036854775807) :
    Calls Try.prog 12 #[.slice (some ⟨g, 0, none⟩) k cap, .int .i64 n] w fun e w' => e = .returned (.slice (some ⟨g, 0, none⟩) (k + (digs 20 n).length) cap) ∧
      w'.ownsRow base 5 1 (.slice (some ⟨g, 0, none⟩) (k + (digs 20 n).length) cap) (k + (digs 20 n).length) ((xs ++ digs 20 n).map (Value.int .u8)) ∧ w.grownBy w' (some g) := by
  obtain ⟨i0, hi, hz0, hz1, hz2⟩ := info_parts Try.info5
  have hn0 : ¬ n = 0 := by omega
  go_enter Try.func12, Try.ntmps12
  go_wp2
  go_loopw [1, 6] (fun a k wr => ∃ (m q : Nat) (cur : List Value) (ds : List Int), m ≤ 9223372036854775807 ∧ 5 ≤ q ∧ q ≤ 24 ∧ a = .int .i64 m ∧ k = .int .i64 q ∧ Hid (wr.heap[w.heap.size]? = some (.cells cur.toArray 35 (0, 0))) ∧
      Hid (cur.length = 24 ∧ cur.drop q = ds.map (Value.int .u8) ∧ digs 20 n = digs (q - 4) m ++ ds ∧ m < 10 ^ (q - 5) ∧ (q = 24 → 0 < m)) ∧ Hid (w.grownBy wr none))
    (fun a _ _ => (intOf a).toNat)
  case atStart => exact ⟨n, 24, List.replicate 24 (.int .u8 0), [], h63, by omega, by omega, rfl, rfl, heap_alloc_new w _, ⟨rfl, rfl, by simp, Nat.lt_of_le_of_lt h63 (by decide), fun _ => h0⟩, World.grownBy_alloc _ _ _⟩
  case round =>
    obtain ⟨m, q, cur, ds, hm63, hq5, hq24, rfl, rfl, HB, HR, HG⟩ := hrel
    by_cases hm : 0 < m
    · have hq : 5 < q := by
        obtain ⟨_, _, _, h4, _⟩ := HR.out
        by_cases e : q = 5
        · subst e; simp at h4; omega
        · omega
      have hsz : q - 1 < cur.toArray.size := by have := HR.out.1; simp; omega
      obtain ⟨hcell, hfroz⟩ := cell_heap HB.out (q - 1) hsz
      obtain ⟨old, hold⟩ : ∃ old, old = cur.toArray[q - 1] := ⟨_, rfl⟩
      rw [← hold] at hcell
      clear hold
      have HS : Hid _ := digs_step n m q cur ds hq hq24 hm HR.out
      go_wp2
      go_roundw
      case rel => exact ⟨m / 10, q - 1, _, _, by omega, by omega, by omega, by go_num, by congr 1; omega, heap_set_list HB.out (q - 1) _, HS, grownBy_set HG.out (Nat.le_refl _) _⟩
      case measure => simp [intOf]; omega
    · have hm0 : m = 0 := by omega
      subst hm0
      have hq : q < 24 := by
        have := HR.out.2.2.2.2
        by_cases e : q = 24
        · have := this e; omega
        · omega
      have hsl : ∀ W, (Instr.sliceAt 35 (.pointer (some ⟨w.heap.size, 0, none⟩)) (some (.int .i64 (q : Int))) none none).run Try.prog W = .ok (.slice (some ⟨w.heap.size, q, none⟩) (24 - q) (24 - q)) W := fun W => by
        have hal : Try.prog.arrayLen 35 = 24 := by kernel_rfl
        have hel : Try.prog.elem 35 = 5 := by kernel_rfl
        rw [run_sliceAt_array_l W 35 ⟨w.heap.size, 0, none⟩ (by kernel_rfl) .i64 (q : Int) (by omega) (by rw [hal]; omega), hal, hel, sizeOf_run hi, hz1]
        simp [slicedAt, Result.andThen, show ¬ 24 = q by omega, Addr.add_lit]
      have ho' : wr.ownsRow base 5 1 (.slice (some ⟨g, 0, none⟩) k cap) k (xs.map (Value.int .u8)) := ho.kept HG.out (Or.inr (by simp [Value.ownBlock]))
      have hlen : ds.length = 24 - q := by
        have := congrArg List.length HR.out.2.1
        have h24 := HR.out.1
        simp at this; omega
      have hds : Hid (digs 20 n = ds) := by have := HR.out.2.2.1; rw [digs_zero] at this; exact this
      have hle := digs_len 20 n
      have hle' : 24 - q ≤ 20 := by rw [hds.out] at hle; omega
      clear hle
      go_wp2_with (at_builtin; refine wpList_append_fits _ rfl _ _ 22 rfl base 5 i0 1 Try.underlying22 hi hz1 g k cap (xs.map (Value.int .u8)) rfl ho' ⟨w.heap.size, q, none⟩ (24 - q) (24 - q) (ds.map (Value.int .u8)) rfl ?c0 ?c1 ?c2 ?c3 ?_)
      case c0 => simp [hlen]
      case c1 =>
        intro j u hj
        rw [← HR.out.2.1, List.getElem?_drop] at hj
        have := HB.out
        rw [Addr.add_lit]; simp [World.cell?, this, hj]
      case c2 => exact ints_oneCell _ _
      case c3 => omega
      intro w1 hown1 hgrow1
      go_wp2
      go_ret
      rw [hds.out, hlen, List.map_append]
      exact ⟨rfl, hown1, grownBy_trans (grownBy_weak HG.out _) hgrow1⟩

/-- 'appendItoa' at every number that is not negative. -/
theorem itoa_any (base g k cap : Nat) (xs : List Int) (n : Nat) (w : World) (ho : w.ownsRow base 5 1 (.slice (some ⟨g, 0, none⟩) k cap) k (xs.map (Value.int .u8))) (hroom : k + 20 ≤ cap)
    (h63 : n ≤ 9223372036854775807) :
    Calls Try.prog 12 #[.slice (some ⟨g, 0, none⟩) k cap, .int .i64 n] w fun e w' => e = .returned (.slice (some ⟨g, 0, none⟩) (k + (itoa n).length) cap) ∧
      w'.ownsRow base 5 1 (.slice (some ⟨g, 0, none⟩) (k + (itoa n).length) cap) (k + (itoa n).length) ((xs ++ itoa n).map (Value.int .u8)) ∧ w.grownBy w' (some g) := by
  by_cases h0 : n = 0
  · subst h0
    exact itoa_zero base g k cap xs w ho hroom
  · have e : itoa n = digs 20 n := by simp [itoa, h0]
    rw [e]
    exact itoa_pos base g k cap xs n w ho hroom (by omega) h63

end Go.Proofs.Qxb6600336a
