/-
  SEAT b6600336aD: SMALL LAWS ON WORLDS AND ROWS; THE CONTRACT OF 'cloneBytes' (6). (The same texts as in seat b6600336a, over this seat's program.)
-/
import Derived.Test.Qxb6600336aDoorPu
import Derived.ProofKit
import Derived.OpenShut
import Derived.ShutString
import Derived.ChangeOld
import Derived.Below
import Derived.Laws.CopyOwn
import Derived.WalkSpells
import Derived.WalkSmall
namespace Go.Proofs.Qxb6600336aDoor
open Go.ChangeShapes Go.WideShapes Go.ChangeAt Go.RowKit
set_option linter.unusedVariables false

theorem Tryd.info5 : (Tryd.prog.info? 5).map (fun i => (i.zero, i.size, i.bytes)) = some (some (.int .u8 0), 1, 1) := by kernel_rfl

theorem grownBy_trans {w a b : World} {r : Option Nat} (h1 : w.grownBy a r) (h2 : a.grownBy b r) : w.grownBy b r :=
  ⟨h2.os.trans h1.os, h2.tape.trans h1.tape, h2.output.trans h1.output, Nat.le_trans h1.size h2.size, fun k hk hne => (h2.block k (by have := h1.size; omega) hne).trans (h1.block k hk hne)⟩

theorem sizeOf_run {P : Program} {t : TypeId} {i : TypeInfo} (h : P.info? t = some i) (w : World) : (sizeOf t).run P w = .ok i.size w := by
  simp [sizeOf, typeInfo, h]

theorem grownBy_weak {w a : World} (h : w.grownBy a none) (r : Option Nat) : w.grownBy a r :=
  ⟨h.os, h.tape, h.output, h.size, fun k hk _ => h.block k hk (by simp)⟩

/-- WHAT THE WALK IS TOLD OF A SLICE OF INTEGERS THAT CAME IN (the shells' own words). -/
def IsRow (k : IntKind) (w : World) (a : Option Addr) (len cap : Nat) (zs : List Int) : Prop :=
  (a = none ∧ len = 0 ∧ cap = 0 ∧ zs = []) ∨
  ∃ x, a = some x ∧ len ≤ cap ∧ cap ≤ maxLen ∧ zs.length = cap ∧ (∀ i, i < zs.length → w.cell? (x.add i) = some (.int k (zs.getD i 0))) ∧ ∀ n ∈ zs, (Lit.int k n).wf = true

theorem clone_nil (w : World) :
    Calls Tryd.prog 6 #[.slice none 0 0] w fun e w' => e = .returned (.slice none 0 0) ∧ w' = w := by
  have hq := fun (W : World) => Lib.run_eql_slice_nil (P := Tryd.prog) W 22 5 none 0 0 0 0 Tryd.underlying22
  go_enter Tryd.func6, Tryd.ntmps6
  go_wp2
  go_ret
  exact ⟨rfl, rfl⟩

set_option maxHeartbeats 800000 in
theorem clone_some (x : Addr) (len cap : Nat) (zs : List Int) (w : World) (hlc : len ≤ cap) (hz : zs.length = cap) (hl : len ≤ 1048576)
    (hc : ∀ i, i < zs.length → w.cell? (x.add i) = some (.int .u8 (zs.getD i 0))) :
    Calls Tryd.prog 6 #[.slice (some x) len cap] w fun e w' => e = .returned (.slice (some ⟨w.heap.size, 0, none⟩) len len) ∧
      w'.ownsRow w.heap.size 5 1 (.slice (some ⟨w.heap.size, 0, none⟩) len len) len ((zs.take len).map (Value.int .u8)) ∧ Below w.heap.size w w' := by
  obtain ⟨i0, hi, hz0, hz1, hz2⟩ := info_parts Tryd.info5
  have hinfo : (Tryd.prog.info? 5).map (·.size) = some 1 := by rw [hi]; simp [hz1]
  have hq := fun (W : World) => Lib.run_eql_slice_nil (P := Tryd.prog) W 22 5 (some x) len cap 0 0 Tryd.underlying22
  go_enter Tryd.func6, Tryd.ntmps6
  go_wp2_with (at_make; refine wpList_make_full _ rfl _ _ 22 rfl w.heap.size 5 i0 (.int .u8 0) 1 Tryd.underlying22 hi hz0 hz1 _ _ _ _ len rfl rfl (by omega) (by omega) ?b2 ?b3 (Nat.le_refl _) ?_)
  case b2 => rw [hz2]; omega
  case b3 => unfold maxLen; omega
  intro w0 hown0 hgrow0
  obtain ⟨cs, hcs⟩ : ∃ cs, cs = (zs.take len).map (Value.int .u8) := ⟨_, rfl⟩
  have hcl : cs.length = len := by rw [hcs]; simp; omega
  obtain ⟨cur, hcur, hcz⟩ : ∃ cur : Array Value, w0.heap[w.heap.size]? = some (.cells cur 5 (0, 0)) ∧ cur.size = len := by
    rcases hown0.2 with ⟨h, _⟩ | ⟨g, cap', cur, h1, _, h3, _, _, h6, _⟩
    · cases h
    · simp only [Value.slice.injEq, Option.some.injEq, Addr.mk.injEq] at h1
      obtain ⟨⟨rfl, _⟩, _, rfl⟩ := h1
      exact ⟨cur, h3, by simpa using h6⟩
  have hsrc : ∀ j v, cs[j]? = some v → w0.cell? (x.add j) = some v := by
    intro j v hj
    have hjl : j < len := by have := (List.getElem?_eq_some_iff.1 hj).1; omega
    refine hgrow0.cell (a := x.add j) ?_ (by simp)
    rw [hc j (by omega)]
    rw [hcs] at hj
    simp [hjl, show j < zs.length by omega] at hj
    simp [List.getD, show j < zs.length by omega, hj]
  have hone : ∀ v ∈ cs, v.oneCell' = true := by rw [hcs]; exact ints_oneCell _ _
  have HCS : Hid (cs = (zs.take len).map (Value.int .u8)) := hcs
  have hcp := run_copy_row (P := Tryd.prog) w0 22 22 3 5 w.heap.size 0 len len x len cap cur 5 cs Tryd.underlying22 hinfo hcur (by simp [hcl]) hsrc (by omega) hone
  have hB0 : Below w.heap.size w w0 := (Below.refl _ _).grown hgrow0 (Nat.le_refl _) (fun k h => by cases h)
  have hYl : (cur.toList.take 0 ++ cs ++ cur.toList.drop (0 + cs.length)).toArray = cs.toArray := by
    rw [List.take_zero, List.nil_append, List.drop_of_length_le (by rw [Array.length_toList]; omega), List.append_nil]
  rw [hYl] at hcp
  have HO : (w0.setRow w.heap.size cs.toArray).ownsRow w.heap.size 5 1 (.slice (some ⟨w.heap.size, 0, none⟩) len len) len cs :=
    ⟨by omega, Or.inr ⟨w.heap.size, len, cs.toArray, rfl, Nat.le_refl _, setRow_heap w0 w.heap.size cur cs.toArray 5 (0, 0) hcur, Nat.le_refl _, by unfold maxLen; omega, by simp [hcl], by simpa using List.take_of_length_le (by omega)⟩⟩
  have HB : Below w.heap.size w (w0.setRow w.heap.size cs.toArray) := below_setRow hB0 (Nat.le_refl _) _
  clear hcs hsrc hc hYl hown0 hgrow0 hB0
  go_wp2_with fail
  go_ret
  rw [← HCS.out]
  exact ⟨rfl, HO, HB⟩

/-- 'cloneBytes' at every slice of at most a mebibyte. -/
theorem clone_any (a : Option Addr) (len cap : Nat) (zs : List Int) (w : World) (h : IsRow .u8 w a len cap zs) (hl : len ≤ 1048576) :
    Calls Tryd.prog 6 #[.slice a len cap] w fun e w' => ∃ v, e = .returned v ∧ w'.ownsRow w.heap.size 5 1 v len ((zs.take len).map (Value.int .u8)) ∧ Below w.heap.size w w' := by
  rcases h with ⟨rfl, rfl, rfl, rfl⟩ | ⟨x, rfl, h1, h2, h3, h4, h5⟩
  · refine (clone_nil w).mono ?_
    rintro e w' ⟨rfl, rfl⟩
    exact ⟨_, rfl, World.ownsRow_nil _ _ _ _, Below.refl _ _⟩
  · refine (clone_some x len cap zs w h1 h3 hl h4).mono ?_
    rintro e w' ⟨rfl, h6, h7⟩
    exact ⟨_, rfl, h6, h7⟩

theorem IsRow.len_le {w : World} {a : Option Addr} {len cap : Nat} {zs : List Int} (h : IsRow .u8 w a len cap zs) : len ≤ 9223372036854775807 := by
  rcases h with ⟨_, rfl, _⟩ | ⟨x, _, h1, h2, _⟩
  · omega
  · unfold maxLen at h2; omega

theorem IsRow.bytes {w : World} {a : Option Addr} {len cap : Nat} {zs : List Int} (h : IsRow .u8 w a len cap zs) : ∀ c ∈ zs.take len, 0 ≤ c ∧ c ≤ 255 := by
  intro c hc
  rcases h with ⟨_, _, _, rfl⟩ | ⟨x, _, _, _, _, _, h5⟩
  · simp at hc
  · exact bounds_u8 (h5 c (List.mem_of_mem_take hc))

/-- A row of the call's own is a slice of just its length. -/
theorem owned_shape {w : World} {base : Nat} {v : Value} {n : Nat} {xs : List Value} (h : w.ownsRow base 5 1 v n xs) : ∃ a c, v = .slice a n c := by
  rcases h.2 with ⟨rfl, rfl⟩ | ⟨g, cap, cur, rfl, _⟩
  · exact ⟨none, 0, rfl⟩
  · exact ⟨_, _, rfl⟩

theorem lt_of_cell' {w : World} {p : Addr} {v : Value} (h : w.cell? p = some v) : p.block < w.heap.size := by
  by_cases hb : p.block < w.heap.size
  · exact hb
  · have : w.heap[p.block]? = none := by simp; omega
    simp [World.cell?, this] at h

theorem add_block (x : Addr) (i : Nat) : (x.add i).block = x.block := by
  unfold Addr.add; split <;> rfl

theorem later {w w' : World} {a : Option Addr} {len cap : Nat} {zs : List Int} (h : IsRow .u8 w a len cap zs) (hb : Below w.heap.size w w') : IsRow .u8 w' a len cap zs := by
  rcases h with h | ⟨x, h1, h2, h3, h4, h5, h6⟩
  · exact Or.inl h
  · refine Or.inr ⟨x, h1, h2, h3, h4, fun i hi => ?_, h6⟩
    rw [hb.cell (lt_of_cell' (h5 i hi))]; exact h5 i hi

theorem owns_below {w w' : World} {base : Nat} {v : Value} {n : Nat} {xs : List Value} (h : w.ownsRow base 5 1 v n xs) (hb : Below w.heap.size w w') : w'.ownsRow base 5 1 v n xs := by
  refine ⟨h.1, ?_⟩
  rcases h.2 with h | ⟨g, cap, cur, h1, h2, h3, h4⟩
  · exact Or.inl h
  · refine Or.inr ⟨g, cap, cur, h1, h2, ?_, h4⟩
    rw [hb.block g (Array.getElem?_eq_some_iff.1 h3).1]; exact h3

/-- The cells that 'append(out, v...)' copies, v a row of the call's own that lies below the row that is written. -/
theorem owned_cells {w w' : World} {base : Nat} {ao : Option Addr} {n c : Nat} {xs : List Value} (h : w.ownsRow base 5 1 (.slice ao n c) n xs) (hw : w.grownBy w' (some w.heap.size)) :
    (ao = none → n = 0 ∧ c = 0) ∧ ∀ ad, ao = some ad → ∀ j u, xs[j]? = some u → w'.cell? (ad.add j) = some u := by
  rcases h.2 with ⟨h1, h2⟩ | ⟨g, cap, cur, h1, h2, h3, h4, h5, h6, h7⟩
  · simp only [Value.slice.injEq] at h1
    obtain ⟨rfl, rfl, rfl⟩ := h1
    exact ⟨fun _ => ⟨rfl, rfl⟩, fun ad e => by cases e⟩
  · simp only [Value.slice.injEq] at h1
    obtain ⟨rfl, _, rfl⟩ := h1
    refine ⟨fun e => (by cases e), fun ad e j u hj => ?_⟩
    cases e
    rw [Addr.add_lit, Nat.zero_add]
    have hjl : j < n := by have := (List.getElem?_eq_some_iff.1 hj).1; have := h.1; omega
    have hg : g < w.heap.size := (Array.getElem?_eq_some_iff.1 h3).1
    refine hw.cell (a := ⟨g, j, none⟩) ?_ (fun e => by have h2 : g = w.heap.size := Option.some.inj e; omega)
    rw [h.cellAt j (by omega)]; exact hj

/-- What leaves all old memory as it was leaves all but a row as it was. -/
theorem grownBy_of_below {w w' : World} (h : Below w.heap.size w w') (r : Option Nat) : w.grownBy w' r :=
  ⟨h.os, h.tape, h.output, h.size, fun k hk _ => h.block k hk⟩

theorem one_new (w : World) (b : Value) : ∀ j u, ([b] : List Value)[j]? = some u → (w.alloc (.cells #[b] 5)).cell? ((⟨w.heap.size, 0, none⟩ : Addr).add j) = some u := by
  intro j u hj
  match j, hj with
  | 0, hj => simp at hj; subst hj; simp [Addr.add]

end Go.Proofs.Qxb6600336aDoor
