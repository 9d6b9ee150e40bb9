/-
  SEAT b6600336aD: THE WALK OF 'FnAppendEscapedUndoesEscaping' (4).
-/
import Derived.Test.Qxb6600336aDoorUndoAll
namespace Go.Proofs.Qxb6600336aDoor.fnAppendEscapedUndoesEscaping
open Go.ChangeShapes Go.WideShapes Go.ChangeAt Go.RowKit
set_option linter.unusedVariables false

theorem owned_at {w : World} {base : Nat} {a : Option Addr} {n c : Nat} {bs : List Int} (h : w.ownsRow base 5 1 (.slice a n c) n (bs.map (Value.int .u8))) :
    ∀ k, k < n → ∃ g, a = some ⟨g, 0, none⟩ ∧ w.cell? ⟨g, k, none⟩ = some (.int .u8 (bs.getD k 0)) := by
  intro k hk
  have hl : bs.length = n := by have := h.1; simpa using this
  rcases h.2 with ⟨_, h0⟩ | ⟨g, cap, cur, h1, _⟩
  · omega
  · simp only [Value.slice.injEq] at h1
    obtain ⟨rfl, _, rfl⟩ := h1
    refine ⟨g, rfl, ?_⟩
    rw [h.cellAt k (by omega)]
    simp [List.getD, show k < bs.length by omega]

/-- The line as it is read, whatever world keeps it. -/
theorem line_in {w w' : World} {base g n cap : Nat} {bs : List Int} (h : w.ownsRow base 5 1 (.slice (some ⟨g, 0, none⟩) n cap) n (bs.map (Value.int .u8))) (hb : ∀ c ∈ bs, 0 ≤ c ∧ c ≤ 255) (hg : g < w.heap.size) (hB : Below w.heap.size w w') : Line w' g bs := by
  have hl : bs.length = n := by have := h.1; simpa using this
  refine ⟨fun j hj => ?_, fun j hj => hb _ (by simp [List.getD, hj])⟩
  rw [hB.cell (p := ⟨g, j, none⟩) hg, h.cellAt j (by omega)]
  simp [List.getD, hj]

/-- One round: where the next escape stands, what it gives, where it ends. -/
theorem undo_step {bs : List Int} {fs : List (Bool × Bool)} {k : Nat} (hk : k < bs.length) (hf : fs.length = bs.length) (hb : ∀ c ∈ bs, 0 ≤ c ∧ c ≤ 255) :
    escB (encAll bs fs) (encAll (bs.take k) (fs.take k)).length = bs.getD k 0 ∧ escL (encAll bs fs) (encAll (bs.take k) (fs.take k)).length + 1 = (encAll (bs.take (k + 1)) (fs.take (k + 1))).length ∧
      (encAll (bs.take k) (fs.take k)).length < (encAll (bs.take (k + 1)) (fs.take (k + 1))).length ∧ (encAll (bs.take (k + 1)) (fs.take (k + 1))).length ≤ (encAll bs fs).length := by
  have hby := hb (bs.getD k 0) (by simp [List.getD, hk])
  have sp := encAll_split k bs fs hk hf
  have d := dec_enc (encAll (bs.take k) (fs.take k)) (encAll (bs.drop (k + 1)) (fs.drop (k + 1))) (bs.getD k 0) (fs.getD k (false, false)) hby.1 hby.2
  rw [← sp] at d
  have hfk : k < fs.length := by omega
  have e : encAll (bs.take (k + 1)) (fs.take (k + 1)) = encAll (bs.take k) (fs.take k) ++ enc (bs.getD k 0) (fs.getD k (false, false)) := by
    have e2 : fs.take (k + 1) = fs.take k ++ [fs.getD k (false, false)] := by
      rw [List.take_succ_eq_append_getElem hfk]; simp [List.getD, hfk]
    rw [e2]
    exact enc_step hk (by simp; omega) _ rfl _
  have el := (enc_len (bs.getD k 0) (fs.getD k (false, false))).1
  rw [e, List.length_append]
  refine ⟨d.1, d.2, by omega, ?_⟩
  rw [sp, List.length_append, List.length_append]
  omega

set_option maxHeartbeats 3200000 in
theorem walk_in (a0 : Option Addr) (len0 cap0 : Nat) (z0 : List Int) (a1 : Int) (w : World) (w0 : IsRow .u8 w a0 len0 cap0 z0) (w1 : (Lit.int .u64 a1).wf = true) (hl0 : len0 ≤ 65536)
    (ev : Value) (hv : w.cell? ⟨0, 0, none⟩ = some ev) (hev : ev = .nilIface ∨ ∃ te pe, ev = .iface te pe) :
    Calls Tryd.prog 4 #[.slice a0 len0 cap0, .int .u64 a1] w fun e w' => e = .returned (.bool true) ∧ Below w.heap.size w w' := by
  have hC := clone_any a0 len0 cap0 z0 w w0 (by omega)
  have hby := w0.bytes
  clear w0
  have hG : 0 < w.heap.size := lt_of_cell' hv
  go_enter Tryd.func4, Tryd.ntmps4
  go_wp2_with (go_at_call 9; go_in)
  refine hC.mono ?_
  rintro e W1 ⟨v0, rfl, ho0, hB1⟩
  obtain ⟨ad0, c0, rfl⟩ := owned_shape ho0
  generalize hbs : z0.take len0 = bs at ho0 hby
  clear hbs hC
  have hbl : bs.length = len0 := by have := ho0.1; simpa using this
  have hE := escapeAll_any ad0 len0 c0 bs a1 W1 hl0 hbl w1 (owned_at ho0) (fun k hk => hby _ (by simp [List.getD, show k < bs.length by omega]))
  go_wp2_with fail
  refine hE.mono ?_
  rintro e W2 ⟨fs, hfl, rfl, hoL, hB2⟩
  clear hE
  have ho2 := owns_below ho0 hB2
  have hB : Below w.heap.size w W2 := hB1.trans (hB2.mono hB1.size)
  have hv2 : W2.cell? ⟨0, 0, none⟩ = some ev := (hB.cell (p := ⟨0, 0, none⟩) hG).trans hv
  have hgL : W1.heap.size < W2.heap.size := by
    rcases hoL.2 with ⟨h, _⟩ | ⟨g, cap, cur, h1, _, h3, _⟩
    · cases h
    · simp only [Value.slice.injEq, Option.some.injEq, Addr.mk.injEq] at h1
      obtain ⟨⟨rfl, _⟩, _⟩ := h1
      exact (Array.getElem?_eq_some_iff.1 h3).1
  have hlb := encAll_byte bs fs hby
  have hll := encAll_len bs fs
  have hst := fun k (hk : k < bs.length) => undo_step (k := k) hk (by omega : fs.length = bs.length) hby
  obtain ⟨pos, hpos⟩ : ∃ pos : Nat → Nat, ∀ k, (encAll (bs.take k) (fs.take k)).length = pos k := ⟨_, fun _ => rfl⟩
  simp only [hpos] at hst
  have hp0 : pos 0 = 0 := by rw [← hpos]; simp [encAll]
  have hpn : pos len0 = (encAll bs fs).length := by rw [← hpos, List.take_of_length_le (by omega), List.take_of_length_le (by omega)]
  generalize encAll bs fs = L at hoL hlb hll hst hpn ⊢
  have HST : Hid (∀ k, k < bs.length → escB L (pos k) = bs.getD k 0 ∧ escL L (pos k) + 1 = pos (k + 1) ∧ pos k < pos (k + 1) ∧ pos (k + 1) ≤ L.length) := hst
  have HP0 : Hid (pos 0 = 0) := hp0
  have HPN : Hid (pos len0 = L.length) := hpn
  have HLN : Hid (∀ wr, Below W2.heap.size W2 wr → Line wr W1.heap.size L) := fun wr hb => line_in hoL hlb hgL hb
  have hL3 : L.length ≤ 196608 := by omega
  have hL4 : L.length ≤ 3 * len0 := by omega
  have HV : Hid (W2.cell? ⟨0, 0, none⟩ = some ev) := hv2
  have hz2 : 0 < W2.heap.size := by omega
  clear hst hp0 hpn hpos hoL hlb hll hv hv2 ho0 hB1 hB2 hfl
  go_wp2
  go_loopw [6, 7] (fun t u wr => ∃ (k i : Nat), k ≤ len0 ∧ i ≤ L.length ∧ u = .int .i64 i ∧ Hid (i = pos k) ∧ wr.ownsRow W2.heap.size 5 1 t k ((bs.take k).map (Value.int .u8)) ∧ Below W2.heap.size W2 wr)
    (fun _ u _ => L.length - (intOf u).toNat)
  case atStart => exact ⟨0, 0, Nat.zero_le _, Nat.zero_le _, rfl, HP0.out.symm, World.ownsRow_nil _ _ _ _, Below.refl _ _⟩
  case round =>
    obtain ⟨k, i, hk, hi, rfl, HI, hown, hBr⟩ := hrel
    by_cases hlt : i < L.length
    · have hkn : k < len0 := by
        by_cases e : k = len0
        · have h1 := HI.out; have h2 := HPN.out; rw [e, h2] at h1; omega
        · omega
      obtain ⟨s1, s2, s3, s4⟩ := HST.out k (by omega)
      rw [← HI.out] at s1 s2 s3
      have H8 := ZZae_any W2.heap.size _ k _ L W1.heap.size (3 * len0) i wr (HLN.out wr hBr) ev ((hBr.cell (p := ⟨0, 0, none⟩) hz2).trans HV.out) hev hown (by omega) hBr.size hlt (by omega) hL4
      have hblk := hown.lt
      rw [s1] at H8
      generalize escL L i = EL at H8 s2
      have e1 : i ≤ EL := by omega
      have e2 : EL < L.length := by omega
      have HE : Hid (EL + 1 = pos (k + 1)) := s2
      have t1 : ¬ (EL : Int) < (i : Int) := by omega
      have t2 : ¬ (L.length : Int) ≤ (EL : Int) := by omega
      have htk : Hid ((bs.take k).map (Value.int .u8) ++ [.int .u8 (bs.getD k 0)] = (bs.take (k + 1)).map (Value.int .u8)) := by
        show _ = _
        rw [take_snoc' bs k (by omega), List.map_append]; rfl
      generalize bs.getD k 0 = B0 at H8 htk
      clear s1 s2 s3 s4
      go_wp2_with fail
      refine H8.mono ?_
      rintro e w' ⟨v', rfl, h1, h2, h3⟩
      rw [htk.out] at h1
      have hB' : Below W2.heap.size W2 w' := hBr.grown h3 hBr.size (fun k hk => (hblk k hk).1)
      clear H8 h2 h3 hblk hown hBr htk
      go_wp2
      go_roundw
      case rel => exact ⟨k + 1, EL + 1, by omega, by omega, by go_num, HE, h1, hB'⟩
      case measure => simp [intOf]; omega
    · have hkn : k = len0 := by
        by_cases e : k < len0
        · obtain ⟨s1, s2, s3, s4⟩ := HST.out k (by omega)
          rw [← HI.out] at s3
          omega
        · omega
      subst hkn
      rw [List.take_of_length_le (by omega)] at hown
      obtain ⟨a, c, hv⟩ := owned_shape hown
      subst hv
      have ho3 := owns_below ho2 hBr
      have HEQ := equal_any a ad0 k c c0 bs wr (by omega) (owned_at hown) (owned_at ho3)
      have hBw : Below w.heap.size w wr := hB.trans (hBr.mono hB.size)
      clear hown ho3 ho2 hBr
      go_wp2_with fail
      refine HEQ.mono ?_
      rintro e w' ⟨rfl, hb⟩
      go_wp2
      go_ret
      exact ⟨rfl, hBw.trans (hb.mono hBw.size)⟩

theorem walk (a0 : Option Addr) (len0 cap0 : Nat) (z0 : List Int) (a1 : Int) (w : World) (w0 : IsRow .u8 w a0 len0 cap0 z0) (w1 : (Lit.int .u64 a1).wf = true)
    (ev : Value) (hv : w.cell? ⟨0, 0, none⟩ = some ev) (hev : ev = .nilIface ∨ ∃ te pe, ev = .iface te pe) :
    Calls Tryd.prog 4 #[.slice a0 len0 cap0, .int .u64 a1] w fun e w' => e = .returned (.bool true) ∧ Below w.heap.size w w' := by
  have hl0 := w0.len_le
  by_cases h0 : 65536 < len0
  · clear w0 w1 hv hev
    by_cases h00 : 1048576 < len0
    · go_enter Tryd.func4, Tryd.ntmps4
      go_wp2
      go_ret
      exact ⟨rfl, Below.refl _ _⟩
    · go_enter Tryd.func4, Tryd.ntmps4
      go_wp2
      go_ret
      exact ⟨rfl, Below.refl _ _⟩
  · exact walk_in a0 len0 cap0 z0 a1 w w0 w1 (by omega) ev hv hev

end Go.Proofs.Qxb6600336aDoor.fnAppendEscapedUndoesEscaping
