/-
  SEAT b6600336aD: 'appendEscaped' (13), 'ZZappendEscaped' (8) AND 'escapeModel' (7), EACH BY ONE CONTRACT OVER THE LINE's BYTES.
-/
import Derived.Test.Qxb6600336aDoorAe
namespace Go.Proofs.Qxb6600336aDoor
open Go.ChangeShapes Go.WideShapes Go.ChangeAt Go.RowKit
set_option linter.unusedVariables false

def hexEsc (bs : List Int) (i : Nat) : Bool := decide (bs.getD i 0 = 120) && decide (i + 2 < bs.length) && decide (0 ≤ hexV (bs.getD (i + 1) 0)) && decide (0 ≤ hexV (bs.getD (i + 2) 0))
/-- The byte that the escape at place i stands for. -/
def escB (bs : List Int) (i : Nat) : Int := if hexEsc bs i = true then hexV (bs.getD (i + 1) 0) * 16 + hexV (bs.getD (i + 2) 0) else named (bs.getD i 0)
/-- The place of the escape's last byte. -/
def escL (bs : List Int) (i : Nat) : Nat := if hexEsc bs i = true then i + 2 else i

theorem hexEsc_iff (bs : List Int) (i : Nat) : hexEsc bs i = true ↔ bs.getD i 0 = 120 ∧ i + 2 < bs.length ∧ 0 ≤ hexV (bs.getD (i + 1) 0) ∧ 0 ≤ hexV (bs.getD (i + 2) 0) := by
  simp [hexEsc, and_assoc]

/-- A byte as a UInt8. -/
theorem u8_of (c : Int) (h0 : 0 ≤ c) (h1 : c ≤ 255) : ∃ u : UInt8, c = u.toNat := by
  refine ⟨UInt8.ofNat c.toNat, ?_⟩
  simp
  omega

/-- A line's bytes lie at block g. -/
structure Line (w : World) (g : Nat) (bs : List Int) : Prop where
  cell : ∀ j, j < bs.length → w.cell? ⟨g, j, none⟩ = some (.int .u8 (bs.getD j 0))
  byte : ∀ j, j < bs.length → 0 ≤ bs.getD j 0 ∧ bs.getD j 0 ≤ 255

theorem ae_any (base : Nat) (v : Value) (n : Nat) (xs : List Value) (bs : List Int) (g cap i : Nat) (w : World) (hL : Line w g bs) (ev : Value) (hv : w.cell? ⟨0, 0, none⟩ = some ev) (hev : ev = .nilIface ∨ ∃ te pe, ev = .iface te pe)
    (ho : w.ownsRow base 5 1 v n xs) (hn : n ≤ 1048576) (hbase : base ≤ w.heap.size) (hil : i < bs.length) (hlen : bs.length ≤ 1048576) (hcap : bs.length ≤ cap) :
    Calls Tryd.prog 13 #[v, .slice (some ⟨g, 0, none⟩) bs.length cap, .int .i64 i] w fun e w' => ∃ v', e = .returned (.tuple #[v', .int .i64 (escL bs i)]) ∧ w'.ownsRow base 5 1 v' (n + 1) (xs ++ [.int .u8 (escB bs i)]) ∧ w'.ownsRow base 5 1 v n xs ∧ w.grownBy w' v.ownBlock := by
  have hc : w.cell? ⟨g, 0 + i, none⟩ = some (.int .u8 (bs.getD i 0)) := by rw [Nat.zero_add]; exact hL.cell i hil
  by_cases hx : hexEsc bs i = true
  · obtain ⟨h1, h2, h3, h4⟩ := (hexEsc_iff bs i).1 hx
    have e1 : escL bs i = i + 2 := if_pos hx
    have e2 : escB bs i = hexV (bs.getD (i + 1) 0) * 16 + hexV (bs.getD (i + 2) 0) := if_pos hx
    rw [e1, e2]
    have c1 : w.cell? ⟨g, 0 + (i + 1), none⟩ = some (.int .u8 (bs.getD (i + 1) 0)) := by rw [Nat.zero_add]; exact hL.cell (i + 1) (by omega)
    have c2 : w.cell? ⟨g, 0 + (i + 1) + 1, none⟩ = some (.int .u8 (bs.getD (i + 2) 0)) := by rw [Nat.zero_add]; exact hL.cell (i + 2) (by omega)
    obtain ⟨u1, hu1⟩ := u8_of _ (hL.byte (i + 1) (by omega)).1 (hL.byte (i + 1) (by omega)).2
    obtain ⟨u2, hu2⟩ := u8_of _ (hL.byte (i + 2) (by omega)).1 (hL.byte (i + 2) (by omega)).2
    rw [hu1] at h3 c1 ⊢
    rw [hu2] at h4 c2 ⊢
    rw [h1] at hc
    exact ae_hex base v n xs g 0 bs.length cap i w u1 u2 h3 h4 h2 hcap ho hn hbase hil hlen hc c1 c2
  · have e1 : escL bs i = i := if_neg hx
    have e2 : escB bs i = named (bs.getD i 0) := if_neg hx
    rw [e1, e2]
    by_cases h120 : bs.getD i 0 = 120
    · have e3 : named (bs.getD i 0) = 120 := by rw [h120]; rfl
      rw [e3]
      rw [h120] at hc
      by_cases hs : i + 2 < bs.length
      · have c1 : w.cell? ⟨g, 0 + (i + 1), none⟩ = some (.int .u8 (bs.getD (i + 1) 0)) := by rw [Nat.zero_add]; exact hL.cell (i + 1) (by omega)
        have c2 : w.cell? ⟨g, 0 + (i + 1) + 1, none⟩ = some (.int .u8 (bs.getD (i + 2) 0)) := by rw [Nat.zero_add]; exact hL.cell (i + 2) (by omega)
        have hno : ¬ (0 ≤ hexV (bs.getD (i + 1) 0) ∧ 0 ≤ hexV (bs.getD (i + 2) 0)) := fun h => hx ((hexEsc_iff bs i).2 ⟨h120, hs, h.1, h.2⟩)
        obtain ⟨u1, hu1⟩ := u8_of _ (hL.byte (i + 1) (by omega)).1 (hL.byte (i + 1) (by omega)).2
        obtain ⟨u2, hu2⟩ := u8_of _ (hL.byte (i + 2) (by omega)).1 (hL.byte (i + 2) (by omega)).2
        rw [hu1] at c1
        rw [hu2] at c2
        rw [hu1, hu2] at hno
        exact ae_badhex base v n xs g 0 bs.length cap i w u1 u2 hno hs hcap ev hv hev ho hn hbase hil hlen hc c1 c2
      · exact ae_x base v n xs g 0 bs.length cap i w (by omega) ho hn hbase hil hlen hc
    · by_cases h110 : bs.getD i 0 = 110
      · rw [h110] at hc ⊢; exact ae_n base v n xs g 0 bs.length cap i w ho hn hbase hil hlen hc
      by_cases h114 : bs.getD i 0 = 114
      · rw [h114] at hc ⊢; exact ae_r base v n xs g 0 bs.length cap i w ho hn hbase hil hlen hc
      by_cases h116 : bs.getD i 0 = 116
      · rw [h116] at hc ⊢; exact ae_t base v n xs g 0 bs.length cap i w ho hn hbase hil hlen hc
      by_cases h98 : bs.getD i 0 = 98
      · rw [h98] at hc ⊢; exact ae_b base v n xs g 0 bs.length cap i w ho hn hbase hil hlen hc
      by_cases h97 : bs.getD i 0 = 97
      · rw [h97] at hc ⊢; exact ae_a base v n xs g 0 bs.length cap i w ho hn hbase hil hlen hc
      · have e3 : named (bs.getD i 0) = bs.getD i 0 := by simp only [named]; rw [if_neg h110, if_neg h114, if_neg h116, if_neg h98, if_neg h97]
        rw [e3]
        exact ae_other base v n xs g 0 bs.length cap i w (bs.getD i 0) ⟨h110, h114, h116, h98, h97, h120⟩ ho hn hbase hil hlen hc

theorem ZZae_any (base : Nat) (v : Value) (n : Nat) (xs : List Value) (bs : List Int) (g cap i : Nat) (w : World) (hL : Line w g bs) (ev : Value) (hv : w.cell? ⟨0, 0, none⟩ = some ev) (hev : ev = .nilIface ∨ ∃ te pe, ev = .iface te pe)
    (ho : w.ownsRow base 5 1 v n xs) (hn : n ≤ 1048576) (hbase : base ≤ w.heap.size) (hil : i < bs.length) (hlen : bs.length ≤ 1048576) (hcap : bs.length ≤ cap) :
    Calls Tryd.prog 8 #[v, .slice (some ⟨g, 0, none⟩) bs.length cap, .int .i64 i] w fun e w' => ∃ v', e = .returned (.tuple #[v', .int .i64 (escL bs i)]) ∧ w'.ownsRow base 5 1 v' (n + 1) (xs ++ [.int .u8 (escB bs i)]) ∧ w'.ownsRow base 5 1 v n xs ∧ w.grownBy w' v.ownBlock := by
  have H := ae_any base v n xs bs g cap i w hL ev hv hev ho hn hbase hil hlen hcap
  generalize escL bs i = A at H ⊢
  generalize escB bs i = B at H ⊢
  generalize bs.length = len at H ⊢
  clear hL hv hev ho hbase hil hlen hcap
  go_enter Tryd.func8, Tryd.ntmps8
  go_wp2_with fail
  refine H.mono ?_
  rintro e w' ⟨v', rfl, h1, h2, h3⟩
  go_wp2
  go_ret2
  exact ⟨v', rfl, h1, h2, h3⟩

end Go.Proofs.Qxb6600336aDoor
