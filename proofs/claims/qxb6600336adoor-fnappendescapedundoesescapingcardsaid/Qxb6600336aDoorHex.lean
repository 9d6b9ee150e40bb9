/-
  SEAT b6600336aD: strconv.ParseUint(s, 16, 8) AT A STRING OF TWO BYTES.
-/
import Derived.Test.Qxb6600336aDoorRows
import Derived.Test.Qxb6600336aDoorPlain
import Derived.Test.Qxb6600336aDoorShelf
import Derived.Lib.Strings
import Derived.Lib.Walk
import Derived.Lib.ConvBytes
import Derived.Lib.ParseIntBMem
import Derived.Lib.Hide
import Derived.Laws.Strings3
import Derived.Laws.Closers25
import Derived.Laws.Closers25b
import Derived.WalkKit
import Derived.BigCall
import Derived.BigGuard
namespace Go.Proofs.Qxb6600336aDoor
open Go.RowKit
set_option linter.unusedVariables false

theorem lower_any (c : Int) (w : World) :
    Calls Tryd.prog 18 #[.int .u8 c] w fun e w' => e = .returned (.int .u8 (bits .or .u8 c 32)) ∧ w' = w := by
  go_enter Tryd.func18, Tryd.ntmps18
  go_wp2
  go_ret
  exact ⟨rfl, rfl⟩

/-- How far the two bytes have been read. -/
def St (c1 c2 : Int) (k : Nat) (a : Int) : Prop :=
  (k = 0 ∧ a = 0) ∨ (k = 1 ∧ 0 ≤ hexV c1 ∧ a = hexV c1) ∨ (k = 2 ∧ 0 ≤ hexV c1 ∧ 0 ≤ hexV c2 ∧ a = hexV c1 * 16 + hexV c2)

def byteAt (c1 c2 : Int) (k : Nat) : Int := if k = 0 then c1 else c2

theorem St_next {c1 c2 : Int} {k : Nat} {a : Int} (h : St c1 c2 k a) (hk : k < 2) (d : Int) (hd : hexV (byteAt c1 c2 k) = d) (hd0 : 0 ≤ d) : St c1 c2 (k + 1) (a * 16 + d) ∧ 0 ≤ a ∧ a ≤ 15 ∧ d ≤ 15 := by
  have b1 := hexV_le c1
  have b2 := hexV_le c2
  rcases h with ⟨rfl, rfl⟩ | ⟨rfl, h1, rfl⟩ | ⟨rfl, _⟩
  · simp only [byteAt, if_true] at hd
    subst hd
    exact ⟨Or.inr (Or.inl ⟨rfl, hd0, by omega⟩), by omega, by omega, by omega⟩
  · simp only [byteAt] at hd
    rw [if_neg (by omega)] at hd
    subst hd
    exact ⟨Or.inr (Or.inr ⟨rfl, h1, hd0, rfl⟩), by omega, by omega, by omega⟩
  · omega

theorem St_bad {c1 c2 : Int} {k : Nat} {a : Int} (h : St c1 c2 k a) (hk : k < 2) (hd : hexV (byteAt c1 c2 k) < 0) : ¬ (0 ≤ hexV c1 ∧ 0 ≤ hexV c2) := by
  rcases h with ⟨rfl, rfl⟩ | ⟨rfl, h1, rfl⟩ | ⟨rfl, _⟩
  · simp only [byteAt, if_true] at hd; omega
  · simp only [byteAt] at hd
    rw [if_neg (by omega)] at hd
    omega
  · omega

theorem St_le {c1 c2 : Int} {k : Nat} {a : Int} (h : St c1 c2 k a) : 0 ≤ a ∧ a ≤ 255 := by
  have b1 := hexV_le c1
  have b2 := hexV_le c2
  rcases h with ⟨rfl, rfl⟩ | ⟨rfl, h1, rfl⟩ | ⟨rfl, h1, h2, rfl⟩ <;> omega

/-- What the inner ParseUint answers. -/
def puT (c1 c2 : Int) : Value := if 0 ≤ hexV c1 ∧ 0 ≤ hexV c2 then .tuple #[.int .u64 (hexV c1 * 16 + hexV c2), .nilIface] else .tuple #[.int .u64 0, .iface 41 (.int .i64 2)]

theorem puT_no (c1 c2 : Int) (h : ¬ (0 ≤ hexV c1 ∧ 0 ≤ hexV c2)) : puT c1 c2 = .tuple #[.int .u64 0, .iface 41 (.int .i64 2)] := if_neg h

set_option maxHeartbeats 32000000 in
set_option maxRecDepth 100000 in
theorem pu_inner (u1 u2 : UInt8) (w : World) :
    Calls Tryd.prog 16 #[.string ⟨#[u1, u2]⟩, .int .i64 16, .int .i64 8] w fun e w' => e = .returned (puT u1.toNat u2.toNat) ∧ w' = Lib.bytesWorld w 5 ⟨#[u1, u2]⟩ := by
  obtain ⟨t, ht⟩ : ∃ t : ByteArray, t = ⟨#[u1, u2]⟩ := ⟨_, rfl⟩
  have hsz : t.size = 2 := by rw [ht]; rfl
  have hg0 : t.data.toList.getD 0 0 = u1 := by rw [ht]; rfl
  have hg1 : t.data.toList.getD 1 0 = u2 := by rw [ht]; rfl
  rw [← ht]
  have hemp : t.toList.isEmpty = false := by
    rw [← decide_eq_emptyBytes]
    exact decide_eq_false (fun h => by rw [h] at hsz; cases hsz)
  have hcv := Lib.run_convert_string_bytes (P := Tryd.prog) w 9 22 5 t (u := .string) Tryd.underlying9 Tryd.underlying22 Tryd.underlying5
  have hB0 := Lib.bytesWorld_cell w 5 t 0 (by omega)
  have hB1 := Lib.bytesWorld_cell w 5 t 1 (by omega)
  rw [hg0] at hB0
  rw [hg1] at hB1
  obtain ⟨W1, hW1⟩ : ∃ W1, W1 = Lib.bytesWorld w 5 t := ⟨_, rfl⟩
  rw [← hW1] at hcv hB0 hB1 ⊢
  rw [hsz] at hcv
  obtain ⟨c1, hc1⟩ : ∃ c1 : Int, c1 = u1.toNat := ⟨_, rfl⟩
  obtain ⟨c2, hc2⟩ : ∃ c2 : Int, c2 = u2.toNat := ⟨_, rfl⟩
  have b1 : 0 ≤ c1 ∧ c1 ≤ 255 := by have := u1.toNat_lt; omega
  have b2 : 0 ≤ c2 ∧ c2 ≤ 255 := by have := u2.toNat_lt; omega
  rw [← hc1] at hB0 ⊢
  rw [← hc2] at hB1 ⊢
  have hB : ∀ k, k < 2 → W1.cell? ⟨w.heap.size, k, none⟩ = some (.int .u8 (byteAt c1 c2 k)) := by
    intro k hk
    match k, hk with
    | 0, _ => exact hB0
    | 1, _ => exact hB1
  clear hB0 hB1 hc1 hc2 hg0 hg1 ht hW1
  have hmv : IntKind.u64.wrap (IntKind.u64.wrap 256 - 1) = 255 := by
    rw [IntKind.wrap_u64, IntKind.wrap_u64]
    decide
  go_enter Tryd.func16, Tryd.ntmps16
  go_wp2
  go_loop [12, 13, 101] (fun vu vn vi => ∃ (k : Nat) (a : Int), vu = .bool false ∧ vn = .int .u64 a ∧ vi = .int .i64 k ∧ k ≤ 2 ∧ 0 ≤ a ∧ a ≤ 255 ∧ Hid (St c1 c2 k a))
    (fun _ _ vi => 2 - (intOf vi).toNat)
  case atStart => exact ⟨0, 0, rfl, rfl, rfl, by omega, by omega, by omega, Or.inl ⟨rfl, rfl⟩⟩
  case round =>
    obtain ⟨k, a, rfl, rfl, rfl, hk, ha0, ha1, HS⟩ := hrel
    by_cases hkn : k < 2
    · have hc := hB k hkn
      have hcb : 0 ≤ byteAt c1 c2 k ∧ byteAt c1 c2 k ≤ 255 := by unfold byteAt; split <;> omega
      obtain ⟨c, hcv'⟩ : ∃ c, c = byteAt c1 c2 k := ⟨_, rfl⟩
      rw [← hcv'] at hc hcb
      have HC : Hid (c = byteAt c1 c2 k) := hcv'
      obtain ⟨hcb0, hcb1⟩ := hcb
      clear hB hcv'
      by_cases hdig : 48 ≤ c ∧ c ≤ 57
      · obtain ⟨hd0, hd1⟩ := hdig
        have hv : hexV c = c - 48 := by simp [hexV, hd0, hd1]
        have N := St_next HS.out hkn (c - 48) (by rw [← HC.out]; exact hv) (by omega)
        have a15 : a ≤ 15 := N.2.2.1
        have HN : Hid (St c1 c2 (k + 1) (a * 16 + (c - 48))) := N.1
        clear N hv
        go_wp2
        go_round
        case rel => exact ⟨k + 1, a * 16 + (c - 48), rfl, by go_num, by go_num, by omega, by omega, by omega, HN⟩
        case measure => simp [intOf]; omega
      · have LH := low_hex c hcb0 hcb1 hdig
        generalize hvv : bits .or .u8 c 32 = v at LH
        have HVV : Hid (bits .or .u8 c 32 = v) := hvv
        clear hvv
        obtain ⟨⟨hv0, hv1⟩, hiff, heq⟩ := LH
        have HLOW : Hid (∀ W, Calls Tryd.prog 18 #[.int .u8 c] W fun e w' => e = .returned (.int .u8 v) ∧ w' = W) := fun W => by rw [← HVV.out]; exact lower_any c W
        by_cases hx : 0 ≤ hexV c
        · have hx1 := hiff.2 hx
          have hx2 := heq hx
          obtain ⟨hx97, hx102⟩ := hx1
          have N := St_next HS.out hkn (v - 97 + 10) (by rw [← HC.out]; exact hx2) (by omega)
          have a15 : a ≤ 15 := N.2.2.1
          have HN : Hid (St c1 c2 (k + 1) (a * 16 + (v - 97 + 10))) := N.1
          have h95 : (c == 95) = false := beq_eq_false_iff_ne.2 (by intro e; subst e; revert hx; decide)
          clear N hx2 hiff heq hx
          by_cases h48 : 48 ≤ c
          · have h57 : ¬ c ≤ 57 := by omega
            go_wp2_with (go_at_call 18; refine (HLOW.out _).mono ?_; rintro e w' ⟨rfl, rfl⟩)
            go_round
            case rel => exact ⟨k + 1, a * 16 + (v - 97 + 10), rfl, by go_num, by go_num, by omega, by omega, by omega, HN⟩
            case measure => simp [intOf]; omega
          · go_wp2_with (go_at_call 18; refine (HLOW.out _).mono ?_; rintro e w' ⟨rfl, rfl⟩)
            go_round
            case rel => exact ⟨k + 1, a * 16 + (v - 97 + 10), rfl, by go_num, by go_num, by omega, by omega, by omega, HN⟩
            case measure => simp [intOf]; omega
        · have HNO : Hid (puT c1 c2 = .tuple #[.int .u64 0, .iface 41 (.int .i64 2)]) := puT_no c1 c2 (St_bad HS.out hkn (by rw [← HC.out]; omega))
          have hx1 : ¬ (97 ≤ v ∧ v ≤ 102) := fun h => hx (hiff.1 h)
          clear hiff heq hx
          by_cases h95 : c = 95
          · have h95' : (c == 95) = true := by simp [h95]
            have h48 : 48 ≤ c := by omega
            have h57 : ¬ c ≤ 57 := by omega
            clear h95
            by_cases hv97 : 97 ≤ v
            · by_cases hv122 : v ≤ 122
              · have hv103 : 103 ≤ v := by omega
                go_wp2_with (go_at_call 18; refine (HLOW.out _).mono ?_; rintro e w' ⟨rfl, rfl⟩)
                go_ret2
                exact ⟨by rw [HNO.out]; rfl, rfl⟩
              · go_wp2_with (go_at_call 18; refine (HLOW.out _).mono ?_; rintro e w' ⟨rfl, rfl⟩)
                go_ret2
                exact ⟨by rw [HNO.out]; rfl, rfl⟩
            · go_wp2_with (go_at_call 18; refine (HLOW.out _).mono ?_; rintro e w' ⟨rfl, rfl⟩)
              go_ret2
              exact ⟨by rw [HNO.out]; rfl, rfl⟩
          · have h95' : (c == 95) = false := beq_eq_false_iff_ne.2 h95
            clear h95
            by_cases h48 : 48 ≤ c
            all_goals by_cases hv97 : 97 ≤ v
            all_goals by_cases hv122 : v ≤ 122
            all_goals go_wp2_with (go_at_call 18; refine (HLOW.out _).mono ?_; rintro e w' ⟨rfl, rfl⟩)
            all_goals go_ret2
            all_goals exact ⟨by rw [HNO.out]; rfl, rfl⟩
    · have hkk : k = 2 := by omega
      subst hkk
      have HY : Hid (puT c1 c2 = .tuple #[.int .u64 a, .nilIface]) := by
        rcases HS.out with ⟨h, _⟩ | ⟨h, _⟩ | ⟨_, h1, h2, rfl⟩
        · cases h
        · cases h
        · exact if_pos ⟨h1, h2⟩
      go_wp2
      go_ret2
      exact ⟨by rw [HY.out]; rfl, rfl⟩

end Go.Proofs.Qxb6600336aDoor
