/-
  SEAT b6600336aD: THE PUBLIC strconv.ParseUint(s, 16, 8) AT A STRING OF TWO BYTES (15); 'hexValue' (12).
-/
import Derived.Test.Qxb6600336aDoorHex
import Derived.Lib.AtoiErrMem
import Derived.Lib.IfaceEq
namespace Go.Proofs.Qxb6600336aDoor
open Go.RowKit
set_option linter.unusedVariables false

/-- 'syntaxError' (20), the shelf's contract laid at this dump. -/
theorem synErr (fn s : ByteArray) (ev : Value) (w : World) (hlim : s.size ≤ 281474976710656) (hv : w.cell? ⟨0, 0, none⟩ = some ev) (hev : ev = .nilIface ∨ ∃ te pe, ev = .iface te pe) :
    Calls Tryd.prog 20 #[.string fn, .string s] w fun e w' => ∃ N, e = .returned (.pointer (some ⟨N, 0, none⟩)) ∧ Below w.heap.size w w' := by
  have h : Calls Tryd.prog 20 #[.string fn, .string s] w fun e w' => ∃ N, e = .returned (.pointer (some ⟨N, 0, none⟩)) ∧ w.heap.size ≤ N ∧ w'.heap[N]? = some (.cells #[.string fn, .string s, ev] 49 (0, 0)) ∧ Below w.heap.size w w' :=
    AnyPu.strconv_syntaxError (ρ := Tryd.laysPu14_ren) { Tryd.laysPu14 with } fn s ev w hlim hv hev
  refine h.mono ?_
  rintro e w' ⟨N, rfl, _, _, hb⟩
  exact ⟨N, rfl, hb⟩

set_option maxHeartbeats 4000000 in
/-- 'toError' (17) at the inner package's error number 2. -/
theorem toErr (fn s : ByteArray) (ev : Value) (w : World) (hlim : s.size ≤ 281474976710656) (hv : w.cell? ⟨0, 0, none⟩ = some ev) (hev : ev = .nilIface ∨ ∃ te pe, ev = .iface te pe) :
    Calls Tryd.prog 17 #[.string fn, .string s, .int .i64 16, .int .i64 8, .iface 41 (.int .i64 2)] w fun e w' => ∃ N, e = .returned (.iface 44 (.pointer (some ⟨N, 0, none⟩))) ∧ Below w.heap.size w w' := by
  have heq : ∀ W, (binOp .eql 37 (.iface 41 (.int .i64 2)) (.iface 41 (.int .i64 2))).run Tryd.prog W = .ok (.bool true) W := fun W => Lib.run_eql_iface_int W 2 2 Tryd.laysPu14.t24 Tryd.laysPu14.c34 Tryd.laysPu14.t34
  have H := synErr fn s ev w hlim hv hev
  clear hv hev
  go_enter Tryd.func17, Tryd.ntmps17
  go_wp2_with fail
  refine H.mono ?_
  rintro e w2 ⟨N, rfl, hb⟩
  go_wp2
  go_ret
  exact ⟨N, rfl, hb⟩

set_option maxHeartbeats 4000000 in
theorem pu_ok (u1 u2 : UInt8) (w : World) (h1 : 0 ≤ hexV u1.toNat) (h2 : 0 ≤ hexV u2.toNat) :
    Calls Tryd.prog 15 #[.string ⟨#[u1, u2]⟩, .int .i64 16, .int .i64 8] w fun e w' => e = .returned (.tuple #[.int .u64 (hexV u1.toNat * 16 + hexV u2.toNat), .nilIface]) ∧ Below w.heap.size w w' := by
  have hI := pu_inner u1 u2 w
  have e1 : puT u1.toNat u2.toNat = .tuple #[.int .u64 (hexV u1.toNat * 16 + hexV u2.toNat), .nilIface] := if_pos ⟨h1, h2⟩
  rw [e1] at hI
  generalize hexV u1.toNat * 16 + hexV u2.toNat = V at hI ⊢
  have hb := Lib.bytesWorld_below w 5 ⟨#[u1, u2]⟩
  generalize (⟨#[u1, u2]⟩ : ByteArray) = s at hI hb ⊢
  generalize Lib.bytesWorld w 5 s = W1 at hI hb
  clear e1 h1 h2
  go_enter Tryd.func15, Tryd.ntmps15
  go_wp2_with fail
  refine hI.mono ?_
  rintro e w' ⟨rfl, rfl⟩
  go_wp2
  go_ret2
  exact ⟨rfl, hb⟩

set_option maxHeartbeats 4000000 in
theorem pu_no (u1 u2 : UInt8) (w : World) (hno : ¬ (0 ≤ hexV u1.toNat ∧ 0 ≤ hexV u2.toNat)) (ev : Value) (hv : w.cell? ⟨0, 0, none⟩ = some ev) (hev : ev = .nilIface ∨ ∃ te pe, ev = .iface te pe) :
    Calls Tryd.prog 15 #[.string ⟨#[u1, u2]⟩, .int .i64 16, .int .i64 8] w fun e w' => ∃ N, e = .returned (.tuple #[.int .u64 0, .iface 44 (.pointer (some ⟨N, 0, none⟩))]) ∧ Below w.heap.size w w' := by
  have hI := pu_inner u1 u2 w
  rw [puT_no _ _ hno] at hI
  have hb := Lib.bytesWorld_below w 5 ⟨#[u1, u2]⟩
  have hsz : (⟨#[u1, u2]⟩ : ByteArray).size = 2 := rfl
  generalize (⟨#[u1, u2]⟩ : ByteArray) = s at hI hb hsz ⊢
  generalize Lib.bytesWorld w 5 s = W1 at hI hb
  have hG : 0 < w.heap.size := Lib.lt_of_cell hv
  have hv1 : W1.cell? ⟨0, 0, none⟩ = some ev := (hb.cell (p := ⟨0, 0, none⟩) hG).trans hv
  have hE := fun fn => toErr fn s ev W1 (by omega) hv1 hev
  clear hno hv hv1 hev
  have HE : Hid _ := hE
  clear hE
  go_enter Tryd.func15, Tryd.ntmps15
  go_wp2_with fail
  refine hI.mono ?_
  rintro e w' ⟨rfl, rfl⟩
  go_wp2_with fail
  refine (HE.out _).mono ?_
  rintro e w2 ⟨N, rfl, hb2⟩
  go_wp2
  go_ret2
  exact ⟨N, rfl, hb.trans (hb2.mono hb.size)⟩

theorem hexValue_any (c : Int) (h0 : 0 ≤ c) (h1 : c ≤ 255) (w : World) :
    Calls Tryd.prog 12 #[.int .u8 c] w fun e w' => e = .returned (.int .i64 (hexV c)) ∧ w' = w := by
  by_cases a : 48 ≤ c
  · by_cases b : c ≤ 57
    · have e : hexV c = c - 48 := by simp [hexV, a, b]
      rw [e]
      go_enter Tryd.func12, Tryd.ntmps12
      go_wp2
      go_ret
      exact ⟨rfl, rfl⟩
    · by_cases a2 : 97 ≤ c
      · by_cases b2 : c ≤ 102
        · have e : hexV c = c - 97 + 10 := by simp [hexV, b, a2, b2]; omega
          rw [e]
          go_enter Tryd.func12, Tryd.ntmps12
          go_wp2
          go_ret
          exact ⟨rfl, rfl⟩
        · have e : hexV c = -1 := by simp [hexV, b, b2]; omega
          have b3 : ¬ c ≤ 70 := by omega
          have a3 : 65 ≤ c := by omega
          rw [e]
          go_enter Tryd.func12, Tryd.ntmps12
          go_wp2
          go_ret
          exact ⟨rfl, rfl⟩
      · by_cases a3 : 65 ≤ c
        · by_cases b3 : c ≤ 70
          · have e : hexV c = c - 65 + 10 := by simp [hexV, b, a2, a3, b3]; omega
            rw [e]
            go_enter Tryd.func12, Tryd.ntmps12
            go_wp2
            go_ret
            exact ⟨rfl, rfl⟩
          · have e : hexV c = -1 := by simp [hexV, b, a2, b3]
            rw [e]
            go_enter Tryd.func12, Tryd.ntmps12
            go_wp2
            go_ret
            exact ⟨rfl, rfl⟩
        · have e : hexV c = -1 := by simp [hexV, b, a2, a3]
          rw [e]
          go_enter Tryd.func12, Tryd.ntmps12
          go_wp2
          go_ret
          exact ⟨rfl, rfl⟩
  · have e : hexV c = -1 := by simp only [hexV]; rw [if_neg (by omega), if_neg (by omega), if_neg (by omega)]
    have a2 : ¬ 97 ≤ c := by omega
    have a3 : ¬ 65 ≤ c := by omega
    rw [e]
    go_enter Tryd.func12, Tryd.ntmps12
    go_wp2
    go_ret
    exact ⟨rfl, rfl⟩

end Go.Proofs.Qxb6600336aDoor
