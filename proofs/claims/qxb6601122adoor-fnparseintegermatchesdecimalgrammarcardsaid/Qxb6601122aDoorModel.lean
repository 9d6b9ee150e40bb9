/-
  SEAT b6601122aD: THE CONTRACT OF 'zzModelParseInteger' (9).
-/
import Derived.Test.Qxb6601122aDoorAbove
import Derived.Deep.CutBlock
import Derived.Deep.DeepCutAuto
import Derived.Deep.LoopGhost
namespace Go.Proofs.Qxb6601122aDoor
open Go.ChangeShapes Go.WideShapes Go.ChangeAt Go.RowKit
open Go.Lib (parseUintB NumEnd)
set_option linter.unusedVariables false

/-- Is there a minus ahead? -/
def negB (s : ByteArray) : Bool := decide (0 < s.size) && decide ((by8 s 0).toNat = 45)
/-- The bytes behind the sign. -/
def dOf (s : ByteArray) : List UInt8 := if 0 < s.size ∧ ((by8 s 0).toNat = 45 ∨ (by8 s 0).toNat = 43) then s.data.toList.drop 1 else s.data.toList

theorem drop_one (s : ByteArray) (h : 0 < s.size) : (s.extract 1 s.size).data.toList = s.data.toList.drop 1 := by
  rw [Lib.extract_data]
  exact List.take_of_length_le (by rw [List.length_drop, len_data]; omega)

theorem vF_take_le (l : List UInt8) (i : Nat) : vF 0 (l.take i) ≤ vF 0 l := by
  have h := vF_ge (l.drop i) (vF 0 (l.take i))
  rw [← vF_append, List.take_append_drop] at h
  exact h

/-- One digit more. -/
theorem vF_next (l : List UInt8) (i : Nat) (h : i < l.length) : vF 0 (l.take (i + 1)) = vF 0 (l.take i) * 10 + ((l.getD i 0).toNat - 48) := by
  rw [List.take_succ_eq_append_getElem h, vF_snoc]
  simp [List.getD, h]

theorem ret_three {b c : Bool} {m n : Int} {p q : Bool} (h : b = c) (k : m = n) (j : p = q) : Ending.returned (.tuple #[.bool b, .int .u64 m, .bool p]) = .returned (.tuple #[.bool c, .int .u64 n, .bool q]) := by rw [h, k, j]

set_option maxHeartbeats 6400000 in
theorem model_minus (s : ByteArray) (w : World) (hs : s.size ≤ 1048576) (h0 : 0 < s.size) (h45 : (by8 s 0).toNat = 45) (l : List UInt8) (hl : l = dOf s) :
    Calls Tryd.prog 9 #[.string s] w fun e w' => e = .returned (.tuple #[.bool true, .int .u64 (outN (parseUintB 64 l)), .bool (outB (parseUintB 64 l))]) ∧ Below w.heap.size w w' := by
  have hA := by8_get s 0 h0
  have q0 : (0 : Int) < (s.size : Int) := by omega
  have q1 : ((s[0].toNat : Int) == 45) = true := by rw [hA, h45]; rfl
  have HD : Hid ((s.extract 1 s.size).data.toList = l) := by
    show _ = _
    rw [drop_one s h0, hl, dOf, if_pos ⟨h0, Or.inl h45⟩]
  have hdsz : (s.extract 1 s.size).size ≤ 1048576 := by simp; omega
  clear hA h45 hl
  go_enter Tryd.func9, Tryd.ntmps9
  go_upto_block 0 with fail
  generalize s.extract 1 s.size = d at HD hdsz ⊢
  clear q1
  go_cut [7] (fun t wx => ∃ k : Nat, k ≤ d.size ∧ t = .int .i64 k ∧ Hid ((∀ j, j < k → isD (by8 d j) = true) ∧ (k < d.size → isD (by8 d k) = false)) ∧ wx = w)
  case first =>
    go_wp2_with fail
    go_loopg [7] d.size (fun g t wx => ∃ k : Nat, k ≤ d.size ∧ g = d.size - k ∧ t = .int .i64 k ∧ Hid (∀ j, j < k → isD (by8 d j) = true) ∧ wx = w)
    case atStart => exact ⟨0, Nat.zero_le _, rfl, rfl, fun j hj => absurd hj (by omega), rfl⟩
    case round =>
      obtain ⟨k, hk, rfl, rfl, HA, rfl⟩ := hrel
      by_cases hlt : k < d.size
      · have hb := by8_get d k hlt
        have hiz : (k : Int) < (d.size : Int) := by omega
        by_cases hd : isD (by8 d k) = true
        · have HN : Hid (∀ j, j < k + 1 → isD (by8 d j) = true) := fun j hj => by
            by_cases e : j = k
            · subst e; exact hd
            · exact HA.out j (by omega)
          have hq := (isD_iff _).1 hd
          rw [← hb] at hq
          obtain ⟨hq1, hq2⟩ := hq
          have hq3 : 48 ≤ (d[k].toNat : Int) := by omega
          have hq4 : (d[k].toNat : Int) ≤ 57 := by omega
          clear hb hd hq1 hq2
          go_wp2
          go_roundg (d.size - (k + 1))
          case measure => omega
          case rel => exact ⟨k + 1, by omega, rfl, by go_num, HN, rfl⟩
        · have HN : Hid ((∀ j, j < k → isD (by8 d j) = true) ∧ (k < d.size → isD (by8 d k) = false)) := ⟨HA.out, fun _ => by simpa using hd⟩
          have hq : ¬ (48 ≤ d[k].toNat ∧ d[k].toNat ≤ 57) := fun h => hd ((isD_iff _).2 (by rw [← hb]; exact h))
          clear hb hd
          by_cases hq3 : 48 ≤ (d[k].toNat : Int)
          · have hq4 : ¬ (d[k].toNat : Int) ≤ 57 := by omega
            clear hq
            go_wp2
            go_meet
            exact ⟨k, hk, rfl, HN, rfl⟩
          · clear hq
            go_wp2
            go_meet
            exact ⟨k, hk, rfl, HN, rfl⟩
      · have HN : Hid ((∀ j, j < k → isD (by8 d j) = true) ∧ (k < d.size → isD (by8 d k) = false)) := ⟨HA.out, fun h => absurd h hlt⟩
        have hiz : ¬ (k : Int) < (d.size : Int) := by omega
        go_wp2
        go_meet
        exact ⟨k, hk, rfl, HN, rfl⟩
  case rest =>
    obtain ⟨k, hk, rfl, HK, rfl⟩ := hcut
    go_upto_block 2 with fail
    go_cut [8] (fun t wx => ∃ z : Nat, z ≤ k ∧ t = .int .i64 z ∧ Hid ((∀ j, j < z → (by8 d j).toNat = 48) ∧ (z < k → (by8 d z).toNat ≠ 48)) ∧ wx = wc)
    case first =>
      go_wp2_with fail
      go_loopg [8] k (fun g t wx => ∃ z : Nat, z ≤ k ∧ g = k - z ∧ t = .int .i64 z ∧ Hid (∀ j, j < z → (by8 d j).toNat = 48) ∧ wx = wc)
      case atStart => exact ⟨0, Nat.zero_le _, rfl, rfl, fun j hj => absurd hj (by omega), rfl⟩
      case round =>
        obtain ⟨z, hz, rfl, rfl, HA, rfl⟩ := hrel
        by_cases hlt : z < k
        · have hzd : z < d.size := by omega
          have hb := by8_get d z hzd
          have hiz : (z : Int) < (k : Int) := by omega
          have hiz2 : (z : Int) < (d.size : Int) := by omega
          by_cases hd : (by8 d z).toNat = 48
          · have HN : Hid (∀ j, j < z + 1 → (by8 d j).toNat = 48) := fun j hj => by
              by_cases e : j = z
              · subst e; exact hd
              · exact HA.out j (by omega)
            have hq : ((d[z].toNat : Int) == 48) = true := by rw [hb, hd]; rfl
            clear hb hd
            go_wp2
            go_roundg (k - (z + 1))
            case measure => omega
            case rel => exact ⟨z + 1, by omega, rfl, by go_num, HN, rfl⟩
          · have HN : Hid ((∀ j, j < z → (by8 d j).toNat = 48) ∧ (z < k → (by8 d z).toNat ≠ 48)) := ⟨HA.out, fun _ => hd⟩
            have hq : ((d[z].toNat : Int) == 48) = false := beq_eq_false_iff_ne.2 (by rw [hb]; omega)
            clear hb hd
            go_wp2
            go_meet
            exact ⟨z, hz, rfl, HN, rfl⟩
        · have HN : Hid ((∀ j, j < z → (by8 d j).toNat = 48) ∧ (z < k → (by8 d z).toNat ≠ 48)) := ⟨HA.out, fun h => absurd h hlt⟩
          have hiz : ¬ (z : Int) < (k : Int) := by omega
          go_wp2
          go_meet
          exact ⟨z, hz, rfl, HN, rfl⟩
    case rest =>
      obtain ⟨z, hz, rfl, HZ, rfl⟩ := hcut
      have hkl : k ≤ l.length := by rw [← HD.out, len_data]; exact hk
      have G := grammar l k z hkl hz (fun j hj => by have := HK.out.1 j hj; unfold by8 at this; rw [HD.out] at this; exact this)
        (fun h => by have := HK.out.2 (by rw [← HD.out, len_data] at h; exact h); unfold by8 at this; rw [HD.out] at this; exact this)
        (fun j hj => by have := HZ.out.1 j hj; unfold by8 at this; rw [HD.out] at this; exact this)
        (fun h => by have := HZ.out.2 h; unfold by8 at this; rw [HD.out] at this; exact this)
      have hsl : (d.extract z k).data.toList = (l.take k).drop z := by
        rw [Lib.extract_data, HD.out, List.drop_take]
      have hsz : (d.extract z k).size = k - z := by simp; omega
      have hdig : ∀ j, j < k - z → isD (by8 (d.extract z k) j) = true := by
        intro j hj
        have := HK.out.1 (z + j) (by omega)
        unfold by8 at this ⊢
        rw [Lib.extract_data]
        simp only [List.getD, List.getElem?_take, List.getElem?_drop] at this ⊢
        rw [if_pos hj]
        exact this
      have hll : l.length = d.size := by rw [← HD.out, len_data]
      rw [hll, ← hsl] at G
      have H16 := fun W => above_any (d.extract z k) W (by omega)
      have HG : Hid _ := G
      have HDG : Hid _ := hdig
      have HSZ : Hid ((d.extract z k).size = k - z) := hsz
      have H16' : Hid _ := H16
      clear G hdig H16 hsl hll HK HZ HD hsz hkl
      go_wp2_with fail
      generalize d.extract z k = g at HG HDG HSZ H16' ⊢
      have HA := H16'.out wc
      clear H16'
      have hgz : g.size ≤ k := by rw [HSZ.out]; omega
      cases hab : aboveB g.data.toList
      · rw [hab] at HA
        have HGF := HG.out.2
        rw [hab] at HGF
        clear hab HG
        by_cases hk0 : k = 0 ∨ k < d.size
        · have HR : Hid (parseUintB 64 l = bad) := HGF.1 rfl hk0
          clear HGF
          by_cases hkz : k = 0
          · have t1 : ((k : Int) == 0) = true := by rw [hkz]; rfl
            clear hkz hk0
            refine HA.mono ?_
            rintro e W1 ⟨rfl, hB⟩
            clear HA
            go_wp2
            go_ret3
            exact ⟨ret_three rfl (by rw [HR.out]; rfl) (by rw [HR.out]; rfl), hB⟩
          · have t1 : ((k : Int) == 0) = false := beq_eq_false_iff_ne.2 (by omega)
            have t2 : (k : Int) < (d.size : Int) := by omega
            clear hkz hk0
            refine HA.mono ?_
            rintro e W1 ⟨rfl, hB⟩
            clear HA
            go_wp2
            go_ret3
            exact ⟨ret_three rfl (by rw [HR.out]; rfl) (by rw [HR.out]; rfl), hB⟩
        · obtain ⟨hr1, hr2⟩ := HGF.2 rfl hk0
          have HR : Hid (parseUintB 64 l = .ok (vF 0 g.data.toList)) := hr1
          have HM : Hid (vF 0 g.data.toList ≤ 18446744073709551615) := hr2
          have t1 : ((k : Int) == 0) = false := beq_eq_false_iff_ne.2 (by omega)
          have t2 : ¬ (k : Int) < (d.size : Int) := by omega
          have hk63 : k ≤ 1048576 := by omega
          have HKZ : Hid (g.size = k - z) := HSZ.out
          clear HGF hr1 hr2 hk0 HSZ
          refine HA.mono ?_
          rintro e W1 ⟨rfl, hB⟩
          clear HA
          go_wp2
          clear t1 t2
          go_loop [10, 11] (fun v u => ∃ (i : Nat) (V : Int), i ≤ g.size ∧ u = .int .i64 i ∧ v = .int .u64 V ∧ 0 ≤ V ∧ V ≤ 18446744073709551615 ∧ Hid (V = (vF 0 (g.data.toList.take i) : Nat))) (fun _ u => g.size - (intOf u).toNat)
          case atStart => exact ⟨0, 0, Nat.zero_le _, rfl, rfl, by omega, by omega, rfl⟩
          case round =>
            obtain ⟨i, V, hi, rfl, rfl, hV0, hV1, HV⟩ := hrel
            by_cases hlt : i < g.size
            · have hb := by8_get g i hlt
              have hd := (isD_iff _).1 (HDG.out i (by rw [← HKZ.out]; exact hlt))
              have hn := vF_next g.data.toList i (by rw [len_data]; exact hlt)
              have hle := vF_take_le g.data.toList (i + 1)
              have hm := HM.out
              have hby : (g.data.toList.getD i 0).toNat = g[i].toNat := hb.symm
              rw [← hb] at hd
              rw [hby] at hn
              have hV := HV.out
              have b1 : 48 ≤ (g[i].toNat : Int) := by omega
              have b2 : (g[i].toNat : Int) ≤ 57 := by omega
              have b3 : V * 10 + ((g[i].toNat : Int) - 48) ≤ 18446744073709551615 := by omega
              have b4 : 0 ≤ V * 10 + ((g[i].toNat : Int) - 48) := by omega
              have HN : Hid (V * 10 + ((g[i].toNat : Int) - 48) = (vF 0 (g.data.toList.take (i + 1)) : Nat)) := by
                show _ = _
                rw [hn]; omega
              have hiz : (i : Int) < (g.size : Int) := by omega
              clear hb hd hn hle hm hby hV HV
              go_wp2
              go_round
              case rel => exact ⟨i + 1, V * 10 + ((g[i].toNat : Int) - 48), by omega, by go_num, by go_num, b4, b3, HN⟩
              case measure => simp [intOf]; omega
            · have HE : Hid (V = outN (parseUintB 64 l)) := by
                show V = _
                rw [HR.out]
                have h := HV.out
                rw [List.take_of_length_le (by rw [len_data]; omega)] at h
                exact h
              have hiz : ¬ (i : Int) < (g.size : Int) := by omega
              clear HV
              go_wp2
              go_ret3
              exact ⟨ret_three rfl HE.out (by rw [HR.out]; rfl), hB⟩
      · rw [hab] at HA
        have HR : Hid (parseUintB 64 l = .range) := HG.out.1 hab
        clear hab HG
        refine HA.mono ?_
        rintro e W1 ⟨rfl, hB⟩
        clear HA
        go_wp2
        go_ret3
        exact ⟨ret_three rfl (by rw [HR.out]; rfl) (by rw [HR.out]; rfl), hB⟩

set_option maxHeartbeats 6400000 in
theorem model_plus (s : ByteArray) (w : World) (hs : s.size ≤ 1048576) (h0 : 0 < s.size) (h43 : (by8 s 0).toNat = 43) (l : List UInt8) (hl : l = dOf s) :
    Calls Tryd.prog 9 #[.string s] w fun e w' => e = .returned (.tuple #[.bool false, .int .u64 (outN (parseUintB 64 l)), .bool (outB (parseUintB 64 l))]) ∧ Below w.heap.size w w' := by
  have hA := by8_get s 0 h0
  have q0 : (0 : Int) < (s.size : Int) := by omega
  have q1 : ((s[0].toNat : Int) == 45) = false := beq_eq_false_iff_ne.2 (by rw [hA, h43]; decide)
  have q2 : ((s[0].toNat : Int) == 43) = true := by rw [hA, h43]; rfl
  have HD : Hid ((s.extract 1 s.size).data.toList = l) := by
    show _ = _
    rw [drop_one s h0, hl, dOf, if_pos ⟨h0, Or.inr h43⟩]
  have hdsz : (s.extract 1 s.size).size ≤ 1048576 := by simp; omega
  clear hA h43 hl
  go_enter Tryd.func9, Tryd.ntmps9
  go_upto_block 0 with fail
  generalize s.extract 1 s.size = d at HD hdsz ⊢
  clear q1 q2
  go_cut [7] (fun t wx => ∃ k : Nat, k ≤ d.size ∧ t = .int .i64 k ∧ Hid ((∀ j, j < k → isD (by8 d j) = true) ∧ (k < d.size → isD (by8 d k) = false)) ∧ wx = w)
  case first =>
    go_wp2_with fail
    go_loopg [7] d.size (fun g t wx => ∃ k : Nat, k ≤ d.size ∧ g = d.size - k ∧ t = .int .i64 k ∧ Hid (∀ j, j < k → isD (by8 d j) = true) ∧ wx = w)
    case atStart => exact ⟨0, Nat.zero_le _, rfl, rfl, fun j hj => absurd hj (by omega), rfl⟩
    case round =>
      obtain ⟨k, hk, rfl, rfl, HA, rfl⟩ := hrel
      by_cases hlt : k < d.size
      · have hb := by8_get d k hlt
        have hiz : (k : Int) < (d.size : Int) := by omega
        by_cases hd : isD (by8 d k) = true
        · have HN : Hid (∀ j, j < k + 1 → isD (by8 d j) = true) := fun j hj => by
            by_cases e : j = k
            · subst e; exact hd
            · exact HA.out j (by omega)
          have hq := (isD_iff _).1 hd
          rw [← hb] at hq
          obtain ⟨hq1, hq2⟩ := hq
          have hq3 : 48 ≤ (d[k].toNat : Int) := by omega
          have hq4 : (d[k].toNat : Int) ≤ 57 := by omega
          clear hb hd hq1 hq2
          go_wp2
          go_roundg (d.size - (k + 1))
          case measure => omega
          case rel => exact ⟨k + 1, by omega, rfl, by go_num, HN, rfl⟩
        · have HN : Hid ((∀ j, j < k → isD (by8 d j) = true) ∧ (k < d.size → isD (by8 d k) = false)) := ⟨HA.out, fun _ => by simpa using hd⟩
          have hq : ¬ (48 ≤ d[k].toNat ∧ d[k].toNat ≤ 57) := fun h => hd ((isD_iff _).2 (by rw [← hb]; exact h))
          clear hb hd
          by_cases hq3 : 48 ≤ (d[k].toNat : Int)
          · have hq4 : ¬ (d[k].toNat : Int) ≤ 57 := by omega
            clear hq
            go_wp2
            go_meet
            exact ⟨k, hk, rfl, HN, rfl⟩
          · clear hq
            go_wp2
            go_meet
            exact ⟨k, hk, rfl, HN, rfl⟩
      · have HN : Hid ((∀ j, j < k → isD (by8 d j) = true) ∧ (k < d.size → isD (by8 d k) = false)) := ⟨HA.out, fun h => absurd h hlt⟩
        have hiz : ¬ (k : Int) < (d.size : Int) := by omega
        go_wp2
        go_meet
        exact ⟨k, hk, rfl, HN, rfl⟩
  case rest =>
    obtain ⟨k, hk, rfl, HK, rfl⟩ := hcut
    go_upto_block 2 with fail
    go_cut [8] (fun t wx => ∃ z : Nat, z ≤ k ∧ t = .int .i64 z ∧ Hid ((∀ j, j < z → (by8 d j).toNat = 48) ∧ (z < k → (by8 d z).toNat ≠ 48)) ∧ wx = wc)
    case first =>
      go_wp2_with fail
      go_loopg [8] k (fun g t wx => ∃ z : Nat, z ≤ k ∧ g = k - z ∧ t = .int .i64 z ∧ Hid (∀ j, j < z → (by8 d j).toNat = 48) ∧ wx = wc)
      case atStart => exact ⟨0, Nat.zero_le _, rfl, rfl, fun j hj => absurd hj (by omega), rfl⟩
      case round =>
        obtain ⟨z, hz, rfl, rfl, HA, rfl⟩ := hrel
        by_cases hlt : z < k
        · have hzd : z < d.size := by omega
          have hb := by8_get d z hzd
          have hiz : (z : Int) < (k : Int) := by omega
          have hiz2 : (z : Int) < (d.size : Int) := by omega
          by_cases hd : (by8 d z).toNat = 48
          · have HN : Hid (∀ j, j < z + 1 → (by8 d j).toNat = 48) := fun j hj => by
              by_cases e : j = z
              · subst e; exact hd
              · exact HA.out j (by omega)
            have hq : ((d[z].toNat : Int) == 48) = true := by rw [hb, hd]; rfl
            clear hb hd
            go_wp2
            go_roundg (k - (z + 1))
            case measure => omega
            case rel => exact ⟨z + 1, by omega, rfl, by go_num, HN, rfl⟩
          · have HN : Hid ((∀ j, j < z → (by8 d j).toNat = 48) ∧ (z < k → (by8 d z).toNat ≠ 48)) := ⟨HA.out, fun _ => hd⟩
            have hq : ((d[z].toNat : Int) == 48) = false := beq_eq_false_iff_ne.2 (by rw [hb]; omega)
            clear hb hd
            go_wp2
            go_meet
            exact ⟨z, hz, rfl, HN, rfl⟩
        · have HN : Hid ((∀ j, j < z → (by8 d j).toNat = 48) ∧ (z < k → (by8 d z).toNat ≠ 48)) := ⟨HA.out, fun h => absurd h hlt⟩
          have hiz : ¬ (z : Int) < (k : Int) := by omega
          go_wp2
          go_meet
          exact ⟨z, hz, rfl, HN, rfl⟩
    case rest =>
      obtain ⟨z, hz, rfl, HZ, rfl⟩ := hcut
      have hkl : k ≤ l.length := by rw [← HD.out, len_data]; exact hk
      have G := grammar l k z hkl hz (fun j hj => by have := HK.out.1 j hj; unfold by8 at this; rw [HD.out] at this; exact this)
        (fun h => by have := HK.out.2 (by rw [← HD.out, len_data] at h; exact h); unfold by8 at this; rw [HD.out] at this; exact this)
        (fun j hj => by have := HZ.out.1 j hj; unfold by8 at this; rw [HD.out] at this; exact this)
        (fun h => by have := HZ.out.2 h; unfold by8 at this; rw [HD.out] at this; exact this)
      have hsl : (d.extract z k).data.toList = (l.take k).drop z := by
        rw [Lib.extract_data, HD.out, List.drop_take]
      have hsz : (d.extract z k).size = k - z := by simp; omega
      have hdig : ∀ j, j < k - z → isD (by8 (d.extract z k) j) = true := by
        intro j hj
        have := HK.out.1 (z + j) (by omega)
        unfold by8 at this ⊢
        rw [Lib.extract_data]
        simp only [List.getD, List.getElem?_take, List.getElem?_drop] at this ⊢
        rw [if_pos hj]
        exact this
      have hll : l.length = d.size := by rw [← HD.out, len_data]
      rw [hll, ← hsl] at G
      have H16 := fun W => above_any (d.extract z k) W (by omega)
      have HG : Hid _ := G
      have HDG : Hid _ := hdig
      have HSZ : Hid ((d.extract z k).size = k - z) := hsz
      have H16' : Hid _ := H16
      clear G hdig H16 hsl hll HK HZ HD hsz hkl
      go_wp2_with fail
      generalize d.extract z k = g at HG HDG HSZ H16' ⊢
      have HA := H16'.out wc
      clear H16'
      have hgz : g.size ≤ k := by rw [HSZ.out]; omega
      cases hab : aboveB g.data.toList
      · rw [hab] at HA
        have HGF := HG.out.2
        rw [hab] at HGF
        clear hab HG
        by_cases hk0 : k = 0 ∨ k < d.size
        · have HR : Hid (parseUintB 64 l = bad) := HGF.1 rfl hk0
          clear HGF
          by_cases hkz : k = 0
          · have t1 : ((k : Int) == 0) = true := by rw [hkz]; rfl
            clear hkz hk0
            refine HA.mono ?_
            rintro e W1 ⟨rfl, hB⟩
            clear HA
            go_wp2
            go_ret3
            exact ⟨ret_three rfl (by rw [HR.out]; rfl) (by rw [HR.out]; rfl), hB⟩
          · have t1 : ((k : Int) == 0) = false := beq_eq_false_iff_ne.2 (by omega)
            have t2 : (k : Int) < (d.size : Int) := by omega
            clear hkz hk0
            refine HA.mono ?_
            rintro e W1 ⟨rfl, hB⟩
            clear HA
            go_wp2
            go_ret3
            exact ⟨ret_three rfl (by rw [HR.out]; rfl) (by rw [HR.out]; rfl), hB⟩
        · obtain ⟨hr1, hr2⟩ := HGF.2 rfl hk0
          have HR : Hid (parseUintB 64 l = .ok (vF 0 g.data.toList)) := hr1
          have HM : Hid (vF 0 g.data.toList ≤ 18446744073709551615) := hr2
          have t1 : ((k : Int) == 0) = false := beq_eq_false_iff_ne.2 (by omega)
          have t2 : ¬ (k : Int) < (d.size : Int) := by omega
          have hk63 : k ≤ 1048576 := by omega
          have HKZ : Hid (g.size = k - z) := HSZ.out
          clear HGF hr1 hr2 hk0 HSZ
          refine HA.mono ?_
          rintro e W1 ⟨rfl, hB⟩
          clear HA
          go_wp2
          clear t1 t2
          go_loop [10, 11] (fun v u => ∃ (i : Nat) (V : Int), i ≤ g.size ∧ u = .int .i64 i ∧ v = .int .u64 V ∧ 0 ≤ V ∧ V ≤ 18446744073709551615 ∧ Hid (V = (vF 0 (g.data.toList.take i) : Nat))) (fun _ u => g.size - (intOf u).toNat)
          case atStart => exact ⟨0, 0, Nat.zero_le _, rfl, rfl, by omega, by omega, rfl⟩
          case round =>
            obtain ⟨i, V, hi, rfl, rfl, hV0, hV1, HV⟩ := hrel
            by_cases hlt : i < g.size
            · have hb := by8_get g i hlt
              have hd := (isD_iff _).1 (HDG.out i (by rw [← HKZ.out]; exact hlt))
              have hn := vF_next g.data.toList i (by rw [len_data]; exact hlt)
              have hle := vF_take_le g.data.toList (i + 1)
              have hm := HM.out
              have hby : (g.data.toList.getD i 0).toNat = g[i].toNat := hb.symm
              rw [← hb] at hd
              rw [hby] at hn
              have hV := HV.out
              have b1 : 48 ≤ (g[i].toNat : Int) := by omega
              have b2 : (g[i].toNat : Int) ≤ 57 := by omega
              have b3 : V * 10 + ((g[i].toNat : Int) - 48) ≤ 18446744073709551615 := by omega
              have b4 : 0 ≤ V * 10 + ((g[i].toNat : Int) - 48) := by omega
              have HN : Hid (V * 10 + ((g[i].toNat : Int) - 48) = (vF 0 (g.data.toList.take (i + 1)) : Nat)) := by
                show _ = _
                rw [hn]; omega
              have hiz : (i : Int) < (g.size : Int) := by omega
              clear hb hd hn hle hm hby hV HV
              go_wp2
              go_round
              case rel => exact ⟨i + 1, V * 10 + ((g[i].toNat : Int) - 48), by omega, by go_num, by go_num, b4, b3, HN⟩
              case measure => simp [intOf]; omega
            · have HE : Hid (V = outN (parseUintB 64 l)) := by
                show V = _
                rw [HR.out]
                have h := HV.out
                rw [List.take_of_length_le (by rw [len_data]; omega)] at h
                exact h
              have hiz : ¬ (i : Int) < (g.size : Int) := by omega
              clear HV
              go_wp2
              go_ret3
              exact ⟨ret_three rfl HE.out (by rw [HR.out]; rfl), hB⟩
      · rw [hab] at HA
        have HR : Hid (parseUintB 64 l = .range) := HG.out.1 hab
        clear hab HG
        refine HA.mono ?_
        rintro e W1 ⟨rfl, hB⟩
        clear HA
        go_wp2
        go_ret3
        exact ⟨ret_three rfl (by rw [HR.out]; rfl) (by rw [HR.out]; rfl), hB⟩

set_option maxHeartbeats 6400000 in
theorem model_plain (d : ByteArray) (w : World) (hdsz : d.size ≤ 1048576) (h0 : 0 < d.size) (h45 : (by8 d 0).toNat ≠ 45) (h43 : (by8 d 0).toNat ≠ 43) (l : List UInt8) (hl : l = dOf d) :
    Calls Tryd.prog 9 #[.string d] w fun e w' => e = .returned (.tuple #[.bool false, .int .u64 (outN (parseUintB 64 l)), .bool (outB (parseUintB 64 l))]) ∧ Below w.heap.size w w' := by
  have hA := by8_get d 0 h0
  have q0 : (0 : Int) < (d.size : Int) := by omega
  have q1 : ((d[0].toNat : Int) == 45) = false := beq_eq_false_iff_ne.2 (by rw [hA]; omega)
  have q2 : ((d[0].toNat : Int) == 43) = false := beq_eq_false_iff_ne.2 (by rw [hA]; omega)
  have HD : Hid (d.data.toList = l) := by
    show _ = _
    rw [hl, dOf, if_neg (by omega)]
  clear hA h45 h43 hl
  go_enter Tryd.func9, Tryd.ntmps9
  go_upto_block 0 with fail
  clear q1 q2
  go_cut [7] (fun t wx => ∃ k : Nat, k ≤ d.size ∧ t = .int .i64 k ∧ Hid ((∀ j, j < k → isD (by8 d j) = true) ∧ (k < d.size → isD (by8 d k) = false)) ∧ wx = w)
  case first =>
    go_wp2_with fail
    go_loopg [7] d.size (fun g t wx => ∃ k : Nat, k ≤ d.size ∧ g = d.size - k ∧ t = .int .i64 k ∧ Hid (∀ j, j < k → isD (by8 d j) = true) ∧ wx = w)
    case atStart => exact ⟨0, Nat.zero_le _, rfl, rfl, fun j hj => absurd hj (by omega), rfl⟩
    case round =>
      obtain ⟨k, hk, rfl, rfl, HA, rfl⟩ := hrel
      by_cases hlt : k < d.size
      · have hb := by8_get d k hlt
        have hiz : (k : Int) < (d.size : Int) := by omega
        by_cases hd : isD (by8 d k) = true
        · have HN : Hid (∀ j, j < k + 1 → isD (by8 d j) = true) := fun j hj => by
            by_cases e : j = k
            · subst e; exact hd
            · exact HA.out j (by omega)
          have hq := (isD_iff _).1 hd
          rw [← hb] at hq
          obtain ⟨hq1, hq2⟩ := hq
          have hq3 : 48 ≤ (d[k].toNat : Int) := by omega
          have hq4 : (d[k].toNat : Int) ≤ 57 := by omega
          clear hb hd hq1 hq2
          go_wp2
          go_roundg (d.size - (k + 1))
          case measure => omega
          case rel => exact ⟨k + 1, by omega, rfl, by go_num, HN, rfl⟩
        · have HN : Hid ((∀ j, j < k → isD (by8 d j) = true) ∧ (k < d.size → isD (by8 d k) = false)) := ⟨HA.out, fun _ => by simpa using hd⟩
          have hq : ¬ (48 ≤ d[k].toNat ∧ d[k].toNat ≤ 57) := fun h => hd ((isD_iff _).2 (by rw [← hb]; exact h))
          clear hb hd
          by_cases hq3 : 48 ≤ (d[k].toNat : Int)
          · have hq4 : ¬ (d[k].toNat : Int) ≤ 57 := by omega
            clear hq
            go_wp2
            go_meet
            exact ⟨k, hk, rfl, HN, rfl⟩
          · clear hq
            go_wp2
            go_meet
            exact ⟨k, hk, rfl, HN, rfl⟩
      · have HN : Hid ((∀ j, j < k → isD (by8 d j) = true) ∧ (k < d.size → isD (by8 d k) = false)) := ⟨HA.out, fun h => absurd h hlt⟩
        have hiz : ¬ (k : Int) < (d.size : Int) := by omega
        go_wp2
        go_meet
        exact ⟨k, hk, rfl, HN, rfl⟩
  case rest =>
    obtain ⟨k, hk, rfl, HK, rfl⟩ := hcut
    go_upto_block 2 with fail
    go_cut [8] (fun t wx => ∃ z : Nat, z ≤ k ∧ t = .int .i64 z ∧ Hid ((∀ j, j < z → (by8 d j).toNat = 48) ∧ (z < k → (by8 d z).toNat ≠ 48)) ∧ wx = wc)
    case first =>
      go_wp2_with fail
      go_loopg [8] k (fun g t wx => ∃ z : Nat, z ≤ k ∧ g = k - z ∧ t = .int .i64 z ∧ Hid (∀ j, j < z → (by8 d j).toNat = 48) ∧ wx = wc)
      case atStart => exact ⟨0, Nat.zero_le _, rfl, rfl, fun j hj => absurd hj (by omega), rfl⟩
      case round =>
        obtain ⟨z, hz, rfl, rfl, HA, rfl⟩ := hrel
        by_cases hlt : z < k
        · have hzd : z < d.size := by omega
          have hb := by8_get d z hzd
          have hiz : (z : Int) < (k : Int) := by omega
          have hiz2 : (z : Int) < (d.size : Int) := by omega
          by_cases hd : (by8 d z).toNat = 48
          · have HN : Hid (∀ j, j < z + 1 → (by8 d j).toNat = 48) := fun j hj => by
              by_cases e : j = z
              · subst e; exact hd
              · exact HA.out j (by omega)
            have hq : ((d[z].toNat : Int) == 48) = true := by rw [hb, hd]; rfl
            clear hb hd
            go_wp2
            go_roundg (k - (z + 1))
            case measure => omega
            case rel => exact ⟨z + 1, by omega, rfl, by go_num, HN, rfl⟩
          · have HN : Hid ((∀ j, j < z → (by8 d j).toNat = 48) ∧ (z < k → (by8 d z).toNat ≠ 48)) := ⟨HA.out, fun _ => hd⟩
            have hq : ((d[z].toNat : Int) == 48) = false := beq_eq_false_iff_ne.2 (by rw [hb]; omega)
            clear hb hd
            go_wp2
            go_meet
            exact ⟨z, hz, rfl, HN, rfl⟩
        · have HN : Hid ((∀ j, j < z → (by8 d j).toNat = 48) ∧ (z < k → (by8 d z).toNat ≠ 48)) := ⟨HA.out, fun h => absurd h hlt⟩
          have hiz : ¬ (z : Int) < (k : Int) := by omega
          go_wp2
          go_meet
          exact ⟨z, hz, rfl, HN, rfl⟩
    case rest =>
      obtain ⟨z, hz, rfl, HZ, rfl⟩ := hcut
      have hkl : k ≤ l.length := by rw [← HD.out, len_data]; exact hk
      have G := grammar l k z hkl hz (fun j hj => by have := HK.out.1 j hj; unfold by8 at this; rw [HD.out] at this; exact this)
        (fun h => by have := HK.out.2 (by rw [← HD.out, len_data] at h; exact h); unfold by8 at this; rw [HD.out] at this; exact this)
        (fun j hj => by have := HZ.out.1 j hj; unfold by8 at this; rw [HD.out] at this; exact this)
        (fun h => by have := HZ.out.2 h; unfold by8 at this; rw [HD.out] at this; exact this)
      have hsl : (d.extract z k).data.toList = (l.take k).drop z := by
        rw [Lib.extract_data, HD.out, List.drop_take]
      have hsz : (d.extract z k).size = k - z := by simp; omega
      have hdig : ∀ j, j < k - z → isD (by8 (d.extract z k) j) = true := by
        intro j hj
        have := HK.out.1 (z + j) (by omega)
        unfold by8 at this ⊢
        rw [Lib.extract_data]
        simp only [List.getD, List.getElem?_take, List.getElem?_drop] at this ⊢
        rw [if_pos hj]
        exact this
      have hll : l.length = d.size := by rw [← HD.out, len_data]
      rw [hll, ← hsl] at G
      have H16 := fun W => above_any (d.extract z k) W (by omega)
      have HG : Hid _ := G
      have HDG : Hid _ := hdig
      have HSZ : Hid ((d.extract z k).size = k - z) := hsz
      have H16' : Hid _ := H16
      clear G hdig H16 hsl hll HK HZ HD hsz hkl
      go_wp2_with fail
      generalize d.extract z k = g at HG HDG HSZ H16' ⊢
      have HA := H16'.out wc
      clear H16'
      have hgz : g.size ≤ k := by rw [HSZ.out]; omega
      cases hab : aboveB g.data.toList
      · rw [hab] at HA
        have HGF := HG.out.2
        rw [hab] at HGF
        clear hab HG
        by_cases hk0 : k = 0 ∨ k < d.size
        · have HR : Hid (parseUintB 64 l = bad) := HGF.1 rfl hk0
          clear HGF
          by_cases hkz : k = 0
          · have t1 : ((k : Int) == 0) = true := by rw [hkz]; rfl
            clear hkz hk0
            refine HA.mono ?_
            rintro e W1 ⟨rfl, hB⟩
            clear HA
            go_wp2
            go_ret3
            exact ⟨ret_three rfl (by rw [HR.out]; rfl) (by rw [HR.out]; rfl), hB⟩
          · have t1 : ((k : Int) == 0) = false := beq_eq_false_iff_ne.2 (by omega)
            have t2 : (k : Int) < (d.size : Int) := by omega
            clear hkz hk0
            refine HA.mono ?_
            rintro e W1 ⟨rfl, hB⟩
            clear HA
            go_wp2
            go_ret3
            exact ⟨ret_three rfl (by rw [HR.out]; rfl) (by rw [HR.out]; rfl), hB⟩
        · obtain ⟨hr1, hr2⟩ := HGF.2 rfl hk0
          have HR : Hid (parseUintB 64 l = .ok (vF 0 g.data.toList)) := hr1
          have HM : Hid (vF 0 g.data.toList ≤ 18446744073709551615) := hr2
          have t1 : ((k : Int) == 0) = false := beq_eq_false_iff_ne.2 (by omega)
          have t2 : ¬ (k : Int) < (d.size : Int) := by omega
          have hk63 : k ≤ 1048576 := by omega
          have HKZ : Hid (g.size = k - z) := HSZ.out
          clear HGF hr1 hr2 hk0 HSZ
          refine HA.mono ?_
          rintro e W1 ⟨rfl, hB⟩
          clear HA
          go_wp2
          clear t1 t2
          go_loop [10, 11] (fun v u => ∃ (i : Nat) (V : Int), i ≤ g.size ∧ u = .int .i64 i ∧ v = .int .u64 V ∧ 0 ≤ V ∧ V ≤ 18446744073709551615 ∧ Hid (V = (vF 0 (g.data.toList.take i) : Nat))) (fun _ u => g.size - (intOf u).toNat)
          case atStart => exact ⟨0, 0, Nat.zero_le _, rfl, rfl, by omega, by omega, rfl⟩
          case round =>
            obtain ⟨i, V, hi, rfl, rfl, hV0, hV1, HV⟩ := hrel
            by_cases hlt : i < g.size
            · have hb := by8_get g i hlt
              have hd := (isD_iff _).1 (HDG.out i (by rw [← HKZ.out]; exact hlt))
              have hn := vF_next g.data.toList i (by rw [len_data]; exact hlt)
              have hle := vF_take_le g.data.toList (i + 1)
              have hm := HM.out
              have hby : (g.data.toList.getD i 0).toNat = g[i].toNat := hb.symm
              rw [← hb] at hd
              rw [hby] at hn
              have hV := HV.out
              have b1 : 48 ≤ (g[i].toNat : Int) := by omega
              have b2 : (g[i].toNat : Int) ≤ 57 := by omega
              have b3 : V * 10 + ((g[i].toNat : Int) - 48) ≤ 18446744073709551615 := by omega
              have b4 : 0 ≤ V * 10 + ((g[i].toNat : Int) - 48) := by omega
              have HN : Hid (V * 10 + ((g[i].toNat : Int) - 48) = (vF 0 (g.data.toList.take (i + 1)) : Nat)) := by
                show _ = _
                rw [hn]; omega
              have hiz : (i : Int) < (g.size : Int) := by omega
              clear hb hd hn hle hm hby hV HV
              go_wp2
              go_round
              case rel => exact ⟨i + 1, V * 10 + ((g[i].toNat : Int) - 48), by omega, by go_num, by go_num, b4, b3, HN⟩
              case measure => simp [intOf]; omega
            · have HE : Hid (V = outN (parseUintB 64 l)) := by
                show V = _
                rw [HR.out]
                have h := HV.out
                rw [List.take_of_length_le (by rw [len_data]; omega)] at h
                exact h
              have hiz : ¬ (i : Int) < (g.size : Int) := by omega
              clear HV
              go_wp2
              go_ret3
              exact ⟨ret_three rfl HE.out (by rw [HR.out]; rfl), hB⟩
      · rw [hab] at HA
        have HR : Hid (parseUintB 64 l = .range) := HG.out.1 hab
        clear hab HG
        refine HA.mono ?_
        rintro e W1 ⟨rfl, hB⟩
        clear HA
        go_wp2
        go_ret3
        exact ⟨ret_three rfl (by rw [HR.out]; rfl) (by rw [HR.out]; rfl), hB⟩

set_option maxHeartbeats 6400000 in
theorem model_empty (d : ByteArray) (w : World) (hdsz : d.size ≤ 1048576) (h0 : ¬ 0 < d.size) (l : List UInt8) (hl : l = dOf d) :
    Calls Tryd.prog 9 #[.string d] w fun e w' => e = .returned (.tuple #[.bool false, .int .u64 (outN (parseUintB 64 l)), .bool (outB (parseUintB 64 l))]) ∧ Below w.heap.size w w' := by
  have q0 : ¬ (0 : Int) < (d.size : Int) := by omega
  have HD : Hid (d.data.toList = l) := by
    show _ = _
    rw [hl, dOf, if_neg (by omega)]
  clear hl
  go_enter Tryd.func9, Tryd.ntmps9
  go_upto_block 0 with fail
  go_cut [7] (fun t wx => ∃ k : Nat, k ≤ d.size ∧ t = .int .i64 k ∧ Hid ((∀ j, j < k → isD (by8 d j) = true) ∧ (k < d.size → isD (by8 d k) = false)) ∧ wx = w)
  case first =>
    go_wp2_with fail
    go_loopg [7] d.size (fun g t wx => ∃ k : Nat, k ≤ d.size ∧ g = d.size - k ∧ t = .int .i64 k ∧ Hid (∀ j, j < k → isD (by8 d j) = true) ∧ wx = w)
    case atStart => exact ⟨0, Nat.zero_le _, rfl, rfl, fun j hj => absurd hj (by omega), rfl⟩
    case round =>
      obtain ⟨k, hk, rfl, rfl, HA, rfl⟩ := hrel
      by_cases hlt : k < d.size
      · have hb := by8_get d k hlt
        have hiz : (k : Int) < (d.size : Int) := by omega
        by_cases hd : isD (by8 d k) = true
        · have HN : Hid (∀ j, j < k + 1 → isD (by8 d j) = true) := fun j hj => by
            by_cases e : j = k
            · subst e; exact hd
            · exact HA.out j (by omega)
          have hq := (isD_iff _).1 hd
          rw [← hb] at hq
          obtain ⟨hq1, hq2⟩ := hq
          have hq3 : 48 ≤ (d[k].toNat : Int) := by omega
          have hq4 : (d[k].toNat : Int) ≤ 57 := by omega
          clear hb hd hq1 hq2
          go_wp2
          go_roundg (d.size - (k + 1))
          case measure => omega
          case rel => exact ⟨k + 1, by omega, rfl, by go_num, HN, rfl⟩
        · have HN : Hid ((∀ j, j < k → isD (by8 d j) = true) ∧ (k < d.size → isD (by8 d k) = false)) := ⟨HA.out, fun _ => by simpa using hd⟩
          have hq : ¬ (48 ≤ d[k].toNat ∧ d[k].toNat ≤ 57) := fun h => hd ((isD_iff _).2 (by rw [← hb]; exact h))
          clear hb hd
          by_cases hq3 : 48 ≤ (d[k].toNat : Int)
          · have hq4 : ¬ (d[k].toNat : Int) ≤ 57 := by omega
            clear hq
            go_wp2
            go_meet
            exact ⟨k, hk, rfl, HN, rfl⟩
          · clear hq
            go_wp2
            go_meet
            exact ⟨k, hk, rfl, HN, rfl⟩
      · have HN : Hid ((∀ j, j < k → isD (by8 d j) = true) ∧ (k < d.size → isD (by8 d k) = false)) := ⟨HA.out, fun h => absurd h hlt⟩
        have hiz : ¬ (k : Int) < (d.size : Int) := by omega
        go_wp2
        go_meet
        exact ⟨k, hk, rfl, HN, rfl⟩
  case rest =>
    obtain ⟨k, hk, rfl, HK, rfl⟩ := hcut
    go_upto_block 2 with fail
    go_cut [8] (fun t wx => ∃ z : Nat, z ≤ k ∧ t = .int .i64 z ∧ Hid ((∀ j, j < z → (by8 d j).toNat = 48) ∧ (z < k → (by8 d z).toNat ≠ 48)) ∧ wx = wc)
    case first =>
      go_wp2_with fail
      go_loopg [8] k (fun g t wx => ∃ z : Nat, z ≤ k ∧ g = k - z ∧ t = .int .i64 z ∧ Hid (∀ j, j < z → (by8 d j).toNat = 48) ∧ wx = wc)
      case atStart => exact ⟨0, Nat.zero_le _, rfl, rfl, fun j hj => absurd hj (by omega), rfl⟩
      case round =>
        obtain ⟨z, hz, rfl, rfl, HA, rfl⟩ := hrel
        by_cases hlt : z < k
        · have hzd : z < d.size := by omega
          have hb := by8_get d z hzd
          have hiz : (z : Int) < (k : Int) := by omega
          have hiz2 : (z : Int) < (d.size : Int) := by omega
          by_cases hd : (by8 d z).toNat = 48
          · have HN : Hid (∀ j, j < z + 1 → (by8 d j).toNat = 48) := fun j hj => by
              by_cases e : j = z
              · subst e; exact hd
              · exact HA.out j (by omega)
            have hq : ((d[z].toNat : Int) == 48) = true := by rw [hb, hd]; rfl
            clear hb hd
            go_wp2
            go_roundg (k - (z + 1))
            case measure => omega
            case rel => exact ⟨z + 1, by omega, rfl, by go_num, HN, rfl⟩
          · have HN : Hid ((∀ j, j < z → (by8 d j).toNat = 48) ∧ (z < k → (by8 d z).toNat ≠ 48)) := ⟨HA.out, fun _ => hd⟩
            have hq : ((d[z].toNat : Int) == 48) = false := beq_eq_false_iff_ne.2 (by rw [hb]; omega)
            clear hb hd
            go_wp2
            go_meet
            exact ⟨z, hz, rfl, HN, rfl⟩
        · have HN : Hid ((∀ j, j < z → (by8 d j).toNat = 48) ∧ (z < k → (by8 d z).toNat ≠ 48)) := ⟨HA.out, fun h => absurd h hlt⟩
          have hiz : ¬ (z : Int) < (k : Int) := by omega
          go_wp2
          go_meet
          exact ⟨z, hz, rfl, HN, rfl⟩
    case rest =>
      obtain ⟨z, hz, rfl, HZ, rfl⟩ := hcut
      have hkl : k ≤ l.length := by rw [← HD.out, len_data]; exact hk
      have G := grammar l k z hkl hz (fun j hj => by have := HK.out.1 j hj; unfold by8 at this; rw [HD.out] at this; exact this)
        (fun h => by have := HK.out.2 (by rw [← HD.out, len_data] at h; exact h); unfold by8 at this; rw [HD.out] at this; exact this)
        (fun j hj => by have := HZ.out.1 j hj; unfold by8 at this; rw [HD.out] at this; exact this)
        (fun h => by have := HZ.out.2 h; unfold by8 at this; rw [HD.out] at this; exact this)
      have hsl : (d.extract z k).data.toList = (l.take k).drop z := by
        rw [Lib.extract_data, HD.out, List.drop_take]
      have hsz : (d.extract z k).size = k - z := by simp; omega
      have hdig : ∀ j, j < k - z → isD (by8 (d.extract z k) j) = true := by
        intro j hj
        have := HK.out.1 (z + j) (by omega)
        unfold by8 at this ⊢
        rw [Lib.extract_data]
        simp only [List.getD, List.getElem?_take, List.getElem?_drop] at this ⊢
        rw [if_pos hj]
        exact this
      have hll : l.length = d.size := by rw [← HD.out, len_data]
      rw [hll, ← hsl] at G
      have H16 := fun W => above_any (d.extract z k) W (by omega)
      have HG : Hid _ := G
      have HDG : Hid _ := hdig
      have HSZ : Hid ((d.extract z k).size = k - z) := hsz
      have H16' : Hid _ := H16
      clear G hdig H16 hsl hll HK HZ HD hsz hkl
      go_wp2_with fail
      generalize d.extract z k = g at HG HDG HSZ H16' ⊢
      have HA := H16'.out wc
      clear H16'
      have hgz : g.size ≤ k := by rw [HSZ.out]; omega
      cases hab : aboveB g.data.toList
      · rw [hab] at HA
        have HGF := HG.out.2
        rw [hab] at HGF
        clear hab HG
        by_cases hk0 : k = 0 ∨ k < d.size
        · have HR : Hid (parseUintB 64 l = bad) := HGF.1 rfl hk0
          clear HGF
          by_cases hkz : k = 0
          · have t1 : ((k : Int) == 0) = true := by rw [hkz]; rfl
            clear hkz hk0
            refine HA.mono ?_
            rintro e W1 ⟨rfl, hB⟩
            clear HA
            go_wp2
            go_ret3
            exact ⟨ret_three rfl (by rw [HR.out]; rfl) (by rw [HR.out]; rfl), hB⟩
          · have t1 : ((k : Int) == 0) = false := beq_eq_false_iff_ne.2 (by omega)
            have t2 : (k : Int) < (d.size : Int) := by omega
            clear hkz hk0
            refine HA.mono ?_
            rintro e W1 ⟨rfl, hB⟩
            clear HA
            go_wp2
            go_ret3
            exact ⟨ret_three rfl (by rw [HR.out]; rfl) (by rw [HR.out]; rfl), hB⟩
        · obtain ⟨hr1, hr2⟩ := HGF.2 rfl hk0
          have HR : Hid (parseUintB 64 l = .ok (vF 0 g.data.toList)) := hr1
          have HM : Hid (vF 0 g.data.toList ≤ 18446744073709551615) := hr2
          have t1 : ((k : Int) == 0) = false := beq_eq_false_iff_ne.2 (by omega)
          have t2 : ¬ (k : Int) < (d.size : Int) := by omega
          have hk63 : k ≤ 1048576 := by omega
          have HKZ : Hid (g.size = k - z) := HSZ.out
          clear HGF hr1 hr2 hk0 HSZ
          refine HA.mono ?_
          rintro e W1 ⟨rfl, hB⟩
          clear HA
          go_wp2
          clear t1 t2
          go_loop [10, 11] (fun v u => ∃ (i : Nat) (V : Int), i ≤ g.size ∧ u = .int .i64 i ∧ v = .int .u64 V ∧ 0 ≤ V ∧ V ≤ 18446744073709551615 ∧ Hid (V = (vF 0 (g.data.toList.take i) : Nat))) (fun _ u => g.size - (intOf u).toNat)
          case atStart => exact ⟨0, 0, Nat.zero_le _, rfl, rfl, by omega, by omega, rfl⟩
          case round =>
            obtain ⟨i, V, hi, rfl, rfl, hV0, hV1, HV⟩ := hrel
            by_cases hlt : i < g.size
            · have hb := by8_get g i hlt
              have hd := (isD_iff _).1 (HDG.out i (by rw [← HKZ.out]; exact hlt))
              have hn := vF_next g.data.toList i (by rw [len_data]; exact hlt)
              have hle := vF_take_le g.data.toList (i + 1)
              have hm := HM.out
              have hby : (g.data.toList.getD i 0).toNat = g[i].toNat := hb.symm
              rw [← hb] at hd
              rw [hby] at hn
              have hV := HV.out
              have b1 : 48 ≤ (g[i].toNat : Int) := by omega
              have b2 : (g[i].toNat : Int) ≤ 57 := by omega
              have b3 : V * 10 + ((g[i].toNat : Int) - 48) ≤ 18446744073709551615 := by omega
              have b4 : 0 ≤ V * 10 + ((g[i].toNat : Int) - 48) := by omega
              have HN : Hid (V * 10 + ((g[i].toNat : Int) - 48) = (vF 0 (g.data.toList.take (i + 1)) : Nat)) := by
                show _ = _
                rw [hn]; omega
              have hiz : (i : Int) < (g.size : Int) := by omega
              clear hb hd hn hle hm hby hV HV
              go_wp2
              go_round
              case rel => exact ⟨i + 1, V * 10 + ((g[i].toNat : Int) - 48), by omega, by go_num, by go_num, b4, b3, HN⟩
              case measure => simp [intOf]; omega
            · have HE : Hid (V = outN (parseUintB 64 l)) := by
                show V = _
                rw [HR.out]
                have h := HV.out
                rw [List.take_of_length_le (by rw [len_data]; omega)] at h
                exact h
              have hiz : ¬ (i : Int) < (g.size : Int) := by omega
              clear HV
              go_wp2
              go_ret3
              exact ⟨ret_three rfl HE.out (by rw [HR.out]; rfl), hB⟩
      · rw [hab] at HA
        have HR : Hid (parseUintB 64 l = .range) := HG.out.1 hab
        clear hab HG
        refine HA.mono ?_
        rintro e W1 ⟨rfl, hB⟩
        clear HA
        go_wp2
        go_ret3
        exact ⟨ret_three rfl (by rw [HR.out]; rfl) (by rw [HR.out]; rfl), hB⟩

theorem model_any (s : ByteArray) (w : World) (hs : s.size ≤ 1048576) :
    Calls Tryd.prog 9 #[.string s] w fun e w' => e = .returned (.tuple #[.bool (negB s), .int .u64 (outN (parseUintB 64 (dOf s))), .bool (outB (parseUintB 64 (dOf s)))]) ∧ Below w.heap.size w w' := by
  by_cases h0 : 0 < s.size
  · by_cases h45 : (by8 s 0).toNat = 45
    · have e : negB s = true := by simp [negB, h0, h45]
      rw [e]
      exact model_minus s w hs h0 h45 _ rfl
    · have e : negB s = false := by simp [negB, h45]
      rw [e]
      by_cases h43 : (by8 s 0).toNat = 43
      · exact model_plus s w hs h0 h43 _ rfl
      · exact model_plain s w hs h0 h45 h43 _ rfl
  · have e : negB s = false := by simp [negB, h0]
    rw [e]
    exact model_empty s w hs h0 _ rfl

end Go.Proofs.Qxb6601122aDoor
