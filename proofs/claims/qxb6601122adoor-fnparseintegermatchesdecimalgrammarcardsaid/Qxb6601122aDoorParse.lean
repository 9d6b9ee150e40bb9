/-
  SEAT b6601122aD: THE CONTRACTS OF strconv.ParseUint(s, 10, 64) (19: the shelf's three, laid at this dump), strings.CutPrefix (18) AT A SIGN, 'parseInteger' (15) AND 'ZZparseInteger' (8).
-/
import Derived.Test.Qxb6601122aDoorModel
import Derived.Test.Qxb6601122aDoorShelf
import Derived.Lib.AtoiErrMem
namespace Go.Proofs.Qxb6601122aDoor
open Go.ChangeShapes Go.WideShapes Go.ChangeAt Go.RowKit
open Go.Lib (parseUintB NumEnd)
set_option linter.unusedVariables false

theorem first_byte (s : ByteArray) (h0 : 0 < s.size) : (s.extract 0 1).toList = [by8 s 0] := by
  rw [Lib.toList_data, Lib.extract_data]
  have h : 0 < s.data.toList.length := by rw [len_data]; exact h0
  simp only [List.drop_zero, Nat.sub_zero, by8, List.getD, List.getElem?_eq_getElem h, Option.getD_some]
  rw [List.take_succ_eq_append_getElem h]
  rfl

theorem cut_minus (s : ByteArray) (w : World) (hs : s.size ≤ 1048576) (h0 : 0 < s.size) (h : by8 s 0 = 45) :
    Calls Tryd.prog 18 #[.string s, .string ⟨#[45]⟩] w fun e w' => e = .returned (.tuple #[.string (s.extract 1 s.size), .bool true]) ∧ w' = w := by
  have hq : ((s.extract 0 1).toList == [45]) = true := by rw [first_byte s h0, h]; rfl
  clear h
  go_enter Tryd.func18, Tryd.ntmps18
  go_wp2
  go_ret2
  exact ⟨rfl, rfl⟩

theorem cut_plus (s : ByteArray) (w : World) (hs : s.size ≤ 1048576) (h0 : 0 < s.size) (h : by8 s 0 = 43) :
    Calls Tryd.prog 18 #[.string s, .string ⟨#[43]⟩] w fun e w' => e = .returned (.tuple #[.string (s.extract 1 s.size), .bool true]) ∧ w' = w := by
  have hq : ((s.extract 0 1).toList == [43]) = true := by rw [first_byte s h0, h]; rfl
  clear h
  go_enter Tryd.func18, Tryd.ntmps18
  go_wp2
  go_ret2
  exact ⟨rfl, rfl⟩

theorem cut_minus_no (s : ByteArray) (w : World) (hs : s.size ≤ 1048576) (h : 0 < s.size → by8 s 0 ≠ 45) :
    Calls Tryd.prog 18 #[.string s, .string ⟨#[45]⟩] w fun e w' => e = .returned (.tuple #[.string s, .bool false]) ∧ w' = w := by
  by_cases h0 : 0 < s.size
  · have hq : ((s.extract 0 1).toList == [45]) = false := by
      rw [first_byte s h0, beq_eq_false_iff_ne]
      intro e
      exact h h0 (by simpa using e)
    have h1 : 1 ≤ (s.size : Int) := by omega
    clear h
    go_enter Tryd.func18, Tryd.ntmps18
    go_wp2
    go_ret2
    exact ⟨rfl, rfl⟩
  · have h1 : ¬ 1 ≤ (s.size : Int) := by omega
    clear h
    go_enter Tryd.func18, Tryd.ntmps18
    go_wp2
    go_ret2
    exact ⟨rfl, rfl⟩

theorem cut_plus_no (s : ByteArray) (w : World) (hs : s.size ≤ 1048576) (h : 0 < s.size → by8 s 0 ≠ 43) :
    Calls Tryd.prog 18 #[.string s, .string ⟨#[43]⟩] w fun e w' => e = .returned (.tuple #[.string s, .bool false]) ∧ w' = w := by
  by_cases h0 : 0 < s.size
  · have hq : ((s.extract 0 1).toList == [43]) = false := by
      rw [first_byte s h0, beq_eq_false_iff_ne]
      intro e
      exact h h0 (by simpa using e)
    have h1 : 1 ≤ (s.size : Int) := by omega
    clear h
    go_enter Tryd.func18, Tryd.ntmps18
    go_wp2
    go_ret2
    exact ⟨rfl, rfl⟩
  · have h1 : ¬ 1 ≤ (s.size : Int) := by omega
    clear h
    go_enter Tryd.func18, Tryd.ntmps18
    go_wp2
    go_ret2
    exact ⟨rfl, rfl⟩

/-- strconv.ParseUint(d, 10, 64): the number, and whether the error is nil. -/
theorem pu_any (d : ByteArray) (w : World) (hd : d.size ≤ 1048576) (tv tr : TypeId) (pv pr : Value) (hv : w.var? Tryd.prog "strconv.ErrSyntax" = some #[.iface tv pv]) (hr : w.var? Tryd.prog "strconv.ErrRange" = some #[.iface tr pr]) :
    Calls Tryd.prog 19 #[.string d, .int .i64 10, .int .i64 64] w fun e w' => ∃ err, e = .returned (.tuple #[.int .u64 (outN (parseUintB 64 d.data.toList)), err]) ∧
      Hid ((outB (parseUintB 64 d.data.toList) = true ∧ err = .nilIface) ∨ (outB (parseUintB 64 d.data.toList) = false ∧ ∃ N, err = .iface 51 (.pointer (some ⟨N, 0, none⟩)))) ∧ Below w.heap.size w w' := by
  cases hp : parseUintB 64 d.data.toList with
  | ok u =>
    have H : Calls Tryd.prog 19 #[.string d, .int .i64 10, .int .i64 64] w fun e w' => e = .returned (.tuple #[.int .u64 u, .nilIface]) ∧ (w' = w ∨ w' = Lib.bytesWorld w 5 d) :=
      Any.strconv_ParseUint_10_at64_ok (ρ := Tryd.laysPu14_ren) Tryd.laysPu14 d (by omega) u hp w
    refine H.mono ?_
    rintro e w' ⟨rfl, hw⟩
    refine ⟨_, rfl, Or.inl ⟨rfl, rfl⟩, ?_⟩
    rcases hw with rfl | rfl
    · exact Below.refl _ _
    · exact Lib.bytesWorld_below w 5 d
  | range =>
    have H : Calls Tryd.prog 19 #[.string d, .int .i64 10, .int .i64 64] w fun e w' => ∃ N, e = .returned (.tuple #[.int .u64 18446744073709551615, .iface 51 (.pointer (some ⟨N, 0, none⟩))]) ∧ w.heap.size ≤ N ∧ w'.heap[N]? = some (.cells #[.string ⟨#[80, 97, 114, 115, 101, 85, 105, 110, 116]⟩, .string d, .iface tr pr] 58 (0, 0)) ∧ Below w.heap.size w w' :=
      Any.strconv_ParseUint_10_at64_range_var (ρ := Tryd.laysPu14_ren) Tryd.laysPu14 d (by omega) hp tr pr w hr
    refine H.mono ?_
    rintro e w' ⟨N, rfl, _, _, hb⟩
    exact ⟨_, rfl, Or.inr ⟨rfl, N, rfl⟩, hb⟩
  | _ =>
    have H : Calls Tryd.prog 19 #[.string d, .int .i64 10, .int .i64 64] w fun e w' => ∃ N, e = .returned (.tuple #[.int .u64 0, .iface 51 (.pointer (some ⟨N, 0, none⟩))]) ∧ w.heap.size ≤ N ∧ w'.heap[N]? = some (.cells #[.string ⟨#[80, 97, 114, 115, 101, 85, 105, 110, 116]⟩, .string d, .iface tv pv] 58 (0, 0)) ∧ Below w.heap.size w w' :=
      Any.strconv_ParseUint_10_at64_syntax_var (ρ := Tryd.laysPu14_ren) Tryd.laysPu14 d (by omega) hp tv pv w hv
    refine H.mono ?_
    rintro e w' ⟨N, rfl, _, _, hb⟩
    exact ⟨_, rfl, Or.inr ⟨rfl, N, rfl⟩, hb⟩

theorem by8_eq (s : ByteArray) (j : Nat) (c : UInt8) : by8 s j = c ↔ (by8 s j).toNat = c.toNat := by
  constructor
  · intro h; rw [h]
  · intro h; exact UInt8.toNat_inj.1 h

set_option maxHeartbeats 1600000 in
theorem parse_any (s : ByteArray) (w : World) (hs : s.size ≤ 1048576) (tv tr : TypeId) (pv pr : Value) (hv : w.var? Tryd.prog "strconv.ErrSyntax" = some #[.iface tv pv]) (hr : w.var? Tryd.prog "strconv.ErrRange" = some #[.iface tr pr]) :
    Calls Tryd.prog 15 #[.string s] w fun e w' => e = .returned (.tuple #[.bool (negB s), .int .u64 (outN (parseUintB 64 (dOf s))), .bool (outB (parseUintB 64 (dOf s)))]) ∧ Below w.heap.size w w' := by
  by_cases hm : 0 < s.size ∧ (by8 s 0).toNat = 45
  · obtain ⟨h0, h45⟩ := hm
    have eN : negB s = true := by simp [negB, h0, h45]
    have eD : dOf s = (s.extract 1 s.size).data.toList := by rw [drop_one s h0, dOf, if_pos ⟨h0, Or.inl h45⟩]
    have H1 := cut_minus s w hs h0 ((by8_eq s 0 45).2 h45)
    have H2 := pu_any (s.extract 1 s.size) w (by simp; omega) tv tr pv pr hv hr
    rw [eN, eD]
    generalize s.extract 1 s.size = d at H1 H2 ⊢
    generalize outN (parseUintB 64 d.data.toList) = M at H2 ⊢
    generalize outB (parseUintB 64 d.data.toList) = B at H2 ⊢
    clear eN eD h45 hv hr
    go_enter Tryd.func15, Tryd.ntmps15
    go_wp2_with fail
    refine H1.mono ?_
    rintro e w' ⟨rfl, rfl⟩
    clear H1
    go_wp2_with fail
    refine H2.mono ?_
    rintro e W1 ⟨err, rfl, HE, hb⟩
    clear H2
    rcases HE.out with ⟨rfl, rfl⟩ | ⟨rfl, N, rfl⟩
    all_goals (
      clear HE
      go_wp2
      go_quiet (fail)
      go_wp2
      go_ret3
      exact ⟨rfl, below_drewN hb _⟩)
  · have eN : negB s = false := by
      unfold negB
      by_cases h0 : 0 < s.size
      · simp [show ¬ (by8 s 0).toNat = 45 from fun h => hm ⟨h0, h⟩]
      · simp [h0]
    have H1 := cut_minus_no s w hs (fun h0 h => hm ⟨h0, (by8_eq s 0 45).1 h⟩)
    rw [eN]
    by_cases hp : 0 < s.size ∧ (by8 s 0).toNat = 43
    · obtain ⟨h0, h43⟩ := hp
      have eD : dOf s = (s.extract 1 s.size).data.toList := by rw [drop_one s h0, dOf, if_pos ⟨h0, Or.inr h43⟩]
      have H1' := cut_plus s w hs h0 ((by8_eq s 0 43).2 h43)
      have H2 := pu_any (s.extract 1 s.size) w (by simp; omega) tv tr pv pr hv hr
      rw [eD]
      generalize s.extract 1 s.size = d at H1' H2 ⊢
      generalize outN (parseUintB 64 d.data.toList) = M at H2 ⊢
      generalize outB (parseUintB 64 d.data.toList) = B at H2 ⊢
      clear eN eD h43 hv hr hm
      go_enter Tryd.func15, Tryd.ntmps15
      go_wp2_with fail
      refine H1.mono ?_
      rintro e w' ⟨rfl, rfl⟩
      clear H1
      go_wp2_with fail
      refine H1'.mono ?_
      rintro e w' ⟨rfl, rfl⟩
      clear H1'
      go_wp2_with fail
      refine H2.mono ?_
      rintro e W1 ⟨err, rfl, HE, hb⟩
      clear H2
      rcases HE.out with ⟨rfl, rfl⟩ | ⟨rfl, N, rfl⟩
      all_goals (
        clear HE
        go_wp2
        go_quiet (fail)
        go_wp2
        go_ret3
        exact ⟨rfl, below_drewN hb _⟩)
    · have eD : dOf s = s.data.toList := by rw [dOf, if_neg (fun h => by rcases h.2 with h2 | h2; exact hm ⟨h.1, h2⟩; exact hp ⟨h.1, h2⟩)]
      have H1' := cut_plus_no s w hs (fun h0 h => hp ⟨h0, (by8_eq s 0 43).1 h⟩)
      have H2 := pu_any s w hs tv tr pv pr hv hr
      rw [eD]
      generalize outN (parseUintB 64 s.data.toList) = M at H2 ⊢
      generalize outB (parseUintB 64 s.data.toList) = B at H2 ⊢
      clear eN eD hv hr hm hp
      go_enter Tryd.func15, Tryd.ntmps15
      go_wp2_with fail
      refine H1.mono ?_
      rintro e w' ⟨rfl, rfl⟩
      clear H1
      go_wp2_with fail
      refine H1'.mono ?_
      rintro e w' ⟨rfl, rfl⟩
      clear H1'
      go_wp2_with fail
      refine H2.mono ?_
      rintro e W1 ⟨err, rfl, HE, hb⟩
      clear H2
      rcases HE.out with ⟨rfl, rfl⟩ | ⟨rfl, N, rfl⟩
      all_goals (
        clear HE
        go_wp2
        go_quiet (fail)
        go_wp2
        go_ret3
        exact ⟨rfl, below_drewN hb _⟩)

theorem ZZparse_any (s : ByteArray) (w : World) (hs : s.size ≤ 1048576) (tv tr : TypeId) (pv pr : Value) (hv : w.var? Tryd.prog "strconv.ErrSyntax" = some #[.iface tv pv]) (hr : w.var? Tryd.prog "strconv.ErrRange" = some #[.iface tr pr]) :
    Calls Tryd.prog 8 #[.string s] w fun e w' => e = .returned (.tuple #[.bool (negB s), .int .u64 (outN (parseUintB 64 (dOf s))), .bool (outB (parseUintB 64 (dOf s)))]) ∧ Below w.heap.size w w' := by
  have H := parse_any s w hs tv tr pv pr hv hr
  generalize outN (parseUintB 64 (dOf s)) = M at H ⊢
  generalize outB (parseUintB 64 (dOf s)) = B at H ⊢
  generalize negB s = N at H ⊢
  clear hv hr
  go_enter Tryd.func8, Tryd.ntmps8
  go_wp2_with fail
  refine H.mono ?_
  rintro e w' ⟨rfl, hb⟩
  go_wp2
  go_ret3
  exact ⟨rfl, hb⟩

end Go.Proofs.Qxb6601122aDoor
