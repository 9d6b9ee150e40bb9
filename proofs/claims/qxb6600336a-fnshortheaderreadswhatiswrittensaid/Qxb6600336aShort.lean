/-
  SEAT b6600336a: THE CONTRACTS OF 'shortHeader' (20) AND 'ZZshortHeader' (17), at the four headers that the law writes.
-/
import Derived.Test.Qxb6600336aModel
import Derived.Deep.QuietTactic
import Derived.BigQuiet
import Derived.WalkSmall
namespace Go.Proofs.Qxb6600336a
open Go.ChangeShapes Go.WideShapes Go.ChangeAt Go.RowKit
set_option linter.unusedVariables false

theorem ret_two {a b c d : Int} (h : a = b) (k : c = d) : Ending.returned (.tuple #[.int .i64 a, .int .i64 c]) = .returned (.tuple #[.int .i64 b, .int .i64 d]) := by rw [h, k]

/-- Too short a rest. -/
theorem short_len (a : Option Addr) (n cap : Nat) (at0 : Nat) (kind : Int) (w : World) (hm : n ≤ 9223372036854775807) (hn : n ≤ at0 + 4) (hat : at0 ≤ 1048576) :
    Calls Try.prog 20 #[.slice a n cap, .int .i64 at0, .int .u8 kind] w fun e w' => e = .returned (.tuple #[.int .i64 0, .int .i64 0]) ∧ w' = w := by
  have h1 : (n : Int) ≤ (at0 : Int) + 4 := by omega
  go_enter Try.func20, Try.ntmps20
  go_wp2
  go_ret2
  exact ⟨rfl, rfl⟩

set_option maxHeartbeats 800000 in
/-- One digit, CR, LF, and something behind. -/
theorem short_one (b n cap at0 : Nat) (kind : Int) (d b4 : Int) (w : World) (hm : n ≤ cap) (hn : at0 + 4 < n) (hat : at0 ≤ 1048576) (hk0 : 0 ≤ kind) (hk1 : kind ≤ 255) (hd0 : 0 ≤ d) (hd9 : d ≤ 9) (h40 : 0 ≤ b4) (h41 : b4 ≤ 255)
    (c0 : w.cell? ⟨b, at0, none⟩ = some (.int .u8 kind)) (c1 : w.cell? ⟨b, at0 + 1, none⟩ = some (.int .u8 (48 + d))) (c2 : w.cell? ⟨b, at0 + 1 + 1, none⟩ = some (.int .u8 13))
    (c3 : w.cell? ⟨b, at0 + 1 + 2, none⟩ = some (.int .u8 10)) :
    Calls Try.prog 20 #[.slice (some ⟨b, 0, none⟩) n cap, .int .i64 at0, .int .u8 kind] w fun e w' => e = .returned (.tuple #[.int .i64 d, .int .i64 (at0 + 4)]) ∧ Below w.heap.size w w' := by
  have h1 : ¬ (n : Int) ≤ (at0 : Int) + 4 := by omega
  go_enter Try.func20, Try.ntmps20
  go_wp2
  go_quiet (fail)
  go_wp2
  go_ret2
  exact ⟨ret_two (by omega) (by omega), below_drewN (Below.refl _ _) _⟩

set_option maxHeartbeats 800000 in
/-- Two digits, CR, LF. -/
theorem short_two (b n cap at0 : Nat) (kind : Int) (d e : Int) (w : World) (hm : n ≤ cap) (hn : at0 + 4 < n) (hat : at0 ≤ 1048576) (hk0 : 0 ≤ kind) (hk1 : kind ≤ 255) (hd0 : 0 ≤ d) (hd9 : d ≤ 9) (he0 : 0 ≤ e) (he9 : e ≤ 9)
    (c0 : w.cell? ⟨b, at0, none⟩ = some (.int .u8 kind)) (c1 : w.cell? ⟨b, at0 + 1, none⟩ = some (.int .u8 (48 + d))) (c2 : w.cell? ⟨b, at0 + 1 + 1, none⟩ = some (.int .u8 (48 + e)))
    (c3 : w.cell? ⟨b, at0 + 1 + 2, none⟩ = some (.int .u8 13)) (c4 : w.cell? ⟨b, at0 + 1 + 3, none⟩ = some (.int .u8 10)) :
    Calls Try.prog 20 #[.slice (some ⟨b, 0, none⟩) n cap, .int .i64 at0, .int .u8 kind] w fun e' w' => e' = .returned (.tuple #[.int .i64 (10 * d + e), .int .i64 (at0 + 5)]) ∧ Below w.heap.size w w' := by
  have h1 : ¬ (n : Int) ≤ (at0 : Int) + 4 := by omega
  have h2 : (48 + e == 13) = false := beq_eq_false_iff_ne.2 (by omega)
  go_enter Try.func20, Try.ntmps20
  go_wp2
  go_quiet (fail)
  go_wp2
  go_ret2
  exact ⟨ret_two (by omega) (by omega), below_drewN (Below.refl _ _) _⟩

set_option maxHeartbeats 800000 in
/-- Three digits or more. -/
theorem short_three (b n cap at0 : Nat) (kind : Int) (d e f : Int) (w : World) (hm : n ≤ cap) (hn : at0 + 4 < n) (hat : at0 ≤ 1048576) (hk0 : 0 ≤ kind) (hk1 : kind ≤ 255) (hd0 : 0 ≤ d) (hd9 : d ≤ 9) (he0 : 0 ≤ e) (he9 : e ≤ 9) (hf0 : 0 ≤ f) (hf9 : f ≤ 9)
    (c0 : w.cell? ⟨b, at0, none⟩ = some (.int .u8 kind)) (c1 : w.cell? ⟨b, at0 + 1, none⟩ = some (.int .u8 (48 + d))) (c2 : w.cell? ⟨b, at0 + 1 + 1, none⟩ = some (.int .u8 (48 + e)))
    (c3 : w.cell? ⟨b, at0 + 1 + 2, none⟩ = some (.int .u8 (48 + f))) :
    Calls Try.prog 20 #[.slice (some ⟨b, 0, none⟩) n cap, .int .i64 at0, .int .u8 kind] w fun e' w' => e' = .returned (.tuple #[.int .i64 0, .int .i64 0]) ∧ Below w.heap.size w w' := by
  have h1 : ¬ (n : Int) ≤ (at0 : Int) + 4 := by omega
  have h2 : (48 + e == 13) = false := beq_eq_false_iff_ne.2 (by omega)
  have h3 : (48 + f == 13) = false := beq_eq_false_iff_ne.2 (by omega)
  go_enter Try.func20, Try.ntmps20
  go_wp2
  go_quiet (fail)
  go_wp2
  go_ret2
  exact ⟨ret_two (by omega) (by omega), below_drewN (Below.refl _ _) _⟩

/-! ### THE NUMERALS OF ONE, OF TWO, OF THREE DIGITS AND MORE -/

theorem itoa_one (n : Nat) (h : n < 10) : itoa n = [48 + (n : Int)] := by
  unfold itoa
  split
  · rename_i h0; subst h0; rfl
  · rename_i h0
    rw [digs, if_neg h0, show n / 10 = 0 by omega, digs_zero, show n % 10 = n by omega]
    rfl

theorem itoa_two (n : Nat) (h : 10 ≤ n) (h' : n < 100) : itoa n = [48 + ((n / 10 : Nat) : Int), 48 + ((n % 10 : Nat) : Int)] := by
  unfold itoa
  rw [if_neg (by omega), digs, if_neg (by omega), digs, if_neg (by omega), show n / 10 / 10 = 0 by omega, digs_zero, show n / 10 % 10 = n / 10 by omega]
  rfl

theorem itoa_more (n : Nat) (h : 100 ≤ n) : ∃ d e f r, itoa n = d :: e :: f :: r := by
  have h3 : 3 ≤ (itoa n).length := by
    unfold itoa
    rw [if_neg (by omega), digs, if_neg (by omega), digs, if_neg (by omega), digs, if_neg (by omega)]
    simp
  match hm : itoa n, h3 with
  | d :: e :: f :: r, _ => exact ⟨d, e, f, r, rfl⟩
  | [], h3 => simp at h3
  | [_], h3 => simp at h3
  | [_, _], h3 => simp at h3

/-- A cell of a row that the call owns. -/
theorem cell_app {w : World} {base g N cap : Nat} {pre rest : List Int} (ho : w.ownsRow base 5 1 (.slice (some ⟨g, 0, none⟩) N cap) N ((pre ++ rest).map (Value.int .u8))) (i : Nat) (c : Int) (hi : rest[i]? = some c) :
    w.cell? ⟨g, pre.length + i, none⟩ = some (.int .u8 c) := by
  have hlen : (pre ++ rest).length = N := by have := ho.1; simpa using this
  have hil : i < rest.length := (List.getElem?_eq_some_iff.1 hi).1
  have := ho.cellAt (pre.length + i) (by rw [← hlen, List.length_append]; omega)
  rw [this, List.getElem?_map, List.getElem?_append_right (by omega), show pre.length + i - pre.length = i by omega, hi]
  rfl

theorem Lt (n : Nat) : n < 10 → 0 ≤ (n : Int) ∧ (n : Int) ≤ 9 := by omega

/-- What 'shortHeader' answers at a header that the law has written. -/
def shN (n : Nat) (suf : List Int) : Int := if 100 ≤ n ∨ (n < 10 ∧ suf = []) then 0 else n
def shE (p n : Nat) (suf : List Int) : Int := if 100 ≤ n ∨ (n < 10 ∧ suf = []) then 0 else (p : Int) + 1 + (itoa n).length + 2

theorem short_owned (base g N cap : Nat) (pre suf : List Int) (n : Nat) (kind : Int) (w : World) (hN : N ≤ cap) (hN63 : N ≤ 9223372036854775807) (hpre : pre.length ≤ 1048576) (hk0 : 0 ≤ kind) (hk1 : kind ≤ 255) (hs : ∀ c ∈ suf, 0 ≤ c ∧ c ≤ 255)
    (ho : w.ownsRow base 5 1 (.slice (some ⟨g, 0, none⟩) N cap) N ((pre ++ (kind :: (itoa n ++ (13 :: 10 :: suf)))).map (Value.int .u8))) :
    Calls Try.prog 20 #[.slice (some ⟨g, 0, none⟩) N cap, .int .i64 pre.length, .int .u8 kind] w fun e w' => e = .returned (.tuple #[.int .i64 (shN n suf), .int .i64 (shE pre.length n suf)]) ∧ Below w.heap.size w w' := by
  have hlen : pre.length + (1 + ((itoa n).length + (2 + suf.length))) = N := by have := ho.1; simp at this; omega
  have C := fun i c h => cell_app (rest := kind :: (itoa n ++ (13 :: 10 :: suf))) ho i c h
  by_cases h100 : 100 ≤ n
  · have e1 : shN n suf = 0 := by simp [shN, h100]
    have e2 : shE pre.length n suf = 0 := by simp [shE, h100]
    rw [e1, e2]
    obtain ⟨d, e, f, r, hit⟩ := itoa_more n h100
    have hd := itoa_dig n
    rw [hit] at hd hlen C
    simp only [allDig, List.all_cons, Bool.and_eq_true] at hd
    obtain ⟨hd1, hd2, hd3, _⟩ := hd
    have hd1 := (isDig_iff d).1 hd1
    have hd2 := (isDig_iff e).1 hd2
    have hd3 := (isDig_iff f).1 hd3
    refine short_three g N cap pre.length kind (d - 48) (e - 48) (f - 48) w hN (by simp at hlen; omega) hpre hk0 hk1 (by omega) (by omega) (by omega) (by omega) (by omega) (by omega) ?_ ?_ ?_ ?_
    · exact C 0 kind rfl
    · rw [show 48 + (d - 48) = d by omega]; exact C 1 d rfl
    · rw [show 48 + (e - 48) = e by omega]; exact C 2 e rfl
    · rw [show 48 + (f - 48) = f by omega]; exact C 3 f rfl
  by_cases h10 : n < 10
  · have hit := itoa_one n h10
    rw [hit] at hlen C
    match hsf : suf, hs with
    | [], _ =>
      have e1 : shN n [] = 0 := by simp [shN, h10]
      have e2 : shE pre.length n [] = 0 := by simp [shE, h10]
      rw [e1, e2]
      refine (short_len (some ⟨g, 0, none⟩) N cap pre.length kind w hN63 (by subst hsf; simp at hlen; omega) hpre).mono ?_
      rintro e w' ⟨rfl, rfl⟩
      exact ⟨rfl, Below.refl _ _⟩
    | s :: r, hs =>
      have e1 : shN n (s :: r) = n := by simp [shN, h100]
      have e2 : shE pre.length n (s :: r) = (pre.length : Int) + 4 := by simp [shE, h100, hit]; omega
      rw [e1, e2]
      have hb := hs s (by simp)
      subst hsf
      refine short_one g N cap pre.length kind n s w hN (by simp at hlen; omega) hpre hk0 hk1 (by omega) (by omega) hb.1 hb.2 ?_ ?_ ?_ ?_
      · exact C 0 kind rfl
      · exact C 1 _ rfl
      · exact C 2 _ rfl
      · exact C 3 _ rfl
  · have hit := itoa_two n (by omega) (by omega)
    rw [hit] at hlen C
    have e1 : shN n suf = 10 * ((n / 10 : Nat) : Int) + ((n % 10 : Nat) : Int) := by simp only [shN]; rw [if_neg (by omega)]; omega
    have e2 : shE pre.length n suf = (pre.length : Int) + 5 := by simp only [shE]; rw [if_neg (by omega), hit]; simp; omega
    rw [e1, e2]
    refine short_two g N cap pre.length kind ((n / 10 : Nat) : Int) ((n % 10 : Nat) : Int) w hN (by simp at hlen; omega) hpre hk0 hk1 (by omega) (by omega) (by omega) (by omega) ?_ ?_ ?_ ?_ ?_
    · exact C 0 kind rfl
    · exact C 1 _ rfl
    · exact C 2 _ rfl
    · exact C 3 _ rfl
    · exact C 4 _ rfl

theorem ZZshort_owned (base g N cap : Nat) (pre suf : List Int) (n : Nat) (kind : Int) (w : World) (hN : N ≤ cap) (hN63 : N ≤ 9223372036854775807) (hpre : pre.length ≤ 1048576) (hk0 : 0 ≤ kind) (hk1 : kind ≤ 255) (hs : ∀ c ∈ suf, 0 ≤ c ∧ c ≤ 255)
    (ho : w.ownsRow base 5 1 (.slice (some ⟨g, 0, none⟩) N cap) N ((pre ++ (kind :: (itoa n ++ (13 :: 10 :: suf)))).map (Value.int .u8))) :
    Calls Try.prog 17 #[.slice (some ⟨g, 0, none⟩) N cap, .int .i64 pre.length, .int .u8 kind] w fun e w' => e = .returned (.tuple #[.int .i64 (shN n suf), .int .i64 (shE pre.length n suf)]) ∧ Below w.heap.size w w' := by
  have H := short_owned base g N cap pre suf n kind w hN hN63 hpre hk0 hk1 hs ho
  generalize shN n suf = A at H ⊢
  generalize shE pre.length n suf = B at H ⊢
  clear ho hs
  go_enter Try.func17, Try.ntmps17
  go_wp2_with fail
  refine H.mono ?_
  rintro e w' ⟨rfl, hb⟩
  go_wp2
  go_ret2
  exact ⟨rfl, hb⟩

end Go.Proofs.Qxb6600336a
