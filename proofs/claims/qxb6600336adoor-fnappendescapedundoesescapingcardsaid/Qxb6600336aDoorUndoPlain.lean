/-
  SEAT b6600336aD: THE PLAIN LAW OF THE ESCAPING: what one byte is written as, and that it is read back. No Go program in sight.
-/
import Derived.Test.Qxb6600336aDoorEsc
namespace Go.Proofs.Qxb6600336aDoor

def hexD (v : Int) (up : Bool) : Int := if v < 10 then 48 + v else if up = true then 65 + v - 10 else 97 + v - 10

/-- Is the byte written as x and two hex digits? -/
def wantsHex (b : Int) : Bool := decide (b = 110) || decide (b = 114) || decide (b = 116) || decide (b = 98) || decide (b = 97) || decide (b = 120) || decide (b < 32) || decide (127 ≤ b)

/-- The body of one escape. -/
def enc (b : Int) (f : Bool × Bool) : List Int :=
  if b = 10 then [110] else if b = 13 then [114] else if b = 9 then [116] else if b = 8 then [98] else if b = 7 then [97]
  else if wantsHex b = true then [120, hexD (b / 16) f.1, hexD (b % 16) f.2] else [b]

def encAll : List Int → List (Bool × Bool) → List Int
  | b :: bs, f :: fs => enc b f ++ encAll bs fs
  | _, _ => []

theorem encAll_snoc : ∀ (bs : List Int) (fs : List (Bool × Bool)) (b : Int) (f : Bool × Bool), fs.length = bs.length → encAll (bs ++ [b]) (fs ++ [f]) = encAll bs fs ++ enc b f
  | [], [], b, f, _ => by simp [encAll]
  | [], _ :: _, b, f, h => by simp at h
  | _ :: _, [], b, f, h => by simp at h
  | x :: bs, y :: fs, b, f, h => by
    simp only [List.cons_append, encAll]
    rw [encAll_snoc bs fs b f (by simpa using h), List.append_assoc]

theorem encAll_split : ∀ (k : Nat) (bs : List Int) (fs : List (Bool × Bool)) (_ : k < bs.length) (_ : fs.length = bs.length),
    encAll bs fs = encAll (bs.take k) (fs.take k) ++ (enc (bs.getD k 0) (fs.getD k (false, false)) ++ encAll (bs.drop (k + 1)) (fs.drop (k + 1)))
  | _, [], _, hk, _ => by simp at hk
  | _, _ :: _, [], _, hf => by simp at hf
  | 0, b :: bs, f :: fs, _, _ => by simp [encAll]
  | k + 1, b :: bs, f :: fs, hk, hf => by
    have := encAll_split k bs fs (by simpa using hk) (by simpa using hf)
    simp only [encAll, List.take_succ_cons, List.drop_succ_cons, List.getD_cons_succ]
    rw [this, List.append_assoc]

theorem hexD_byte (v : Int) (up : Bool) (h0 : 0 ≤ v) (h1 : v ≤ 15) : 0 ≤ hexD v up ∧ hexD v up ≤ 255 := by
  unfold hexD; split
  · omega
  · split <;> omega

theorem hexV_hexD (v : Int) (up : Bool) (h0 : 0 ≤ v) (h1 : v ≤ 15) : hexV (hexD v up) = v := by
  unfold hexD
  by_cases h : v < 10
  · rw [if_pos h, hexV, if_pos (by omega)]; omega
  · rw [if_neg h]
    cases up
    · rw [if_neg (by decide), hexV, if_neg (by omega), if_pos (by omega)]; omega
    · rw [if_pos rfl, hexV, if_neg (by omega), if_neg (by omega), if_pos (by omega)]; omega

theorem enc_len (b : Int) (f : Bool × Bool) : 1 ≤ (enc b f).length ∧ (enc b f).length ≤ 3 := by
  unfold enc
  repeat' split
  all_goals simp

theorem encAll_len : ∀ (bs : List Int) (fs : List (Bool × Bool)), (encAll bs fs).length ≤ 3 * bs.length
  | [], _ => by simp [encAll]
  | _ :: _, [] => by simp [encAll]
  | b :: bs, f :: fs => by
    have h1 := (enc_len b f).2
    have h2 := encAll_len bs fs
    simp only [encAll, List.length_append, List.length_cons]; omega

theorem enc_byte (b : Int) (f : Bool × Bool) (h0 : 0 ≤ b) (h1 : b ≤ 255) : ∀ c ∈ enc b f, 0 ≤ c ∧ c ≤ 255 := by
  have e1 := hexD_byte (b / 16) f.1 (by omega) (by omega)
  have e2 := hexD_byte (b % 16) f.2 (by omega) (by omega)
  unfold enc
  intro c hc
  split at hc
  · simp at hc; omega
  split at hc
  · simp at hc; omega
  split at hc
  · simp at hc; omega
  split at hc
  · simp at hc; omega
  split at hc
  · simp at hc; omega
  split at hc
  · simp at hc; rcases hc with rfl | rfl | rfl <;> omega
  · simp at hc; omega

theorem encAll_byte : ∀ (bs : List Int) (fs : List (Bool × Bool)), (∀ b ∈ bs, 0 ≤ b ∧ b ≤ 255) → ∀ c ∈ encAll bs fs, 0 ≤ c ∧ c ≤ 255
  | [], _, _, c, hc => by simp [encAll] at hc
  | _ :: _, [], _, c, hc => by simp [encAll] at hc
  | b :: bs, f :: fs, h, c, hc => by
    simp only [encAll, List.mem_append] at hc
    rcases hc with hc | hc
    · exact enc_byte b f (h b (by simp)).1 (h b (by simp)).2 c hc
    · exact encAll_byte bs fs (fun x hx => h x (by simp [hx])) c hc

theorem getD_mid (pre mid rest : List Int) (j : Nat) (hj : j < mid.length) : (pre ++ (mid ++ rest)).getD (pre.length + j) 0 = mid.getD j 0 := by
  simp only [List.getD]
  rw [List.getElem?_append_right (by omega), show pre.length + j - pre.length = j by omega, List.getElem?_append_left hj]

/-- ONE BYTE's ESCAPE IS READ BACK, whatever stands before and behind it. -/
theorem dec_enc (pre rest : List Int) (b : Int) (f : Bool × Bool) (h0 : 0 ≤ b) (h1 : b ≤ 255) :
    escB (pre ++ (enc b f ++ rest)) pre.length = b ∧ escL (pre ++ (enc b f ++ rest)) pre.length + 1 = pre.length + (enc b f).length := by
  have G := fun j hj => getD_mid pre (enc b f) rest j hj
  have single : ∀ c : Int, enc b f = [c] → c ≠ 120 → named c = b → escB (pre ++ (enc b f ++ rest)) pre.length = b ∧ escL (pre ++ (enc b f ++ rest)) pre.length + 1 = pre.length + (enc b f).length := by
    intro c hc hx hn
    have g0 := G 0 (by rw [hc]; simp)
    rw [Nat.add_zero] at g0
    have g1 : (enc b f).getD 0 0 = c := by rw [hc]; rfl
    rw [g1] at g0
    have hne : ¬ hexEsc (pre ++ (enc b f ++ rest)) pre.length = true := fun h => hx (by rw [← g0]; exact ((hexEsc_iff _ _).1 h).1)
    refine ⟨by rw [escB, if_neg hne, g0, hn], by rw [escL, if_neg hne, hc]; rfl⟩
  by_cases c10 : b = 10
  · exact single 110 (by simp [enc, c10]) (by decide) (by rw [c10]; rfl)
  by_cases c13 : b = 13
  · exact single 114 (by simp [enc, c13]) (by decide) (by rw [c13]; rfl)
  by_cases c9 : b = 9
  · exact single 116 (by simp [enc, c9]) (by decide) (by rw [c9]; rfl)
  by_cases c8 : b = 8
  · exact single 98 (by simp [enc, c8]) (by decide) (by rw [c8]; rfl)
  by_cases c7 : b = 7
  · exact single 97 (by simp [enc, c7]) (by decide) (by rw [c7]; rfl)
  by_cases hw : wantsHex b = true
  · have he : enc b f = [120, hexD (b / 16) f.1, hexD (b % 16) f.2] := by simp only [enc]; rw [if_neg c10, if_neg c13, if_neg c9, if_neg c8, if_neg c7, if_pos hw]
    have g0 := G 0 (by rw [he]; simp)
    have g1 := G 1 (by rw [he]; simp)
    have g2 := G 2 (by rw [he]; simp)
    rw [Nat.add_zero] at g0
    have k0 : (enc b f).getD 0 0 = 120 := by rw [he]; rfl
    have k1 : (enc b f).getD 1 0 = hexD (b / 16) f.1 := by rw [he]; rfl
    have k2 : (enc b f).getD 2 0 = hexD (b % 16) f.2 := by rw [he]; rfl
    rw [k0] at g0; rw [k1] at g1; rw [k2] at g2
    have v1 := hexV_hexD (b / 16) f.1 (by omega) (by omega)
    have v2 := hexV_hexD (b % 16) f.2 (by omega) (by omega)
    have hx : hexEsc (pre ++ (enc b f ++ rest)) pre.length = true := by
      refine (hexEsc_iff _ _).2 ⟨g0, ?_, ?_, ?_⟩
      · rw [he]; simp
      · rw [g1, v1]; omega
      · rw [g2, v2]; omega
    refine ⟨?_, by rw [escL, if_pos hx, he]; rfl⟩
    rw [escB, if_pos hx, g1, g2, v1, v2]; omega
  · have he : enc b f = [b] := by simp only [enc]; rw [if_neg c10, if_neg c13, if_neg c9, if_neg c8, if_neg c7, if_neg hw]
    simp only [wantsHex, Bool.or_eq_true, decide_eq_true_eq, not_or] at hw
    refine single b he (by omega) ?_
    simp only [named]
    rw [if_neg (by omega), if_neg (by omega), if_neg (by omega), if_neg (by omega), if_neg (by omega)]

/-! ### BITS OF A BYTE -/
def nibTest (n : Nat) : Bool := decide (bits .and .u8 (n : Int) 15 = (n : Int) % 16)
theorem nibTest_all : (List.range 256).all nibTest = true := by decide +kernel
theorem and15 (b : Int) (h0 : 0 ≤ b) (h1 : b ≤ 255) : bits .and .u8 b 15 = b % 16 := by
  obtain ⟨n, rfl⟩ := Int.eq_ofNat_of_zero_le h0
  have h := List.all_eq_true.1 nibTest_all n (List.mem_range.2 (by omega))
  simpa [nibTest] using h

end Go.Proofs.Qxb6600336aDoor
