/-
  SEAT b6601122aD: THE PLAIN LAW OF THE DECIMAL GRAMMAR: no Go program in sight.
-/
import Derived.Lib.ParseIntBCases
namespace Go.Proofs.Qxb6601122aDoor
open Go.Lib

def isD (c : UInt8) : Bool := decide (48 ≤ c.toNat) && decide (c.toNat ≤ 57)
theorem isD_iff (c : UInt8) : isD c = true ↔ 48 ≤ c.toNat ∧ c.toNat ≤ 57 := by simp [isD]

/-- The number that digits spell, behind 'acc'. -/
def vF (acc : Nat) (l : List UInt8) : Nat := l.foldl (fun a c => a * 10 + (c.toNat - 48)) acc

theorem vF_cons (acc : Nat) (c : UInt8) (l : List UInt8) : vF acc (c :: l) = vF (acc * 10 + (c.toNat - 48)) l := by unfold vF; rw [List.foldl_cons]
theorem vF_snoc (acc : Nat) (l : List UInt8) (c : UInt8) : vF acc (l ++ [c]) = vF acc l * 10 + (c.toNat - 48) := by unfold vF; rw [List.foldl_append, List.foldl_cons, List.foldl_nil]
theorem vF_append (acc : Nat) (l m : List UInt8) : vF acc (l ++ m) = vF (vF acc l) m := by unfold vF; rw [List.foldl_append]

theorem vF_ge : ∀ (l : List UInt8) (acc : Nat), acc ≤ vF acc l
  | [], acc => Nat.le_refl _
  | c :: l, acc => by
    rw [vF_cons]
    have := vF_ge l (acc * 10 + (c.toNat - 48))
    omega

theorem vF_split : ∀ (l : List UInt8) (acc : Nat), vF acc l = acc * 10 ^ l.length + vF 0 l
  | [], acc => by simp [vF]
  | c :: l, acc => by
    rw [vF_cons, vF_cons, vF_split l (acc * 10 + (c.toNat - 48)), vF_split l (0 * 10 + (c.toNat - 48)), List.length_cons, Nat.pow_succ]
    rw [Nat.add_mul, Nat.zero_mul, Nat.zero_add, Nat.mul_assoc, Nat.mul_comm 10 (10 ^ l.length)]
    omega

theorem vF_lt : ∀ (l : List UInt8), l.all isD = true → vF 0 l < 10 ^ l.length
  | [], _ => by simp [vF]
  | c :: l, h => by
    simp only [List.all_cons, Bool.and_eq_true] at h
    have ih := vF_lt l h.2
    have hc := (isD_iff c).1 h.1
    rw [vF_cons, vF_split, List.length_cons, Nat.pow_succ]
    have h9 : 0 * 10 + (c.toNat - 48) ≤ 9 := by omega
    have := Nat.mul_le_mul_right (10 ^ l.length) h9
    omega

/-- What comes of the empty text: 'no row of digits'. -/
def bad : NumEnd Nat := parseUintB 64 []

/-- PARSING: so many digits, then the end or another byte. -/
theorem parse_digs : ∀ (ds rest : List UInt8) (acc : Nat), ds.all isD = true → (rest = [] ∨ ∃ c r, rest = c :: r ∧ isD c = false) → acc ≤ 18446744073709551615 →
    parseUintM 18446744073709551615 acc (ds ++ rest) = if 18446744073709551615 < vF acc ds then .range else if rest = [] then .ok (vF acc ds) else bad
  | [], rest, acc, _, hr, ha => by
    have e : vF acc [] = acc := rfl
    rw [e, if_neg (by omega), List.nil_append]
    rcases hr with rfl | ⟨c, r, rfl, hc⟩
    · rfl
    · have hn : ¬ (48 ≤ c.toNat ∧ c.toNat ≤ 57) := fun h => by rw [(isD_iff c).2 h] at hc; cases hc
      rw [if_neg (by simp), parseUintM, if_neg hn]
      rfl
  | c :: ds, rest, acc, hd, hr, ha => by
    simp only [List.all_cons, Bool.and_eq_true] at hd
    have hc := (isD_iff c).1 hd.1
    have ge := vF_ge ds (acc * 10 + (c.toNat - 48))
    rw [List.cons_append, parseUintM, if_pos hc, vF_cons]
    by_cases h1 : 1844674407370955162 ≤ acc
    · rw [if_pos h1, if_pos (by omega)]
    · rw [if_neg h1]
      by_cases h2 : 18446744073709551615 < acc * 10 + (c.toNat - 48)
      · rw [if_pos h2, if_pos (by omega)]
      · rw [if_neg h2]
        exact parse_digs ds rest _ hd.2 hr (by omega)

/-! ### THE COMPARISON WITH THE GREATEST uint64 -/
def mx : List UInt8 := [49, 56, 52, 52, 54, 55, 52, 52, 48, 55, 51, 55, 48, 57, 53, 53, 49, 54, 49, 53]

def lexGt : List UInt8 → List UInt8 → Bool
  | a :: r, b :: t => if a.toNat = b.toNat then lexGt r t else decide (b.toNat < a.toNat)
  | _, _ => false

def aboveB (sig : List UInt8) : Bool := if sig.length = 20 then lexGt sig mx else decide (20 < sig.length)

theorem lexGt_iff : ∀ (a b : List UInt8), a.length = b.length → a.all isD = true → b.all isD = true → (lexGt a b = true ↔ vF 0 b < vF 0 a)
  | [], [], _, _, _ => by simp [lexGt, vF]
  | [], _ :: _, h, _, _ => by simp at h
  | _ :: _, [], h, _, _ => by simp at h
  | x :: a, y :: b, h, ha, hb => by
    simp only [List.all_cons, Bool.and_eq_true] at ha hb
    have hl : a.length = b.length := by simpa using h
    have ih := lexGt_iff a b hl ha.2 hb.2
    have hx := (isD_iff x).1 ha.1
    have hy := (isD_iff y).1 hb.1
    have la := vF_lt a ha.2
    have lb := vF_lt b hb.2
    rw [vF_cons, vF_cons, vF_split a, vF_split b, hl]
    rw [hl] at la
    rw [lexGt]
    by_cases e : x.toNat = y.toNat
    · rw [if_pos e, ih, e]; omega
    · rw [if_neg e, decide_eq_true_eq]
      generalize 10 ^ b.length = T at la lb
      constructor
      · intro hlt
        have := Nat.mul_le_mul_right T (show (0 * 10 + (y.toNat - 48)) + 1 ≤ 0 * 10 + (x.toNat - 48) by omega)
        rw [Nat.add_mul, Nat.one_mul] at this
        omega
      · intro hlt
        by_cases hgt : x.toNat < y.toNat
        · have := Nat.mul_le_mul_right T (show (0 * 10 + (x.toNat - 48)) + 1 ≤ 0 * 10 + (y.toNat - 48) by omega)
          rw [Nat.add_mul, Nat.one_mul] at this
          omega
        · omega

theorem mx_val : vF 0 mx = 18446744073709551615 := by decide +kernel
theorem mx_dig : mx.all isD = true := by decide +kernel

/-- Digits without leading zeros: above the greatest uint64, as the law's own comparison says. -/
theorem above_iff (sig : List UInt8) (hd : sig.all isD = true) (hz : sig = [] ∨ ∃ c r, sig = c :: r ∧ c.toNat ≠ 48) : aboveB sig = true ↔ 18446744073709551615 < vF 0 sig := by
  unfold aboveB
  by_cases h20 : sig.length = 20
  · rw [if_pos h20, lexGt_iff sig mx h20 hd mx_dig, mx_val]
  · rw [if_neg h20, decide_eq_true_eq]
    constructor
    · intro h
      rcases hz with rfl | ⟨c, r, rfl, hc⟩
      · simp at h
      · simp only [List.all_cons, Bool.and_eq_true] at hd
        have hcd := (isD_iff c).1 hd.1
        simp only [List.length_cons] at h
        rw [vF_cons, vF_split]
        have h1 : 1 ≤ 0 * 10 + (c.toNat - 48) := by omega
        have h2 : 10 ^ 20 ≤ 10 ^ r.length := Nat.pow_le_pow_right (by decide) (by omega)
        have h3 := Nat.mul_le_mul_right (10 ^ r.length) h1
        have h4 : 18446744073709551615 < 10 ^ 20 := by decide
        omega
    · intro h
      have hlt := vF_lt sig hd
      by_cases h5 : 20 < sig.length
      · exact h5
      · have h2 : 10 ^ sig.length ≤ 10 ^ 19 := Nat.pow_le_pow_right (by decide) (by omega)
        have h4 : 10 ^ 19 ≤ 18446744073709551615 := by decide
        omega

theorem vF_zeros : ∀ (zs l : List UInt8), (∀ c ∈ zs, c.toNat = 48) → vF 0 (zs ++ l) = vF 0 l
  | [], l, _ => rfl
  | c :: zs, l, h => by
    rw [List.cons_append, vF_cons, h c (by simp)]
    exact vF_zeros zs l (fun x hx => h x (by simp [hx]))

/-! ### WHAT parseInteger AND THE MODEL ANSWER -/
def outN : NumEnd Nat → Int
  | .ok u => (u : Int)
  | .range => 18446744073709551615
  | _ => 0
def outB : NumEnd Nat → Bool
  | .ok _ => true
  | _ => false

/-- THE LAW: the bytes l, the first k of them digits (and no more), the first z of those zeros (and no more). -/
theorem grammar (l : List UInt8) (k z : Nat) (hk : k ≤ l.length) (hz : z ≤ k) (h1 : ∀ j, j < k → isD (l.getD j 0) = true) (h2 : k < l.length → isD (l.getD k 0) = false)
    (h3 : ∀ j, j < z → (l.getD j 0).toNat = 48) (h4 : z < k → (l.getD z 0).toNat ≠ 48) :
    (aboveB ((l.take k).drop z) = true → parseUintB 64 l = .range) ∧
    (aboveB ((l.take k).drop z) = false → (k = 0 ∨ k < l.length) → parseUintB 64 l = bad) ∧
    (aboveB ((l.take k).drop z) = false → ¬ (k = 0 ∨ k < l.length) → parseUintB 64 l = .ok (vF 0 ((l.take k).drop z)) ∧ vF 0 ((l.take k).drop z) ≤ 18446744073709551615) := by
  have hds : (l.take k).all isD = true := by
    rw [List.all_eq_true]
    intro c hc
    obtain ⟨j, hj, rfl⟩ := List.getElem_of_mem hc
    have hj' : j < k := by simp at hj; omega
    have := h1 j hj'
    simp only [List.getD, List.getElem?_eq_getElem (show j < l.length by omega), Option.getD_some] at this
    simpa using this
  have hrest : l.drop k = [] ∨ ∃ c r, l.drop k = c :: r ∧ isD c = false := by
    by_cases h : k < l.length
    · refine Or.inr ⟨l[k], l.drop (k + 1), List.drop_eq_getElem_cons h, ?_⟩
      have := h2 h
      simpa [List.getD, List.getElem?_eq_getElem h] using this
    · exact Or.inl (List.drop_eq_nil_of_le (by omega))
  have hsd : ((l.take k).drop z).all isD = true := by
    rw [List.all_eq_true] at hds ⊢
    exact fun c hc => hds c (List.mem_of_mem_drop hc)
  have hsz : (l.take k).drop z = [] ∨ ∃ c r, (l.take k).drop z = c :: r ∧ c.toNat ≠ 48 := by
    by_cases h : z < k
    · have hzl : z < (l.take k).length := by simp; omega
      refine Or.inr ⟨(l.take k)[z], (l.take k).drop (z + 1), List.drop_eq_getElem_cons hzl, ?_⟩
      have := h4 h
      simpa [List.getD, List.getElem?_eq_getElem (show z < l.length by omega)] using this
    · exact Or.inl (List.drop_eq_nil_of_le (by simp; omega))
  have hval : vF 0 (l.take k) = vF 0 ((l.take k).drop z) := by
    have e := vF_zeros ((l.take k).take z) ((l.take k).drop z) (fun c hc => ?_)
    · rw [List.take_append_drop] at e; exact e
    obtain ⟨j, hj, rfl⟩ := List.getElem_of_mem hc
    have hj' : j < z := by simp at hj; omega
    have := h3 j hj'
    simp only [List.getD, List.getElem?_eq_getElem (show j < l.length by omega), Option.getD_some] at this
    simpa using this
  have hab := above_iff _ hsd hsz
  have hp := parse_digs (l.take k) (l.drop k) 0 hds hrest (by omega)
  rw [List.take_append_drop, hval] at hp
  have hB : l ≠ [] → parseUintB 64 l = parseUintM 18446744073709551615 0 l := fun h => by unfold parseUintB; rw [if_neg h]
  refine ⟨fun h => ?_, fun h hk0 => ?_, fun h hk0 => ?_⟩
  · have hv := hab.1 h
    have hne : l ≠ [] := by
      rintro rfl
      simp [vF] at hv
    rw [hB hne, hp, if_pos hv]
  · have hv : ¬ 18446744073709551615 < vF 0 ((l.take k).drop z) := fun hh => by rw [hab.2 hh] at h; cases h
    by_cases hne : l = []
    · rw [hne]; rfl
    · have hlen : 0 < l.length := List.length_pos_iff.2 hne
      have hdn : l.drop k ≠ [] := fun e => by
        have := List.drop_eq_nil_iff.1 e
        omega
      rw [hB hne, hp, if_neg hv, if_neg hdn]
  · have hv : ¬ 18446744073709551615 < vF 0 ((l.take k).drop z) := fun hh => by rw [hab.2 hh] at h; cases h
    have hne : l ≠ [] := by
      rintro rfl
      simp at hk hk0
      omega
    have hdn : l.drop k = [] := List.drop_eq_nil_of_le (by omega)
    exact ⟨by rw [hB hne, hp, if_neg hv, if_pos hdn], by omega⟩

end Go.Proofs.Qxb6601122aDoor
