/-
  THE PLAIN FUNCTIONS AND LAWS OF SEAT b6600336a: no Go in sight.
-/
namespace Go.Proofs.Qxb6600336a

theorem snoc_ind {α : Type} {P : List α → Prop} (h0 : P []) (h1 : ∀ l a, P l → P (l ++ [a])) (l : List α) : P l := by
  have h : ∀ r : List α, P r.reverse := by
    intro r
    induction r with
    | nil => exact h0
    | cons a r ih => rw [List.reverse_cons]; exact h1 _ _ ih
  have := h l.reverse
  rwa [List.reverse_reverse] at this

/-- One decimal digit's byte? -/
def isDig (c : Int) : Bool := decide (48 ≤ c ∧ c ≤ 57)

/-- The number that the digits spell, read from the left. -/
def val (bs : List Int) : Int := bs.foldl (fun n c => 10 * n + (c - 48)) 0

def allDig (bs : List Int) : Bool := bs.all isDig

/-- What 'decimal' answers. -/
def decOk (bs : List Int) : Bool := decide (1 ≤ bs.length) && decide (bs.length ≤ 9) && allDig bs
def decN (bs : List Int) : Int := if decOk bs = true then val bs else 0

theorem val_snoc (bs : List Int) (c : Int) : val (bs ++ [c]) = 10 * val bs + (c - 48) := by simp [val]

theorem allDig_snoc (bs : List Int) (c : Int) : allDig (bs ++ [c]) = (allDig bs && isDig c) := by simp [allDig]
theorem allDig_append (as bs : List Int) : allDig (as ++ bs) = (allDig as && allDig bs) := by simp [allDig]

theorem isDig_iff (c : Int) : isDig c = true ↔ 48 ≤ c ∧ c ≤ 57 := by simp [isDig]

theorem val_bound (bs : List Int) : allDig bs = true → 0 ≤ val bs ∧ val bs < 10 ^ bs.length := by
  refine snoc_ind (P := fun bs => allDig bs = true → 0 ≤ val bs ∧ val bs < 10 ^ bs.length) (by intro _; simp [val]) ?_ bs
  intro l c ih h
  rw [allDig_snoc, Bool.and_eq_true] at h
  have h1 := ih h.1
  have h2 := (isDig_iff c).1 h.2
  rw [val_snoc, List.length_append]
  simp only [List.length_cons, List.length_nil, Int.pow_succ, Nat.zero_add]
  omega

theorem take_snoc (bs : List Int) (k : Nat) (h : k < bs.length) : bs.take (k + 1) = bs.take k ++ [bs.getD k 0] := by
  rw [List.take_succ_eq_append_getElem h]; simp [List.getD, h]

/-- One step of the reading from the left. -/
theorem dig_step (bs : List Int) (k : Nat) (h : k < bs.length) (c : Int) (hc : c = bs.getD k 0) (h1 : 48 ≤ c) (h2 : c ≤ 57) (ha : allDig (bs.take k) = true) :
    allDig (bs.take (k + 1)) = true ∧ val (bs.take (k + 1)) = 10 * val (bs.take k) + (c - 48) := by
  rw [take_snoc bs k h, ← hc, allDig_snoc, val_snoc, ha]
  exact ⟨by simp [isDig, h1, h2], rfl⟩

theorem dec_yes (bs : List Int) (h1 : 1 ≤ bs.length) (h9 : bs.length ≤ 9) (ha : allDig bs = true) : decOk bs = true ∧ decN bs = val bs := by
  have h : decOk bs = true := by simp [decOk, h1, h9, ha]
  exact ⟨h, by simp [decN, h]⟩

theorem dec_no (bs : List Int) (h : decOk bs = false) : decN bs = 0 := by simp [decN, h]

theorem ok_of_len (bs : List Int) (h : bs.length = 0 ∨ 9 < bs.length) : decOk bs = false := by
  rcases h with h | h
  · simp [decOk, h]
  · have : ¬ bs.length ≤ 9 := by omega
    simp [decOk, this]

theorem ok_of_bad (bs : List Int) (k : Nat) (h : k < bs.length) (hb : ¬ (48 ≤ bs.getD k 0 ∧ bs.getD k 0 ≤ 57)) : decOk bs = false := by
  have : allDig bs = false := by
    rw [Bool.eq_false_iff]
    intro ha
    have := List.all_eq_true.1 ha (bs.getD k 0) (by simp [List.getD, h])
    exact hb ((isDig_iff _).1 this)
  simp [decOk, this]

/-- The powers of ten up to the ninth, for linear arithmetic. -/
theorem pow10_le (k : Nat) (h : k ≤ 9) : (1 : Int) ≤ 10 ^ k ∧ (10 : Int) ^ k ≤ 1000000000 := by
  match k, h with
  | 0, _ => decide
  | 1, _ => decide
  | 2, _ => decide
  | 3, _ => decide
  | 4, _ => decide
  | 5, _ => decide
  | 6, _ => decide
  | 7, _ => decide
  | 8, _ => decide
  | 9, _ => decide
  | k + 10, h => exact absurd h (by omega)

/-! ### THE POSITIONAL READING, FROM THE RIGHT -/

/-- Read from the right: the digits from place k on stand for 'val' of them. -/
theorem val_cons (c : Int) (bs : List Int) : val (c :: bs) = (c - 48) * 10 ^ bs.length + val bs := by
  refine snoc_ind (P := fun bs => val (c :: bs) = (c - 48) * 10 ^ bs.length + val bs) (by simp [val]) ?_ bs
  intro l a ih
  have e : c :: (l ++ [a]) = (c :: l) ++ [a] := rfl
  rw [e, val_snoc, ih, val_snoc, List.length_append]
  simp only [List.length_cons, List.length_nil, Nat.zero_add, Int.pow_succ]
  rw [Int.mul_add, ← Int.mul_assoc, ← Int.mul_assoc, Int.mul_comm 10 (c - 48), Int.mul_assoc (c - 48) 10, Int.mul_comm 10 (10 ^ l.length), ← Int.mul_assoc]
  omega

theorem drop_cons (bs : List Int) (k : Nat) (h : k < bs.length) : bs.drop k = bs.getD k 0 :: bs.drop (k + 1) := by
  rw [List.drop_eq_getElem_cons h]; simp [List.getD, h]

theorem pos_step (bs : List Int) (k : Nat) (h : k < bs.length) (c : Int) (hc : c = bs.getD k 0) (h1 : 48 ≤ c) (h2 : c ≤ 57) (ha : allDig (bs.drop (k + 1)) = true) :
    allDig (bs.drop k) = true ∧ val (bs.drop k) = val (bs.drop (k + 1)) + (c - 48) * 10 ^ (bs.length - (k + 1)) := by
  rw [drop_cons bs k h, ← hc, val_cons]
  refine ⟨?_, by rw [List.length_drop]; omega⟩
  have : allDig (c :: bs.drop (k + 1)) = (isDig c && allDig (bs.drop (k + 1))) := by simp [allDig]
  rw [this, ha, (isDig_iff c).2 ⟨h1, h2⟩]; rfl

/-! ### THE NUMERAL OF A NUMBER -/

/-- The digits of n, at most f of them. -/
def digs : Nat → Nat → List Int
  | 0, _ => []
  | f + 1, n => if n = 0 then [] else digs f (n / 10) ++ [48 + ((n % 10 : Nat) : Int)]

def itoa (n : Nat) : List Int := if n = 0 then [48] else digs 20 n

theorem digs_zero (f : Nat) : digs f 0 = [] := by cases f <;> simp [digs]

theorem digs_dig (f : Nat) : ∀ n, allDig (digs f n) = true := by
  induction f with
  | zero => intro n; rfl
  | succ f ih =>
    intro n
    unfold digs
    split
    · rfl
    · rw [allDig_snoc, ih]
      have : isDig (48 + ((n % 10 : Nat) : Int)) = true := (isDig_iff _).2 (by omega)
      rw [this]; rfl

theorem digs_val (f : Nat) : ∀ n, n < 10 ^ f → val (digs f n) = n := by
  induction f with
  | zero => intro n h; simp at h; subst h; rfl
  | succ f ih =>
    intro n h
    unfold digs
    split
    · rename_i h0; subst h0; rfl
    · rw [val_snoc, ih (n / 10) (by rw [Nat.pow_succ] at h; omega)]
      omega

theorem digs_len (f : Nat) : ∀ n, (digs f n).length ≤ f := by
  induction f with
  | zero => intro n; simp [digs]
  | succ f ih =>
    intro n
    unfold digs
    split
    · simp
    · have := ih (n / 10); simp; omega

theorem itoa_dig (n : Nat) : allDig (itoa n) = true := by
  unfold itoa
  split
  · decide
  · exact digs_dig _ _

theorem itoa_val (n : Nat) (h : n < 10 ^ 20) : val (itoa n) = n := by
  unfold itoa
  split
  · rename_i h0; subst h0; decide
  · exact digs_val _ _ h

theorem itoa_len (n : Nat) : 1 ≤ (itoa n).length ∧ (itoa n).length ≤ 20 := by
  unfold itoa
  split
  · simp
  · rename_i h0
    refine ⟨?_, digs_len _ _⟩
    unfold digs
    rw [if_neg h0]; simp

/-- Leading zeros change no value. -/
theorem val_zeros (z : Nat) (bs : List Int) : val (List.replicate z 48 ++ bs) = val bs := by
  induction z with
  | zero => simp
  | succ z ih =>
    rw [List.replicate_succ, List.cons_append, val_cons, ih]
    omega

theorem allDig_zeros (z : Nat) : allDig (List.replicate z 48) = true := by
  simp [allDig, isDig]

end Go.Proofs.Qxb6600336a
