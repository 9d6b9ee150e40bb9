/-
  THE PLAIN FUNCTIONS AND LAWS OF SEAT b6600336aD: no Go program in sight.
-/
import Derived.WalkKit
import Derived.Laws.Bits64
namespace Go.Proofs.Qxb6600336aDoor
open Go.RowKit

/-- What one hex digit's byte stands for; -1 for any other byte. -/
def hexV (c : Int) : Int := if 48 ≤ c ∧ c ≤ 57 then c - 48 else if 97 ≤ c ∧ c ≤ 102 then c - 87 else if 65 ≤ c ∧ c ≤ 70 then c - 55 else -1

theorem hexV_le (c : Int) : -1 ≤ hexV c ∧ hexV c ≤ 15 := by
  unfold hexV; split
  · omega
  · split
    · omega
    · split <;> omega

def lowTest (n : Nat) : Bool := let v := bits .or .u8 (n : Int) 32
  decide (0 ≤ v) && decide (v ≤ 255) && ((decide (48 ≤ n) && decide (n ≤ 57)) || (decide (97 ≤ v ∧ v ≤ 102) == decide (0 ≤ hexV n) && (!decide (97 ≤ v ∧ v ≤ 102) || decide (hexV n = v - 97 + 10))))

theorem lowTest_all : (List.range 256).all lowTest = true := by decide +kernel

theorem low_hex (c : Int) (h0 : 0 ≤ c) (h1 : c ≤ 255) (hd : ¬ (48 ≤ c ∧ c ≤ 57)) :
    (0 ≤ bits .or .u8 c 32 ∧ bits .or .u8 c 32 ≤ 255) ∧ (97 ≤ bits .or .u8 c 32 ∧ bits .or .u8 c 32 ≤ 102 ↔ 0 ≤ hexV c) ∧ (0 ≤ hexV c → hexV c = bits .or .u8 c 32 - 97 + 10) := by
  obtain ⟨n, rfl⟩ := Int.eq_ofNat_of_zero_le h0
  have h := List.all_eq_true.1 lowTest_all n (List.mem_range.2 (by omega))
  simp only [lowTest, Bool.and_eq_true, Bool.or_eq_true, decide_eq_true_eq, beq_iff_eq, Bool.not_eq_true', decide_eq_false_iff_not, decide_eq_decide] at h
  obtain ⟨⟨a, b⟩, c | ⟨d, e⟩⟩ := h
  · omega
  · refine ⟨⟨a, b⟩, d, fun hh => ?_⟩
    rcases e with e | e
    · exact absurd (d.2 hh) e
    · exact e

end Go.Proofs.Qxb6600336aDoor
