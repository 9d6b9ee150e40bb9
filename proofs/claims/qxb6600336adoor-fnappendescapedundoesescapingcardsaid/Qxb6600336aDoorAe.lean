/-
  SEAT b6600336aD: THE CONTRACTS OF 'appendEscaped' (13) AND 'ZZappendEscaped' (8).
-/
import Derived.Test.Qxb6600336aDoorBase
import Derived.Test.Qxb6600336aDoorKeep
import Derived.Laws.IdiomStrings
namespace Go.Proofs.Qxb6600336aDoor
open Go.ChangeShapes Go.WideShapes Go.ChangeAt Go.RowKit
set_option linter.unusedVariables false

/-- The escape table. -/
def named (c : Int) : Int := if c = 110 then 10 else if c = 114 then 13 else if c = 116 then 9 else if c = 98 then 8 else if c = 97 then 7 else c

def isHexEsc (bs : List Int) (i : Nat) : Prop := bs.getD i 0 = 120 ∧ i + 2 < bs.length ∧ 0 ≤ hexV (bs.getD (i + 1) 0) ∧ 0 ≤ hexV (bs.getD (i + 2) 0)

set_option maxHeartbeats 800000 in
theorem ae_n (base : Nat) (v : Value) (n : Nat) (xs : List Value) (b off len cap i : Nat) (w : World) (ho : w.ownsRow base 5 1 v n xs) (hn : n ≤ 1048576) (hbase : base ≤ w.heap.size) (hil : i < len) (hlen : len ≤ 1048576)
    (hc : w.cell? ⟨b, off + i, none⟩ = some (.int .u8 110)) :
    Calls Tryd.prog 13 #[v, .slice (some ⟨b, off, none⟩) len cap, .int .i64 i] w fun e w' => ∃ v', e = .returned (.tuple #[v', .int .i64 i]) ∧ w'.ownsRow base 5 1 v' (n + 1) (xs ++ [.int .u8 10]) ∧ w'.ownsRow base 5 1 v n xs ∧ w.grownBy w' v.ownBlock := by
  obtain ⟨i0, hi, hz0, hz1, hz2⟩ := info_parts Tryd.info5
  go_enter Tryd.func13, Tryd.ntmps13
  go_wp2_with (at_builtin; refine wpList_append_keep _ rfl _ _ 22 rfl base 5 i0 (.int .u8 0) Tryd.underlying22 hi hz0 hz1 hz2 rfl v n xs rfl (ho.alloc _) ⟨w.heap.size, 0, none⟩ 1 1 [.int .u8 10] rfl rfl (one_new _ _) ?c2 ?c3 ?c4 ?c5 ?_)
  case c2 => first | rfl | (intro u hu; simp at hu; subst hu; rfl)
  case c3 => unfold maxLen; omega
  case c4 => omega
  case c5 => first | omega | (simp; omega)
  intro v' w1 hown1 hold1 hgrow1
  go_wp2
  go_ret2
  exact ⟨v', rfl, hown1, hold1, grownBy_trans (World.grownBy_alloc _ _ _) hgrow1⟩

set_option maxHeartbeats 800000 in
theorem ae_r (base : Nat) (v : Value) (n : Nat) (xs : List Value) (b off len cap i : Nat) (w : World) (ho : w.ownsRow base 5 1 v n xs) (hn : n ≤ 1048576) (hbase : base ≤ w.heap.size) (hil : i < len) (hlen : len ≤ 1048576)
    (hc : w.cell? ⟨b, off + i, none⟩ = some (.int .u8 114)) :
    Calls Tryd.prog 13 #[v, .slice (some ⟨b, off, none⟩) len cap, .int .i64 i] w fun e w' => ∃ v', e = .returned (.tuple #[v', .int .i64 i]) ∧ w'.ownsRow base 5 1 v' (n + 1) (xs ++ [.int .u8 13]) ∧ w'.ownsRow base 5 1 v n xs ∧ w.grownBy w' v.ownBlock := by
  obtain ⟨i0, hi, hz0, hz1, hz2⟩ := info_parts Tryd.info5
  go_enter Tryd.func13, Tryd.ntmps13
  go_wp2_with (at_builtin; refine wpList_append_keep _ rfl _ _ 22 rfl base 5 i0 (.int .u8 0) Tryd.underlying22 hi hz0 hz1 hz2 rfl v n xs rfl (ho.alloc _) ⟨w.heap.size, 0, none⟩ 1 1 [.int .u8 13] rfl rfl (one_new _ _) ?c2 ?c3 ?c4 ?c5 ?_)
  case c2 => first | rfl | (intro u hu; simp at hu; subst hu; rfl)
  case c3 => unfold maxLen; omega
  case c4 => omega
  case c5 => first | omega | (simp; omega)
  intro v' w1 hown1 hold1 hgrow1
  go_wp2
  go_ret2
  exact ⟨v', rfl, hown1, hold1, grownBy_trans (World.grownBy_alloc _ _ _) hgrow1⟩

set_option maxHeartbeats 800000 in
theorem ae_t (base : Nat) (v : Value) (n : Nat) (xs : List Value) (b off len cap i : Nat) (w : World) (ho : w.ownsRow base 5 1 v n xs) (hn : n ≤ 1048576) (hbase : base ≤ w.heap.size) (hil : i < len) (hlen : len ≤ 1048576)
    (hc : w.cell? ⟨b, off + i, none⟩ = some (.int .u8 116)) :
    Calls Tryd.prog 13 #[v, .slice (some ⟨b, off, none⟩) len cap, .int .i64 i] w fun e w' => ∃ v', e = .returned (.tuple #[v', .int .i64 i]) ∧ w'.ownsRow base 5 1 v' (n + 1) (xs ++ [.int .u8 9]) ∧ w'.ownsRow base 5 1 v n xs ∧ w.grownBy w' v.ownBlock := by
  obtain ⟨i0, hi, hz0, hz1, hz2⟩ := info_parts Tryd.info5
  go_enter Tryd.func13, Tryd.ntmps13
  go_wp2_with (at_builtin; refine wpList_append_keep _ rfl _ _ 22 rfl base 5 i0 (.int .u8 0) Tryd.underlying22 hi hz0 hz1 hz2 rfl v n xs rfl (ho.alloc _) ⟨w.heap.size, 0, none⟩ 1 1 [.int .u8 9] rfl rfl (one_new _ _) ?c2 ?c3 ?c4 ?c5 ?_)
  case c2 => first | rfl | (intro u hu; simp at hu; subst hu; rfl)
  case c3 => unfold maxLen; omega
  case c4 => omega
  case c5 => first | omega | (simp; omega)
  intro v' w1 hown1 hold1 hgrow1
  go_wp2
  go_ret2
  exact ⟨v', rfl, hown1, hold1, grownBy_trans (World.grownBy_alloc _ _ _) hgrow1⟩

set_option maxHeartbeats 800000 in
theorem ae_b (base : Nat) (v : Value) (n : Nat) (xs : List Value) (b off len cap i : Nat) (w : World) (ho : w.ownsRow base 5 1 v n xs) (hn : n ≤ 1048576) (hbase : base ≤ w.heap.size) (hil : i < len) (hlen : len ≤ 1048576)
    (hc : w.cell? ⟨b, off + i, none⟩ = some (.int .u8 98)) :
    Calls Tryd.prog 13 #[v, .slice (some ⟨b, off, none⟩) len cap, .int .i64 i] w fun e w' => ∃ v', e = .returned (.tuple #[v', .int .i64 i]) ∧ w'.ownsRow base 5 1 v' (n + 1) (xs ++ [.int .u8 8]) ∧ w'.ownsRow base 5 1 v n xs ∧ w.grownBy w' v.ownBlock := by
  obtain ⟨i0, hi, hz0, hz1, hz2⟩ := info_parts Tryd.info5
  go_enter Tryd.func13, Tryd.ntmps13
  go_wp2_with (at_builtin; refine wpList_append_keep _ rfl _ _ 22 rfl base 5 i0 (.int .u8 0) Tryd.underlying22 hi hz0 hz1 hz2 rfl v n xs rfl (ho.alloc _) ⟨w.heap.size, 0, none⟩ 1 1 [.int .u8 8] rfl rfl (one_new _ _) ?c2 ?c3 ?c4 ?c5 ?_)
  case c2 => first | rfl | (intro u hu; simp at hu; subst hu; rfl)
  case c3 => unfold maxLen; omega
  case c4 => omega
  case c5 => first | omega | (simp; omega)
  intro v' w1 hown1 hold1 hgrow1
  go_wp2
  go_ret2
  exact ⟨v', rfl, hown1, hold1, grownBy_trans (World.grownBy_alloc _ _ _) hgrow1⟩

set_option maxHeartbeats 800000 in
theorem ae_a (base : Nat) (v : Value) (n : Nat) (xs : List Value) (b off len cap i : Nat) (w : World) (ho : w.ownsRow base 5 1 v n xs) (hn : n ≤ 1048576) (hbase : base ≤ w.heap.size) (hil : i < len) (hlen : len ≤ 1048576)
    (hc : w.cell? ⟨b, off + i, none⟩ = some (.int .u8 97)) :
    Calls Tryd.prog 13 #[v, .slice (some ⟨b, off, none⟩) len cap, .int .i64 i] w fun e w' => ∃ v', e = .returned (.tuple #[v', .int .i64 i]) ∧ w'.ownsRow base 5 1 v' (n + 1) (xs ++ [.int .u8 7]) ∧ w'.ownsRow base 5 1 v n xs ∧ w.grownBy w' v.ownBlock := by
  obtain ⟨i0, hi, hz0, hz1, hz2⟩ := info_parts Tryd.info5
  go_enter Tryd.func13, Tryd.ntmps13
  go_wp2_with (at_builtin; refine wpList_append_keep _ rfl _ _ 22 rfl base 5 i0 (.int .u8 0) Tryd.underlying22 hi hz0 hz1 hz2 rfl v n xs rfl (ho.alloc _) ⟨w.heap.size, 0, none⟩ 1 1 [.int .u8 7] rfl rfl (one_new _ _) ?c2 ?c3 ?c4 ?c5 ?_)
  case c2 => first | rfl | (intro u hu; simp at hu; subst hu; rfl)
  case c3 => unfold maxLen; omega
  case c4 => omega
  case c5 => first | omega | (simp; omega)
  intro v' w1 hown1 hold1 hgrow1
  go_wp2
  go_ret2
  exact ⟨v', rfl, hown1, hold1, grownBy_trans (World.grownBy_alloc _ _ _) hgrow1⟩

set_option maxHeartbeats 800000 in
theorem ae_other (base : Nat) (v : Value) (n : Nat) (xs : List Value) (b off len cap i : Nat) (w : World) (c : Int) (hne : c ≠ 110 ∧ c ≠ 114 ∧ c ≠ 116 ∧ c ≠ 98 ∧ c ≠ 97 ∧ c ≠ 120) (ho : w.ownsRow base 5 1 v n xs) (hn : n ≤ 1048576) (hbase : base ≤ w.heap.size) (hil : i < len) (hlen : len ≤ 1048576)
    (hc : w.cell? ⟨b, off + i, none⟩ = some (.int .u8 c)) :
    Calls Tryd.prog 13 #[v, .slice (some ⟨b, off, none⟩) len cap, .int .i64 i] w fun e w' => ∃ v', e = .returned (.tuple #[v', .int .i64 i]) ∧ w'.ownsRow base 5 1 v' (n + 1) (xs ++ [.int .u8 c]) ∧ w'.ownsRow base 5 1 v n xs ∧ w.grownBy w' v.ownBlock := by
  obtain ⟨i0, hi, hz0, hz1, hz2⟩ := info_parts Tryd.info5
  have e0 : (c == 120) = false := beq_eq_false_iff_ne.2 hne.2.2.2.2.2
  have e1 : (c == 110) = false := beq_eq_false_iff_ne.2 hne.1
  have e2 : (c == 114) = false := beq_eq_false_iff_ne.2 hne.2.1
  have e3 : (c == 116) = false := beq_eq_false_iff_ne.2 hne.2.2.1
  have e4 : (c == 98) = false := beq_eq_false_iff_ne.2 hne.2.2.2.1
  have e5 : (c == 97) = false := beq_eq_false_iff_ne.2 hne.2.2.2.2.1
  clear hne
  go_enter Tryd.func13, Tryd.ntmps13
  go_wp2_with (at_builtin; refine wpList_append_keep _ rfl _ _ 22 rfl base 5 i0 (.int .u8 0) Tryd.underlying22 hi hz0 hz1 hz2 rfl v n xs rfl (ho.alloc _) ⟨w.heap.size, 0, none⟩ 1 1 [.int .u8 c] rfl rfl (one_new _ _) ?c2 ?c3 ?c4 ?c5 ?_)
  case c2 => first | rfl | (intro u hu; simp at hu; subst hu; rfl)
  case c3 => unfold maxLen; omega
  case c4 => omega
  case c5 => first | omega | (simp; omega)
  intro v' w1 hown1 hold1 hgrow1
  go_wp2
  go_ret2
  exact ⟨v', rfl, hown1, hold1, grownBy_trans (World.grownBy_alloc _ _ _) hgrow1⟩

set_option maxHeartbeats 800000 in
theorem ae_x (base : Nat) (v : Value) (n : Nat) (xs : List Value) (b off len cap i : Nat) (w : World) (hsh : len ≤ i + 2) (ho : w.ownsRow base 5 1 v n xs) (hn : n ≤ 1048576) (hbase : base ≤ w.heap.size) (hil : i < len) (hlen : len ≤ 1048576)
    (hc : w.cell? ⟨b, off + i, none⟩ = some (.int .u8 120)) :
    Calls Tryd.prog 13 #[v, .slice (some ⟨b, off, none⟩) len cap, .int .i64 i] w fun e w' => ∃ v', e = .returned (.tuple #[v', .int .i64 i]) ∧ w'.ownsRow base 5 1 v' (n + 1) (xs ++ [.int .u8 120]) ∧ w'.ownsRow base 5 1 v n xs ∧ w.grownBy w' v.ownBlock := by
  obtain ⟨i0, hi, hz0, hz1, hz2⟩ := info_parts Tryd.info5
  have hsh' : ¬ (i : Int) + 2 < (len : Int) := by omega
  go_enter Tryd.func13, Tryd.ntmps13
  go_wp2_with (at_builtin; refine wpList_append_keep _ rfl _ _ 22 rfl base 5 i0 (.int .u8 0) Tryd.underlying22 hi hz0 hz1 hz2 rfl v n xs rfl (ho.alloc _) ⟨w.heap.size, 0, none⟩ 1 1 [.int .u8 120] rfl rfl (one_new _ _) ?c2 ?c3 ?c4 ?c5 ?_)
  case c2 => first | rfl | (intro u hu; simp at hu; subst hu; rfl)
  case c3 => unfold maxLen; omega
  case c4 => omega
  case c5 => first | omega | (simp; omega)
  intro v' w1 hown1 hold1 hgrow1
  go_wp2
  go_ret2
  exact ⟨v', rfl, hown1, hold1, grownBy_trans (World.grownBy_alloc _ _ _) hgrow1⟩

theorem conv_two (w : World) (b o : Nat) (u1 u2 : UInt8) (h1 : w.cell? ⟨b, o, none⟩ = some (.int .u8 u1.toNat)) (h2 : w.cell? ⟨b, o + 1, none⟩ = some (.int .u8 u2.toNat)) (cp : Nat) :
    (convert 22 9 (.slice (some ⟨b, o, none⟩) 2 cp)).run Tryd.prog w = .ok (.string ⟨#[u1, u2]⟩) w := by
  refine run_convert_bytes_back (P := Tryd.prog) w 22 9 5 ⟨b, o, none⟩ cp [u1, u2] Tryd.underlying22 Tryd.underlying5 Tryd.underlying9 ?_
  intro j hj
  match j, hj with
  | 0, _ => rw [Addr.add_lit]; exact h1
  | 1, _ => rw [Addr.add_lit]; exact h2

set_option maxHeartbeats 1600000 in
theorem ae_hex (base : Nat) (v : Value) (n : Nat) (xs : List Value) (b off len cap i : Nat) (w : World) (u1 u2 : UInt8) (h1 : 0 ≤ hexV u1.toNat) (h2 : 0 ≤ hexV u2.toNat) (hsh : i + 2 < len) (hcap : len ≤ cap)
    (ho : w.ownsRow base 5 1 v n xs) (hn : n ≤ 1048576) (hbase : base ≤ w.heap.size) (hil : i < len) (hlen : len ≤ 1048576)
    (hc : w.cell? ⟨b, off + i, none⟩ = some (.int .u8 120)) (hc1 : w.cell? ⟨b, off + (i + 1), none⟩ = some (.int .u8 u1.toNat)) (hc2 : w.cell? ⟨b, off + (i + 1) + 1, none⟩ = some (.int .u8 u2.toNat)) :
    Calls Tryd.prog 13 #[v, .slice (some ⟨b, off, none⟩) len cap, .int .i64 i] w fun e w' => ∃ v', e = .returned (.tuple #[v', .int .i64 ((i : Int) + 2)]) ∧ w'.ownsRow base 5 1 v' (n + 1) (xs ++ [.int .u8 (hexV u1.toNat * 16 + hexV u2.toNat)]) ∧ w'.ownsRow base 5 1 v n xs ∧ w.grownBy w' v.ownBlock := by
  obtain ⟨i0, hi, hz0, hz1, hz2⟩ := info_parts Tryd.info5
  have hP := pu_ok u1 u2 w h1 h2
  have b1 := hexV_le u1.toNat
  have b2 := hexV_le u2.toNat
  have hcv := conv_two w b (off + (i + 1)) u1 u2 hc1 hc2
  have hV0 : 0 ≤ hexV u1.toNat * 16 + hexV u2.toNat := by omega
  have hV1 : hexV u1.toNat * 16 + hexV u2.toNat ≤ 255 := by omega
  generalize hexV u1.toNat * 16 + hexV u2.toNat = V at hP hV0 hV1 ⊢
  generalize (⟨#[u1, u2]⟩ : ByteArray) = s at hP hcv
  have hsh' : (i : Int) + 2 < (len : Int) := by omega
  clear b1 b2 h1 h2 hc1 hc2
  go_enter Tryd.func13, Tryd.ntmps13
  go_wp2_with fail
  refine hP.mono ?_
  rintro e w1 ⟨rfl, hb⟩
  have ho1 := owns_below ho hb
  have hs1 := hb.size
  clear hP hcv ho hc
  go_wp2_with (at_builtin; refine wpList_append_keep _ rfl _ _ 22 rfl base 5 i0 (.int .u8 0) Tryd.underlying22 hi hz0 hz1 hz2 rfl v n xs rfl (ho1.alloc _) ⟨w1.heap.size, 0, none⟩ 1 1 [.int .u8 V] rfl rfl (one_new _ _) ?c2 ?c3 ?c4 ?c5 ?_)
  case c2 => first | rfl | (intro u hu; simp at hu; subst hu; rfl)
  case c3 => unfold maxLen; omega
  case c4 => omega
  case c5 => first | omega | (simp; omega)
  intro v' w2 hown1 hold1 hgrow1
  go_wp2
  go_ret2
  exact ⟨v', rfl, hown1, hold1, grownBy_trans (grownBy_of_below hb _) (grownBy_trans (World.grownBy_alloc _ _ _) hgrow1)⟩

set_option maxHeartbeats 1600000 in
theorem ae_badhex (base : Nat) (v : Value) (n : Nat) (xs : List Value) (b off len cap i : Nat) (w : World) (u1 u2 : UInt8) (hno : ¬ (0 ≤ hexV u1.toNat ∧ 0 ≤ hexV u2.toNat)) (hsh : i + 2 < len) (hcap : len ≤ cap)
    (ev : Value) (hv : w.cell? ⟨0, 0, none⟩ = some ev) (hev : ev = .nilIface ∨ ∃ te pe, ev = .iface te pe)
    (ho : w.ownsRow base 5 1 v n xs) (hn : n ≤ 1048576) (hbase : base ≤ w.heap.size) (hil : i < len) (hlen : len ≤ 1048576)
    (hc : w.cell? ⟨b, off + i, none⟩ = some (.int .u8 120)) (hc1 : w.cell? ⟨b, off + (i + 1), none⟩ = some (.int .u8 u1.toNat)) (hc2 : w.cell? ⟨b, off + (i + 1) + 1, none⟩ = some (.int .u8 u2.toNat)) :
    Calls Tryd.prog 13 #[v, .slice (some ⟨b, off, none⟩) len cap, .int .i64 i] w fun e w' => ∃ v', e = .returned (.tuple #[v', .int .i64 i]) ∧ w'.ownsRow base 5 1 v' (n + 1) (xs ++ [.int .u8 120]) ∧ w'.ownsRow base 5 1 v n xs ∧ w.grownBy w' v.ownBlock := by
  obtain ⟨i0, hi, hz0, hz1, hz2⟩ := info_parts Tryd.info5
  have hP := pu_no u1 u2 w hno ev hv hev
  have hcv := conv_two w b (off + (i + 1)) u1 u2 hc1 hc2
  generalize (⟨#[u1, u2]⟩ : ByteArray) = s at hP hcv
  have hsh' : (i : Int) + 2 < (len : Int) := by omega
  clear hno hc1 hc2 hv hev
  go_enter Tryd.func13, Tryd.ntmps13
  go_wp2_with fail
  refine hP.mono ?_
  rintro e w1 ⟨N, rfl, hb⟩
  have ho1 := owns_below ho hb
  have hs1 := hb.size
  have hc' : w1.cell? ⟨b, off + i, none⟩ = some (.int .u8 120) := (hb.cell (lt_of_cell' hc)).trans hc
  clear hP hcv ho hc
  go_wp2_with (at_builtin; refine wpList_append_keep _ rfl _ _ 22 rfl base 5 i0 (.int .u8 0) Tryd.underlying22 hi hz0 hz1 hz2 rfl v n xs rfl (ho1.alloc _) ⟨w1.heap.size, 0, none⟩ 1 1 [.int .u8 120] rfl rfl (one_new _ _) ?c2 ?c3 ?c4 ?c5 ?_)
  case c2 => first | rfl | (intro u hu; simp at hu; subst hu; rfl)
  case c3 => unfold maxLen; omega
  case c4 => omega
  case c5 => first | omega | (simp; omega)
  intro v' w2 hown1 hold1 hgrow1
  go_wp2
  go_ret2
  exact ⟨v', rfl, hown1, hold1, grownBy_trans (grownBy_of_below hb _) (grownBy_trans (World.grownBy_alloc _ _ _) hgrow1)⟩

end Go.Proofs.Qxb6600336aDoor
