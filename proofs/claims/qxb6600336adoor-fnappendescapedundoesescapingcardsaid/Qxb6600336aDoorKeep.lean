/-
  SEAT b6600336aD: A LAW ON append THAT THE KIT LACKS: BEHIND 'got := append(word, ..)', word A ROW OF THE CALL's OWN, THE OLD VALUE word STILL READS AS IT DID (there was room: only cells behind its length were written; or a new row was made). Over any program.
-/
import Derived.ArgAppend
import Derived.OwnWalk
import Derived.Below
namespace Go.Proofs.Qxb6600336aDoor
open Go.RowKit

theorem owns_shrink {w : World} {base : Nat} {e : TypeId} {g n m cap : Nat} {xs news : List Value} (hx : xs.length = n) (h : w.ownsRow base e 1 (.slice (some ⟨g, 0, none⟩) (n + m) cap) (n + m) (xs ++ news)) :
    w.ownsRow base e 1 (.slice (some ⟨g, 0, none⟩) n cap) n xs := by
  refine ⟨by omega, ?_⟩
  rcases h.2 with ⟨h1, _⟩ | ⟨g', cap', cur, h1, h2, h3, h4, h5, h6, h7⟩
  · cases h1
  · simp only [Value.slice.injEq, Option.some.injEq, Addr.mk.injEq, and_true, true_and] at h1
    obtain ⟨rfl, rfl⟩ := h1
    refine Or.inr ⟨g, cap, cur, rfl, h2, h3, by omega, h5, h6, ?_⟩
    have : cur.toList.take (n * 1) = (cur.toList.take ((n + m) * 1)).take n := by rw [List.take_take]; congr 1; omega
    rw [this, h7, List.take_append_of_le_length (by omega), List.take_of_length_le (by omega)]

theorem owns_base {w : World} {base base' : Nat} {e : TypeId} {size : Nat} {v : Value} {n : Nat} {xs : List Value} (h : w.ownsRow base e size v n xs) (hb : base' ≤ base) : w.ownsRow base' e size v n xs := by
  refine ⟨h.1, ?_⟩
  rcases h.2 with h | ⟨g, cap, cur, h1, h2, h3⟩
  · exact Or.inl h
  · exact Or.inr ⟨g, cap, cur, h1, by omega, h3⟩

theorem wpList_append_keep {P : Program} (w : World) {ops : Array Oper} {rest : List Oper} {o : Oper} {a : Act} {Q : Exit → Act → World → Prop}
    (hg : o.guard = none) (s x : Operand) (t : TypeId) (hop : o.op = Op.call { callee := Callee.builtin Builtin.append, args := #[s, x], argTypes := #[t, t] })
    (base : Nat) (e : TypeId) (i : TypeInfo) (z : Value) (h1 : P.underlying t = some (.slice e)) (h2 : P.info? e = some i) (h3 : i.zero = some z) (h4 : i.size = 1) (h5 : i.bytes = 1) (h6 : z.cells.size = 1)
    (v : Value) (n : Nat) (xs : List Value) (hs : a.eval s = v) (hown : w.ownsRow base e 1 v n xs)
    (ad : Addr) (m c : Nat) (news : List Value) (hx : a.eval x = .slice (some ad) m c) (hn : news.length = m * 1) (hc : ∀ j u, news[j]? = some u → w.cell? (ad.add j) = some u) (h1c : ∀ u ∈ news, u.oneCell' = true)
    (b1 : n + m ≤ maxLen) (b2 : (n + m) * 1 ≤ 140737488355328) (hbase : base ≤ w.heap.size)
    (hK : ∀ v' w', w'.ownsRow base e 1 v' (n + m) (xs ++ news) → w'.ownsRow base e 1 v n xs → w.grownBy w' v.ownBlock → wpList P ops Q rest (a.put o.dst v') w') :
    wpList P ops Q (o :: rest) a w := by
  have hlen : xs.length = n := by have := hown.1; omega
  rcases hown.2 with ⟨hv, h0⟩ | ⟨g, cap, cur, hv, hg', hh, hnc, hcm, hcs, hct⟩
  · subst h0
    obtain rfl : xs = [] := List.eq_nil_of_length_eq_zero hlen
    refine wpList_append_own w hg s x t hop base e i z 1 1 h1 h2 h3 h4 h5 h6 (by decide) v 0 [] hs hown ad m c news hx hn hc h1c b1 b2 hbase ?_
    intro v' w' r1 r2 _
    refine hK v' w' r1 ?_ r2
    rw [hv]; exact World.ownsRow_nil _ _ _ _
  · subst hv
    by_cases hfit : n + m ≤ cap
    · refine wpList_append_fits w hg s x t hop base e i 1 h1 h2 h4 g n cap xs hs hown ad m c news hx hn hc h1c hfit ?_
      intro w' r1 r2
      exact hK _ w' r1 (owns_shrink hlen r1) r2
    · refine wpList_append_grows w hg s x t hop e i z 1 1 h1 h2 h3 h4 h5 h6 (by decide) (some ⟨g, 0, none⟩) n cap xs hs (fun h => by cases h) (by omega) (fun b hb j u hj => by cases hb; exact hown.cells rfl j u hj) ad m c news hx hn hc h1c (by omega) b1 b2 ?_
      intro v' w' r1 r2
      refine hK v' w' (owns_base r1 hbase) (hown.kept r2 (Or.inr (by simp [Value.ownBlock]))) ?_
      exact ⟨r2.os, r2.tape, r2.output, r2.size, fun k hk _ => r2.block k hk (by simp)⟩

end Go.Proofs.Qxb6600336aDoor
