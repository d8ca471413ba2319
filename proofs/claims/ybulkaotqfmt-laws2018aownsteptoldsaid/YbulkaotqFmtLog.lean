/-
  append onto a slice of the program's own: where the new row lies.
-/
import Derived.Test.YbulkaotqFmtSym
namespace Go.Proofs.YbulkaotqFmt.Wk
open Go.RowKit Fl

theorem own_cell {w : World} {B g n cap : Nat} {xs : List Value} (h : w.ownsRow B 26 1 (.slice (some ⟨g, 0, none⟩) n cap) n xs) : ∀ j u, xs[j]? = some u → w.cell? (Addr.add ⟨g, 0, none⟩ j) = some u := by
  obtain ⟨h1, h2 | ⟨g', cap', cur, hv, hb, hg, h3, h4, h5, h6⟩⟩ := h
  · exact absurd h2.1 (by simp)
  · injection hv with e1 e2 e3
    injection e1 with e1
    injection e1 with e1
    subst e1
    intro j u hu
    rw [Go.WideShapes.add_plain, Nat.zero_add]
    rw [← h6] at hu
    have hj : j < n * 1 := by
      have := (List.getElem?_eq_some_iff.1 hu).1
      simp at this
      omega
    rw [List.getElem?_take, if_pos hj] at hu
    simp [World.cell?, hg]
    simpa using hu

theorem wpList_append_log {P : Program} (w : World) {ops : Array Oper} {rest : List Oper} {o : Oper} {a : Act} {Q : Exit → Act → World → Prop}
    (hg : o.guard = none) (s x : Operand) (t : TypeId) (hop : o.op = Op.call { callee := Callee.builtin Builtin.append, args := #[s, x], argTypes := #[t, t] })
    (i : TypeInfo) (z : Value) (bytes : Nat) (h1 : P.underlying t = some (.slice 26)) (h2 : P.info? 26 = some i) (h3 : i.zero = some z) (h4 : i.size = 1) (h5 : i.bytes = bytes) (h6 : z.cells.size = 1)
    (v : Value) (n : Nat) (xs : List Value) (hs : a.eval s = v) (hown : w.ownsRow 0 26 1 v n xs)
    (ad : Addr) (m c : Nat) (news : List Value) (hx : a.eval x = .slice (some ad) m c) (hn : news.length = m * 1) (hc : ∀ j u, news[j]? = some u → w.cell? (ad.add j) = some u) (h1c : ∀ u ∈ news, u.oneCell' = true)
    (hm : 0 < m) (b1 : n + m ≤ maxLen) (b2 : (n + m) * bytes ≤ 140737488355328)
    (hK : ∀ v' w', w'.ownsRow 0 26 1 v' (n + m) (xs ++ news) → w.grownBy w' v.ownBlock → (∃ g c', v' = .slice (some ⟨g, 0, none⟩) (n + m) c' ∧ (v.ownBlock = some g ∨ w.heap.size ≤ g)) → wpList P ops Q rest (a.put o.dst v') w') :
    wpList P ops Q (o :: rest) a w := by
  have key : ∀ (ao : Option Addr) (cap : Nat), v = .slice ao n cap → (ao = none → n = 0 ∧ cap = 0) → (∀ b, ao = some b → ∀ j u, xs[j]? = some u → w.cell? (b.add j) = some u) → cap < n + m → wpList P ops Q (o :: rest) a w := by
    intro ao cap hv hnone holds hfull
    refine wpList_append_grows w hg s x t hop 26 i z 1 bytes h1 h2 h3 h4 h5 h6 (by omega) ao n cap xs (hs.trans hv) hnone hown.1 holds ad m c news hx hn hc h1c hfull b1 b2 ?_
    intro v' w' ho hgr
    refine hK v' w' ?_ ⟨hgr.os, hgr.tape, hgr.output, hgr.size, fun k hk _ => hgr.block k hk (by simp)⟩ ?_
    · obtain ⟨o1, o2 | ⟨g, cap', cur, o3, o4, o5⟩⟩ := ho
      · exact ⟨o1, .inl o2⟩
      · exact ⟨o1, .inr ⟨g, cap', cur, o3, Nat.zero_le _, o5⟩⟩
    · obtain ⟨o1, o2 | ⟨g, cap', cur, o3, o4, o5⟩⟩ := ho
      · omega
      · exact ⟨g, cap', o3, .inr o4⟩
  rcases hown.2 with ⟨hv, hn0⟩ | ⟨g, cap, cur, hv, hb, hg', h7, h8, h9, h10⟩
  · subst hn0
    exact key none 0 hv (fun _ => ⟨rfl, rfl⟩) (fun b hb => by cases hb) (by omega)
  · by_cases hf : n + m ≤ cap
    · subst hv
      refine wpList_append_fits w hg s x t hop 0 26 i 1 h1 h2 h4 g n cap xs hs hown ad m c news hx hn hc h1c hf ?_
      intro w' ho hgr
      exact hK _ w' ho hgr ⟨g, cap, rfl, .inl rfl⟩
    · exact key (some ⟨g, 0, none⟩) cap hv (fun h => by cases h) (fun b hb => by cases hb; subst hv; exact own_cell hown) (by omega)
end Go.Proofs.YbulkaotqFmt.Wk
