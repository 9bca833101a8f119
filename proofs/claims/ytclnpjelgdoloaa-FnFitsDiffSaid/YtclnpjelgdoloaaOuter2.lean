/- diff adds one path of one step. -/
import Derived.Test.YtclnpjelgdoloaaInner2
namespace Go.Proofs.Ytclnpjelgdoloaa
open Go.RowKit Go.Maps
set_option linter.unusedVariables false

/-- One path more, of one step, laid in a new block, behind the append. -/
theorem PathsAt.add {n0 : Nat} {wr wC : World} {d8 d8' : Value} {vs : List Value} {ps : List (List Step)} (s : Step) (x : Obj) (h : PathsAt wr n0 vs ps) (ho : wr.ownsRow n0 53 1 d8 vs.length vs) (hn : n0 ≤ wr.heap.size)
    (hg : ((wr.alloc (.cells #[stepVal s] 20)).alloc x).grownBy wC d8.ownBlock) : PathsAt wC n0 (vs ++ [.slice (some ⟨wr.heap.size, 0, none⟩) 1 1]) (ps ++ [[s]]) := by
  have low : ∀ k, d8.ownBlock = some k → k < wr.heap.size ∧ ∃ cur, wr.heap[k]? = some (.cells cur 53 (0, 0)) := by
    intro k e
    rcases ho.2 with ⟨hv, _⟩ | ⟨g, cap, cur, hv, _, hgb, _⟩
    · rw [hv] at e; cases e
    · rw [hv] at e
      simp only [Value.ownBlock, Option.some.injEq] at e
      subst e
      refine ⟨?_, cur, hgb⟩
      rcases Nat.lt_or_ge g wr.heap.size with h' | h'
      · exact h'
      · simp [Array.getElem?_eq_none h'] at hgb
  refine (PathsAt.split h.len).2 ⟨h.kept ?_, .cons _ _ _ _ ?_ (by simp) .nil, ?_⟩
  · rintro k ⟨v, hv, e⟩
    obtain ⟨g, cur, e', _, hl, hgb⟩ := h.mem v hv
    have e3 : k = g := by rw [e] at e'; exact Option.some.inj e'
    subst e3
    rw [hg.block k (by simp; omega) ?_, Below.heap_alloc _ _ _ (by simp; omega), Below.heap_alloc _ _ _ hl]
    intro e4
    obtain ⟨_, cur', hc'⟩ := low k e4.symm
    rw [hgb] at hc'
    injection hc' with hc'
    injection hc' with _ he _
    exact absurd he (by decide)
  · refine ⟨by simp [pathCells], .inr ⟨wr.heap.size, 1, #[stepVal s], by simp [pathCells], hn, ?_, by simp [pathCells], by unfold maxLen; omega, by simp, by simp [pathCells]⟩⟩
    rw [hg.block _ (by simp; omega) (fun e4 => by have := (low _ e4.symm).1; omega), Below.heap_alloc _ _ _ (by simp), heap_alloc_new]
  · intro v hv u hu e
    obtain ⟨g, cur, e', _, hl, _⟩ := h.mem v hv
    simp at hu
    subst hu
    rw [e'] at e
    simp only [Value.ownBlock, Option.some.injEq] at e
    omega
end Go.Proofs.Ytclnpjelgdoloaa
