/- The loop in which diff puts one step ahead of each path: what its round reads and writes. -/
import Derived.Test.YtclnpjelgdoloaaInner
namespace Go.Proofs.Ytclnpjelgdoloaa
open Go.RowKit Go.Maps
set_option linter.unusedVariables false

section
variable {n0 : Nat} {w wr : World} {s : Step} {us : List Value} {qs : List (List Step)} {dsv d8 : Value} {ps0 : List (List Step)} {j : Nat} {vs : List Value}

/-- Where the path is the wildcard: it is there, and overwriting it serves. -/
theorem Inner.wild (h : Inner n0 w wr s us qs dsv d8 ps0 j vs) (hj : j < qs.length) (hu : j < us.length) (hq : qs[j] = []) :
    ∃ g cap, us[j] = .slice (some ⟨g, 0, none⟩) 1 cap ∧ wr.cell? ⟨g, 0, none⟩ = some .nilIface ∧ wr.frozen? ⟨g, 0, none⟩ = false ∧ Mid n0 w (wr.setCell ⟨g, 0, none⟩ (stepVal s)) s us qs dsv d8 us[j] ps0 j [] vs := by
  have hh := h.here hj hu
  rw [hq] at hh
  obtain ⟨g, cap, cur, hv, h1, hm, hB, hl, hg, hc, ht⟩ := hh.cells
  have e1 : (pathCells []).length = 1 := rfl
  rw [e1] at hv h1 ht
  have h0 : cur[0]? = some .nilIface := by
    rw [← Array.getElem?_toList]
    have : (cur.toList.take 1)[0]? = some .nilIface := by rw [ht]; rfl
    simpa using this
  refine ⟨g, cap, hv, (cell_of_row _ g 0 _ 20 (0, 0) hg).trans h0, by simp [World.frozen?, hg], ?_⟩
  have hp := PathAt.put s hB hg hc h1 hm
  rw [← hv] at hp
  have := h.turned hj hu (wB := wr.setCell ⟨g, 0, none⟩ (stepVal s)) (d := us[j]) ?_ (by rw [hq]; exact hp) (.inl rfl) ((Below.refl _ wr).setCell hB _)
  · rw [hq] at this
    exact this
  · intro k hk hne
    exact Below.heap_setCell _ _ _ _ (fun e => hne (by rw [hv, e]; rfl))

/-- Where the path has steps: it is read. -/
theorem Inner.steps (h : Inner n0 w wr s us qs dsv d8 ps0 j vs) (hj : j < qs.length) (hu : j < us.length) (hq : qs[j] ≠ []) :
    ∃ g cap, us[j] = .slice (some ⟨g, 0, none⟩) (qs[j]).length cap ∧ g < wr.heap.size ∧ ∀ t u, ((qs[j]).map stepVal)[t]? = some u → wr.cell? ⟨g, t, none⟩ = some u := by
  have hh := h.here hj hu
  obtain ⟨g, cap, cur, hv, h1, hm, hB, hl, hg, hc, ht⟩ := hh.cells
  have e1 : pathCells qs[j] = (qs[j]).map stepVal := by unfold pathCells; rw [if_neg hq]
  rw [e1] at hv ht
  simp only [List.length_map] at hv ht
  refine ⟨g, cap, hv, hl, fun t u htu => ?_⟩
  rw [cell_of_row _ g t _ 20 (0, 0) hg]
  have hlt : t < (qs[j]).length := by
    have := (List.getElem?_eq_some_iff.1 htu).1
    simpa using this
  rw [← ht] at htu
  rw [List.getElem?_take, if_pos hlt] at htu
  simpa using htu

/-- The new path, behind its append. -/
theorem Inner.longer (h : Inner n0 w wr s us qs dsv d8 ps0 j vs) (hj : j < qs.length) (hu : j < us.length) (hq : qs[j] ≠ []) {wB : World} {d : Value}
    (hown : wB.ownsRow wr.heap.size 20 1 d (1 + (qs[j]).length) ([stepVal s] ++ (qs[j]).map stepVal)) (hg : (wr.alloc (.cells #[stepVal s] 20)).grownBy wB (some wr.heap.size)) : Mid n0 w wB s us qs dsv d8 d ps0 j qs[j] vs := by
  have hbel : Below wr.heap.size wr wB := ((Below.refl _ wr).alloc (Nat.le_refl _) _).grown hg (by simp) (fun k e => by cases e; exact Nat.le_refl _)
  have ep : pathCells (s :: qs[j]) = [stepVal s] ++ (qs[j]).map stepVal := by unfold pathCells; simp
  have el : (pathCells (s :: qs[j])).length = 1 + (qs[j]).length := by rw [ep]; simp; omega
  refine h.turned hj hu (fun k hk _ => hbel.block k hk) ?_ ?_ (hbel.mono h.low)
  · unfold PathAt
    rw [el, ep]
    refine ⟨hown.1, ?_⟩
    rcases hown.2 with ⟨_, h0⟩ | ⟨g, cap, cur, hv, hb, hr⟩
    · omega
    · exact .inr ⟨g, cap, cur, hv, Nat.le_trans h.low hb, hr⟩
  · right
    rcases hown.2 with ⟨_, h0⟩ | ⟨g, cap, cur, hv, hb, hr⟩
    · omega
    · exact ⟨g, by rw [hv]; rfl, hb⟩
end
end Go.Proofs.Ytclnpjelgdoloaa
