/- The loop in which diff puts one step ahead of each path that a call of its own has found: what holds of the memory. -/
import Derived.Test.YtclnpjelgdoloaaRowsP
namespace Go.Proofs.Ytclnpjelgdoloaa
open Go.RowKit Go.Maps
set_option linter.unusedVariables false

theorem PathsAt.at_ {w : World} {B : Nat} {vs1 vs2 : List Value} {v : Value} {ps1 ps2 : List (List Step)} {p : List Step} (hl : vs1.length = ps1.length) (h : PathsAt w B (vs1 ++ v :: vs2) (ps1 ++ p :: ps2)) : PathAt w B v p := by
  obtain ⟨_, h2, _⟩ := (PathsAt.split hl).1 h
  cases h2 with
  | cons _ _ _ _ h _ _ => exact h

/-- What a path's cells hold. -/
theorem PathAt.cells {w : World} {B : Nat} {v : Value} {p : List Step} (h : PathAt w B v p) : ∃ g cap cur, v = .slice (some ⟨g, 0, none⟩) (pathCells p).length cap ∧ (pathCells p).length ≤ cap ∧ cap ≤ maxLen ∧ B ≤ g ∧ g < w.heap.size ∧ w.heap[g]? = some (.cells cur 20 (0, 0)) ∧ cur.size = cap ∧ cur.toList.take (pathCells p).length = pathCells p := by
  obtain ⟨g, cap, cur, hv, hb, hg, hl⟩ := h.block
  rcases h.2 with ⟨_, h0⟩ | ⟨g', cap', cur', hv', hb', hg', h1, h2, h3, h4⟩
  · have := pathCells_ne p
    omega
  · rw [hv] at hv'
    injection hv' with e1 e2 e3
    injection e1 with e1
    injection e1 with e1
    subst e1
    subst e3
    rw [hg] at hg'
    injection hg' with hg'
    injection hg' with hg'
    subst hg'
    exact ⟨g, cap, cur, hv, h1, h2, hb, hl, hg, by simpa using h3, by simpa using h4⟩

theorem stepVal_one (s : Step) : (stepVal s).oneCell' = true := by cases s <;> rfl

/-- The wildcard is overwritten by a step. -/
theorem PathAt.put {w : World} {B g cap : Nat} {cur : Array Value} (s : Step) (hB : B ≤ g) (hg : w.heap[g]? = some (.cells cur 20 (0, 0))) (hc : cur.size = cap) (h1 : 1 ≤ cap) (hm : cap ≤ maxLen) :
    PathAt (w.setCell ⟨g, 0, none⟩ (stepVal s)) B (.slice (some ⟨g, 0, none⟩) 1 cap) [s] := by
  refine ⟨by simp [pathCells], .inr ⟨g, cap, cur.setIfInBounds 0 (stepVal s), by simp [pathCells], hB, ?_, by simpa [pathCells] using h1, hm, by simpa using hc, ?_⟩⟩
  · simp only [World.setCell, Array.getElem?_modify, if_pos, hg, Option.map_some]
    rfl
  · have : 0 < cur.toList.length := by simp; omega
    rcases e : cur.toList with _ | ⟨x, r⟩
    · simp [e] at this
    · simp [pathCells, Array.toList_setIfInBounds, e]

/-- A row of another type has another block. -/
theorem rows_apart {w : World} {b b' : Nat} {e e' : TypeId} {s s' n n' : Nat} {v v' : Value} {xs xs' : List Value} (h : w.ownsRow b e s v n xs) (h' : w.ownsRow b' e' s' v' n' xs') (hne : e ≠ e') : v.ownBlock = none ∨ v.ownBlock ≠ v'.ownBlock := by
  rcases h.2 with ⟨hv, _⟩ | ⟨g, cap, cur, hv, _, hg, _⟩
  · subst hv
    exact .inl rfl
  · rcases h'.2 with ⟨hv', _⟩ | ⟨g', cap', cur', hv', _, hg', _⟩
    · subst hv; subst hv'
      exact .inr (by simp [Value.ownBlock])
    · subst hv; subst hv'
      refine .inr fun e => ?_
      simp only [Value.ownBlock, Option.some.injEq] at e
      subst e
      rw [hg] at hg'
      injection hg' with hg'
      injection hg' with _ he _
      exact hne he

theorem own_turn {w w' : World} {b : Nat} {e : TypeId} {s n : Nat} {v : Value} {xs : List Value} (h : w.ownsRow b e s v n xs) (hk : ∀ k, v.ownBlock = some k → k < w.heap.size → w'.heap[k]? = w.heap[k]?) : w'.ownsRow b e s v n xs := by
  refine ⟨h.1, ?_⟩
  rcases h.2 with h2 | ⟨g, cap, cur, hv, hb, hg, hr⟩
  · exact .inl h2
  · refine .inr ⟨g, cap, cur, hv, hb, ?_, hr⟩
    have hl : g < w.heap.size := by
      rcases Nat.lt_or_ge g w.heap.size with h' | h'
      · exact h'
      · simp [Array.getElem?_eq_none h'] at hg
    rw [hk g (by rw [hv]; rfl) hl, hg]

/-- In the loop: j of the paths have been taken over. -/
structure Inner (n0 : Nat) (w wr : World) (s : Step) (us : List Value) (qs : List (List Step)) (dsv d8 : Value) (ps0 : List (List Step)) (j : Nat) (vs : List Value) : Prop where
  at_ : PathsAt wr n0 (vs ++ us.drop j) ((ps0 ++ (qs.take j).map (s :: ·)) ++ qs.drop j)
  len : vs.length = ps0.length + j
  own : wr.ownsRow n0 53 1 d8 vs.length vs
  src : wr.ownsRow n0 53 1 dsv us.length us
  ne : d8.ownBlock = none ∨ d8.ownBlock ≠ dsv.ownBlock
  bel : Below n0 w wr
  low : n0 ≤ wr.heap.size

/-- In the round: the path at j has its new step. -/
structure Mid (n0 : Nat) (w wr : World) (s : Step) (us : List Value) (qs : List (List Step)) (dsv d8 d : Value) (ps0 : List (List Step)) (j : Nat) (q : List Step) (vs : List Value) : Prop where
  at_ : PathsAt wr n0 (vs ++ d :: us.drop (j + 1)) ((ps0 ++ (qs.take j).map (s :: ·)) ++ (s :: q) :: qs.drop (j + 1))
  len : vs.length = ps0.length + j
  own : wr.ownsRow n0 53 1 d8 vs.length vs
  src : wr.ownsRow n0 53 1 dsv us.length us
  ne : d8.ownBlock = none ∨ d8.ownBlock ≠ dsv.ownBlock
  bel : Below n0 w wr
  low : n0 ≤ wr.heap.size

section
variable {n0 : Nat} {w wr : World} {s : Step} {us : List Value} {qs : List (List Step)} {dsv d8 : Value} {ps0 : List (List Step)} {j : Nat} {vs : List Value}

theorem Inner.qlen (h : Inner n0 w wr s us qs dsv d8 ps0 j vs) (hj : j ≤ qs.length) : us.drop j = [] ∧ qs.drop j = [] ∨ us.length = qs.length := by
  have := h.at_.len
  have hl := h.len
  simp only [List.length_append, List.length_map, List.length_take, List.length_drop] at this
  by_cases e : us.length = qs.length
  · exact .inr e
  · refine .inl ⟨List.drop_eq_nil_of_le (by omega), List.drop_eq_nil_of_le (by omega)⟩

theorem Inner.here (h : Inner n0 w wr s us qs dsv d8 ps0 j vs) (hj : j < qs.length) (hu : j < us.length) : PathAt wr n0 us[j] qs[j] := by
  have := h.at_
  rw [List.drop_eq_getElem_cons hj, List.drop_eq_getElem_cons hu] at this
  refine this.at_ ?_
  have := h.len
  simp
  omega

/-- The path at j is turned. -/
theorem Inner.turned (h : Inner n0 w wr s us qs dsv d8 ps0 j vs) (hj : j < qs.length) (hu : j < us.length) {wB : World} {d : Value} (hk : ∀ k, k < wr.heap.size → (us[j]).ownBlock ≠ some k → wB.heap[k]? = wr.heap[k]?)
    (hp : PathAt wB n0 d (s :: qs[j])) (hb : d.ownBlock = (us[j]).ownBlock ∨ ∃ k, d.ownBlock = some k ∧ wr.heap.size ≤ k) (hbel : Below n0 wr wB) : Mid n0 w wB s us qs dsv d8 d ps0 j qs[j] vs := by
  have hhere := h.here hj hu
  have hat := h.at_
  rw [List.drop_eq_getElem_cons hj, List.drop_eq_getElem_cons hu] at hat
  have hlen := h.len
  refine ⟨hat.turn (by simp; omega) hk hp hb, h.len, own_turn h.own ?_, own_turn h.src ?_, h.ne, h.bel.trans hbel, Nat.le_trans h.low hbel.size⟩
  · intro k e hl
    refine hk k hl fun e' => ?_
    rcases rows_apart h.own hhere (by decide) with h0 | h0
    · rw [h0] at e; cases e
    · exact h0 (by rw [e, e'])
  · intro k e hl
    refine hk k hl fun e' => ?_
    rcases rows_apart h.src hhere (by decide) with h0 | h0
    · rw [h0] at e; cases e
    · exact h0 (by rw [e, e'])

theorem Mid.next {q : List Step} {d : Value} (h : Mid n0 w wr s us qs dsv d8 d ps0 j q vs) (hj : j < qs.length) (hq : q = qs[j]) (hu : j < us.length) {wC : World} {d8' : Value} (x : Obj) (hown : wC.ownsRow n0 53 1 d8' (vs.length + 1) (vs ++ [d])) (hg : (wr.alloc x).grownBy wC d8.ownBlock)
    (hat : d8'.ownBlock = d8.ownBlock ∨ d8'.ownBlock = some (wr.alloc x).heap.size) (hbel : Below n0 wr wC) : Inner n0 w wC s us qs dsv d8' ps0 (j + 1) (vs ++ [d]) := by
  have keep : ∀ k, k < wr.heap.size → d8.ownBlock ≠ some k → wC.heap[k]? = wr.heap[k]? := fun k hk hne => by
    rw [hg.block k (by simp; omega) (fun e => hne e.symm), Below.heap_alloc _ _ _ hk]
  refine ⟨?_, by have := h.len; simp; omega, by simpa using hown, own_turn h.src ?_, ?_, h.bel.trans hbel, Nat.le_trans h.low hbel.size⟩
  · have e1 : (vs ++ [d]) ++ us.drop (j + 1) = vs ++ d :: us.drop (j + 1) := by simp
    have e2 : (ps0 ++ (qs.take (j + 1)).map (s :: ·)) ++ qs.drop (j + 1) = (ps0 ++ (qs.take j).map (s :: ·)) ++ (s :: q) :: qs.drop (j + 1) := by
      have e3 : (qs.take (j + 1)).map (s :: ·) = (qs.take j).map (s :: ·) ++ [s :: qs[j]] := by
        rw [List.take_add_one, List.getElem?_eq_getElem hj, List.map_append]
        rfl
      rw [e3, hq]
      simp only [List.append_assoc, List.cons_append, List.nil_append]
    rw [e1, e2]
    refine h.at_.kept ?_
    rintro k ⟨v, hv, e⟩
    obtain ⟨g, cur, e', _, hl, hgb⟩ := h.at_.mem v hv
    have e3 : k = g := by rw [e] at e'; exact Option.some.inj e'
    subst e3
    refine keep k hl fun e4 => ?_
    rcases h.own.2 with ⟨hv', _⟩ | ⟨g', cap', cur', hv', _, hg', _⟩
    · rw [hv'] at e4; cases e4
    · rw [hv'] at e4
      simp only [Value.ownBlock, Option.some.injEq] at e4
      subst e4
      rw [hgb] at hg'
      injection hg' with hg'
      injection hg' with _ he _
      exact absurd he (by decide)
  · intro k e hl
    refine keep k hl fun e4 => ?_
    rcases h.ne with h0 | h0
    · rw [h0] at e4; cases e4
    · exact h0 (by rw [e4, e])
  · rcases hat with e | e
    · rw [e]; exact h.ne
    · right
      intro e'
      rcases h.src.2 with ⟨hv', _⟩ | ⟨g', cap', cur', hv', _, hg', _⟩
      · rw [e, hv'] at e'; cases e'
      · rw [e, hv'] at e'
        simp only [Value.ownBlock, Option.some.injEq] at e'
        have : g' < wr.heap.size := by
          rcases Nat.lt_or_ge g' wr.heap.size with h' | h'
          · exact h'
          · simp [Array.getElem?_eq_none h'] at hg'
        simp at e'
        omega
end
end Go.Proofs.Ytclnpjelgdoloaa
