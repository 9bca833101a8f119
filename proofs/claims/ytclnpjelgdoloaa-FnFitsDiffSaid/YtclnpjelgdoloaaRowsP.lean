/- Paths in memory: a path is lengthened, a path is added. -/
import Derived.Test.YtclnpjelgdoloaaIgn
namespace Go.Proofs.Ytclnpjelgdoloaa
open Go.RowKit Go.Maps
set_option linter.unusedVariables false

def PathAt (w : World) (B : Nat) (v : Value) (p : List Step) : Prop := w.ownsRow B 20 1 v (pathCells p).length (pathCells p)

theorem pathCells_ne (p : List Step) : 0 < (pathCells p).length := by
  unfold pathCells
  split
  · simp
  · rename_i h
    simp
    exact List.length_pos_iff.2 h

/-- Paths, each in a block of its own. -/
inductive PathsAt (w : World) (B : Nat) : List Value → List (List Step) → Prop
  | nil : PathsAt w B [] []
  | cons (v : Value) (p : List Step) (vs : List Value) (ps : List (List Step)) (h : PathAt w B v p) (hn : ∀ u ∈ vs, v.ownBlock ≠ u.ownBlock) (hs : PathsAt w B vs ps) : PathsAt w B (v :: vs) (p :: ps)

theorem PathAt.block {w : World} {B : Nat} {v : Value} {p : List Step} (h : PathAt w B v p) : ∃ g cap cur, v = .slice (some ⟨g, 0, none⟩) (pathCells p).length cap ∧ B ≤ g ∧ w.heap[g]? = some (.cells cur 20 (0, 0)) ∧ g < w.heap.size := by
  rcases h.2 with ⟨_, h0⟩ | ⟨g, cap, cur, hv, hb, hg, _⟩
  · have := pathCells_ne p
    omega
  · refine ⟨g, cap, cur, hv, hb, hg, ?_⟩
    rcases Nat.lt_or_ge g w.heap.size with h' | h'
    · exact h'
    · simp [Array.getElem?_eq_none h'] at hg

/-- What turns no block of a path leaves the path. -/
theorem PathAt.kept {w w' : World} {B : Nat} {v : Value} {p : List Step} (h : PathAt w B v p) (hk : ∀ k, v.ownBlock = some k → w'.heap[k]? = w.heap[k]?) : PathAt w' B v p := by
  obtain ⟨h1, h2⟩ := h
  refine ⟨h1, ?_⟩
  rcases h2 with h2 | ⟨g, cap, cur, hv, hb, hg, hr⟩
  · exact .inl h2
  · refine .inr ⟨g, cap, cur, hv, hb, ?_, hr⟩
    rw [hk g (by rw [hv]; rfl), hg]

theorem PathsAt.kept {w w' : World} {B : Nat} {vs : List Value} {ps : List (List Step)} (h : PathsAt w B vs ps) (hk : ∀ k, (∃ v ∈ vs, v.ownBlock = some k) → w'.heap[k]? = w.heap[k]?) : PathsAt w' B vs ps := by
  induction h with
  | nil => exact .nil
  | cons v p vs ps h hn hs ih => exact .cons v p vs ps (h.kept fun k e => hk k ⟨v, by simp, e⟩) hn (ih fun k ⟨u, hu, e⟩ => hk k ⟨u, by simp [hu], e⟩)

theorem PathsAt.len {w : World} {B : Nat} {vs : List Value} {ps : List (List Step)} (h : PathsAt w B vs ps) : vs.length = ps.length := by
  induction h with
  | nil => rfl
  | cons v p vs ps h hn hs ih => simp [ih]

theorem PathsAt.mono {w : World} {B B' : Nat} {vs : List Value} {ps : List (List Step)} (h : PathsAt w B vs ps) (hB : B' ≤ B) : PathsAt w B' vs ps := by
  induction h with
  | nil => exact .nil
  | cons v p vs ps h hn hs ih =>
    refine .cons v p vs ps ⟨h.1, ?_⟩ hn ih
    rcases h.2 with h2 | ⟨g, cap, cur, hv, hb, hr⟩
    · exact .inl h2
    · exact .inr ⟨g, cap, cur, hv, Nat.le_trans hB hb, hr⟩

/-- Each path's block is there, from B on, of the type of a path. -/
theorem PathsAt.mem {w : World} {B : Nat} {vs : List Value} {ps : List (List Step)} (h : PathsAt w B vs ps) : ∀ v ∈ vs, ∃ g cur, v.ownBlock = some g ∧ B ≤ g ∧ g < w.heap.size ∧ w.heap[g]? = some (.cells cur 20 (0, 0)) := by
  induction h with
  | nil => intro v hv; simp at hv
  | cons v p vs ps h hn hs ih =>
    intro u hu
    rcases List.mem_cons.1 hu with rfl | hu
    · obtain ⟨g, cap, cur, hv, hb, hg, hl⟩ := h.block
      exact ⟨g, cur, by rw [hv]; rfl, hb, hl, hg⟩
    · exact ih u hu

theorem PathsAt.split {w : World} {B : Nat} {vs1 : List Value} : ∀ {ps1 : List (List Step)} {vs2 : List Value} {ps2 : List (List Step)}, vs1.length = ps1.length →
    (PathsAt w B (vs1 ++ vs2) (ps1 ++ ps2) ↔ PathsAt w B vs1 ps1 ∧ PathsAt w B vs2 ps2 ∧ ∀ v ∈ vs1, ∀ u ∈ vs2, v.ownBlock ≠ u.ownBlock) := by
  induction vs1 with
  | nil =>
    intro ps1 vs2 ps2 hl
    have : ps1 = [] := List.eq_nil_of_length_eq_zero (by simpa using hl.symm)
    subst this
    simp only [List.nil_append]
    exact ⟨fun h => ⟨.nil, h, by simp⟩, fun h => h.2.1⟩
  | cons v vs1 ih =>
    intro ps1 vs2 ps2 hl
    cases ps1 with
    | nil => simp at hl
    | cons p ps1 =>
      simp only [List.cons_append]
      have hl' : vs1.length = ps1.length := by simpa using hl
      constructor
      · intro h
        cases h with
        | cons _ _ _ _ h hn hs =>
          obtain ⟨h1, h2, h3⟩ := (ih hl').1 hs
          refine ⟨.cons v p vs1 ps1 h (fun u hu => hn u (by simp [hu])) h1, h2, ?_⟩
          intro x hx u hu
          rcases List.mem_cons.1 hx with rfl | hx
          · exact hn u (by simp [hu])
          · exact h3 x hx u hu
      · rintro ⟨h1, h2, h3⟩
        cases h1 with
        | cons _ _ _ _ h hn hs =>
          refine .cons v p _ _ h ?_ ((ih hl').2 ⟨hs, h2, fun x hx => h3 x (by simp [hx])⟩)
          intro u hu
          rcases List.mem_append.1 hu with hu | hu
          · exact hn u hu
          · exact h3 v (by simp) u hu

/-- One path among others is turned: in its own block, or into a new one. -/
theorem PathsAt.turn {w w' : World} {B : Nat} {vs1 vs2 : List Value} {v v' : Value} {ps1 ps2 : List (List Step)} {p p' : List Step} (hl : vs1.length = ps1.length) (h : PathsAt w B (vs1 ++ v :: vs2) (ps1 ++ p :: ps2))
    (hk : ∀ k, k < w.heap.size → v.ownBlock ≠ some k → w'.heap[k]? = w.heap[k]?) (hp : PathAt w' B v' p') (hb : v'.ownBlock = v.ownBlock ∨ ∃ k, v'.ownBlock = some k ∧ w.heap.size ≤ k) :
    PathsAt w' B (vs1 ++ v' :: vs2) (ps1 ++ p' :: ps2) := by
  obtain ⟨h1, h2, h3⟩ := (PathsAt.split hl).1 h
  have far : ∀ u : Value, (∃ g, u.ownBlock = some g ∧ g < w.heap.size) → u.ownBlock ≠ v.ownBlock → v'.ownBlock ≠ u.ownBlock := by
    rintro u ⟨g, hg, hlt⟩ hne e
    rcases hb with hb | ⟨k, hb, hle⟩
    · exact hne (by rw [← hb, e])
    · rw [hb, hg] at e
      injection e with e
      omega
  cases h2 with
  | cons _ _ _ _ hv hn hs =>
    have b1 : ∀ u ∈ vs1, ∃ g, u.ownBlock = some g ∧ g < w.heap.size := fun u hu => by obtain ⟨g, _, e, _, hlt, _⟩ := h1.mem u hu; exact ⟨g, e, hlt⟩
    have b2 : ∀ u ∈ vs2, ∃ g, u.ownBlock = some g ∧ g < w.heap.size := fun u hu => by obtain ⟨g, _, e, _, hlt, _⟩ := hs.mem u hu; exact ⟨g, e, hlt⟩
    refine (PathsAt.split hl).2 ⟨h1.kept ?_, .cons v' p' vs2 ps2 hp (fun u hu => far u (b2 u hu) (Ne.symm (hn u hu))) (hs.kept ?_), ?_⟩
    · rintro k ⟨u, hu, e⟩
      obtain ⟨g, e', hlt⟩ := b1 u hu
      have e3 : k = g := by rw [e] at e'; exact Option.some.inj e'
      subst e3
      exact hk k hlt (fun e4 => h3 u hu v (by simp) (by rw [e, e4]))
    · rintro k ⟨u, hu, e⟩
      obtain ⟨g, e', hlt⟩ := b2 u hu
      have e3 : k = g := by rw [e] at e'; exact Option.some.inj e'
      subst e3
      exact hk k hlt (fun e4 => hn u hu (by rw [e, e4]))
    · intro x hx u hu
      rcases List.mem_cons.1 hu with rfl | hu
      · exact Ne.symm (far x (b1 x hx) (fun e => h3 x hx v (by simp) e))
      · exact h3 x hx u (by simp [hu])
end Go.Proofs.Ytclnpjelgdoloaa
