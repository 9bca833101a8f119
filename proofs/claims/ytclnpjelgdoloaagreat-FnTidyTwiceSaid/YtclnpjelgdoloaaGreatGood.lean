/- Trees of plain data, as the package's functions take them. -/
import Derived.Test.YtclnpjelgdoloaaGreatLight
namespace Go.Proofs.YtclnpjelgdoloaaGreat
open Go.RowKit
set_option linter.unusedVariables false

/-- A tree of plain data: its lists are short. -/
inductive Fine : V → Prop
  | mk (t : V) (hk : t.k = 1 ∨ t.k = 2 ∨ t.k = 3 ∨ t.k = 4 ∨ t.k = 5 ∨ t.k = 7 ∨ t.k = 8) (hb : t.k = 2 → t.n = 0 ∨ t.n = 1) (hf : t.k = 4 → nanB t.f = false ∧ infB t.f = false) (hlen : t.l.length ≤ 300 ∧ t.keys.length ≤ 300)
      (hl : ¬ (t.k = 7 ∨ t.k = 8) → t.l = []) (h8 : t.k = 8 → t.keys.length = t.l.length ∧ t.keys.Nodup) (hr : ∀ x ∈ t.l, Fine x) : Fine t

theorem fine_kind {t : V} (h : Fine t) : t.k = 1 ∨ t.k = 2 ∨ t.k = 3 ∨ t.k = 4 ∨ t.k = 5 ∨ t.k = 7 ∨ t.k = 8 := by cases h; assumption
theorem Fine.bit {t : V} (h : Fine t) : t.k = 2 → t.n = 0 ∨ t.n = 1 := by cases h; assumption
theorem Fine.fin {t : V} (h : Fine t) : t.k = 4 → nanB t.f = false ∧ infB t.f = false := by cases h; assumption
theorem Fine.len {t : V} (h : Fine t) : t.l.length ≤ 300 ∧ t.keys.length ≤ 300 := by cases h; assumption
theorem Fine.bare {t : V} (h : Fine t) : ¬ (t.k = 7 ∨ t.k = 8) → t.l = [] := by cases h; assumption
theorem Fine.obj {t : V} (h : Fine t) : t.k = 8 → t.keys.length = t.l.length ∧ t.keys.Nodup := by cases h; assumption
theorem Fine.mem {t : V} (h : Fine t) : ∀ x ∈ t.l, Fine x := by cases h; assumption
theorem fine_elem {t : V} (h : Fine t) (j : Nat) (hj : j < t.l.length) : Fine t.l[j] := h.mem _ (List.getElem_mem hj)

theorem lite_fine (n : Nat) : ∀ t : V, SizeOf.sizeOf t ≤ n → Lite t → Fine t := by
  induction n with
  | zero => intro t hn; cases t; simp at hn
  | succ n ih =>
    intro t hn h
    have h1 := (V.cl_eq t).1 h.cl
    have h2 := (V.wh_eq t).1 h.wh
    have h3 := h.big
    have hw := h.wt
    have hl := l_le_wt t
    have hk := keys_le_wt t
    rw [V.has_eq, Bool.or_eq_false_iff] at h3
    have e6 : t.k ≠ 6 := by simpa using h3.1
    refine .mk t (by omega) h2.2.1 h2.2.2.2.2 ⟨by omega, by omega⟩ h1.2 h2.2.2.2.1 ?_
    by_cases h78 : t.k = 7 ∨ t.k = 8
    · have hkb : (t.k == 7 || t.k == 8) = true := by rcases h78 with e | e <;> simp [e]
      have h4 := h3.2
      rw [hkb, Bool.true_and] at h4
      have all : ∀ (l : List V), V.cll l → V.whl l → V.hasl 6 l = false → ∀ x ∈ l, x.cl ∧ x.wh ∧ x.has 6 = false := by
        intro l
        induction l with
        | nil => intro _ _ _ x hx; simp at hx
        | cons a l ih =>
          intro c1 c2 c3 x hx
          simp only [V.cll, V.whl, V.hasl, Bool.or_eq_false_iff] at c1 c2 c3
          rcases List.mem_cons.1 hx with rfl | hx
          · exact ⟨c1.1, c2.1, c3.1⟩
          · exact ih c1.2 c2.2 c3.2 x hx
      intro x hx
      obtain ⟨q1, q2, q3⟩ := all t.l (h1.1 h78) (h2.2.2.1 h78) h4 x hx
      have hs := V.l_lt hx
      obtain ⟨j, hj, rfl⟩ := List.getElem_of_mem hx
      exact ih _ (by omega) ⟨by have := wt_elem (t := t) j hj; omega, q1, q2, q3⟩
    · intro x hx
      rw [h1.2 h78] at hx
      simp at hx
end Go.Proofs.YtclnpjelgdoloaaGreat
